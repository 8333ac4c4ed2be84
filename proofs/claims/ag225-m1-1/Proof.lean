import JvmDerived
import JvmDerived.Pilot.@@N@@Statement
import JvmDerived.Pilot.@@N@@Code
set_option linter.unusedVariables false
set_option linter.unusedSimpArgs false
namespace Jvm.Pilot.@@N@@
open Jvm Jvm.ClassFile Sem Op Lib Jvm.Free Jvm.Stand Jvm.LawKit Jvm.RoadKit Bundle Jvm.Pilot.@@N@@.Jvm.D
/-! own words: where a body stands (own_C), how it ends (own_Ends), one step ahead of that (own_step), the returns -/
def own_C (cls : String) (code : ByteArray) (ml : Nat) (rt : Option FieldType) (nm : String) (p : Program) (s : State) (m : MethodId) (meth : Method) (c : Code) (Z : State) (a0 : Array Value) : Prop :=
  p.tables.exec = Jvm.exec ∧ Z.Warmed39 s.vm ∧ (∀ d ∈ tables_1, d.before a0 Z = true) ∧ c.code = code ∧ c.maxLocals = ml ∧ s.vm.findClass cls = some m.cls ∧ meth.sig.returnType = rt ∧ meth.locks = false ∧ meth.name = nm
def own_Q (n0 : Nat) (h0 : Heap) (w : Option Value) (v : Option Value) (h : Heap) (L : List Loc) : Prop := v = w ∧ Fr n0 L ∧ h = h0
def own_QL (n0 : Nat) (w : Option Value) (v : Option Value) (h : Heap) (L : List Loc) : Prop := v = w ∧ Fr n0 L ∧ True
def own_QR (n0 : Nat) (h0 : Heap) (v : Option Value) (h : Heap) (L : List Loc) : Prop := ∃ b : Addr, v = some (.ref b) ∧ Fr n0 L ∧ Keep h0 h []
def own_Ends (p : Program) (e : Env) (below : List Frame) (s : State) (kc ks : Nat) (Q : Option Value → Heap → List Loc → Prop) (T : State) (g : JFrame) : Prop :=
  ∃ s₂ o, Steps p.tables e below (T.setTop g) s₂ ∧ s₂.status = .running ∧ Ended s₂ below o ∧ ∃ v L, o = .returned v ∧ Q v s₂.heap L ∧ FrameEnd s o s₂ L kc ks
theorem own_step {p : Program} {e : Env} {below : List Frame} {s : State} {kc ks : Nat} {Q : Option Value → Heap → List Loc → Prop} {T T' : State} {g g' : JFrame}
    (st : ∀ target, Steps p.tables e below (T'.setTop g') target → Steps p.tables e below (T.setTop g) target) (h : own_Ends p e below s kc ks Q T' g') : own_Ends p e below s kc ks Q T g := by
  obtain ⟨s₂, o, h1, r⟩ := h
  exact ⟨s₂, o, st _ h1, r⟩
theorem own_mono {p : Program} {e : Env} {below : List Frame} {s : State} {kc ks : Nat} {Q Q' : Option Value → Heap → List Loc → Prop} {T : State} {g : JFrame} (h : own_Ends p e below s kc ks Q T g) (hq : ∀ v h L, Q v h L → Q' v h L) : own_Ends p e below s kc ks Q' T g := by
  obtain ⟨s₂, o, h1, h2, h3, v, L, h4, h5, h6⟩ := h
  exact ⟨s₂, o, h1, h2, h3, v, L, h4, hq _ _ _ h5, h6⟩
theorem own_nn {v : Value} (h : v.isRef = true) (q : ¬ v = .null) : ∃ y, v = .ref y := (ref_cases h).resolve_left q
theorem own_eqR {Z : State} {args : Array Value} {X F : Term} {idx : List Nat} {y : Addr} (hF : F.eval args Z none idx Z = some (.ref y)) (h : (Cond.eq X F).value args Z none Z idx = some true) : X.eval args Z none idx Z = some (.ref y) := by
  obtain ⟨x, y', e1, e2, k1, k2⟩ := cmp_v (Or.inl h)
  cases hF.symm.trans e2
  have hx : x.isRef = true := k2.2
  have := gotT (eq_R e1 hF hx rfl) h
  exact e1.trans (congrArg some this)
theorem own_lmod (x y : Int64) : x - (x / y) * y = x % y := by
  apply Int64.toInt_inj.mp
  have h1 := Int64.le_toInt (x % y)
  have h2 := Int64.toInt_lt (x % y)
  rw [Int64.toInt_sub, Int64.toInt_mul, Int64.toInt_div, Int.bmod_mul_bmod, Int.sub_bmod_bmod, Int.mul_comm (x.toInt.tdiv y.toInt), ← Int.tmod_def, ← Int64.toInt_mod]
  exact Int.bmod_eq_of_le_mul_two (by omega) (by omega)
theorem own_lremM {p : Program} {l : Launch} {e : Env} {R : Room} {s : State} {m : MethodId} {args : Array Value} {below : List Frame} {meth : Method} {c : Code} {T target : State} {locs : List Loc} {cells slots : Nat} {g : JFrame} (X : Stand p l e R s m args below meth c T locs cells slots) (hx : p.tables.exec = Jvm.exec) (hg : g.method = m) {x y : Int64} {rest : List Value} (hd : decode c.code g.pc = .ok (.lrem, 1)) (hs : g.stack = .long y :: .long x :: rest) (hy : y ≠ 0)
    (hr : Steps p.tables e below (T.setTop { g with pc := g.pc + 1, stack := .long (x % y) :: rest }) target) : Steps p.tables e below (T.setTop g) target :=
  XS.lrem X.here hx hg hd hs hy (by rw [own_lmod]; exact hr)
section OwnRet
variable {p : Program} {l : Launch} {e : Env} {R : Room} {s : State} {m : MethodId} {args : Array Value} {below : List Frame} {meth : Method} {c : Code} {T : State} {locs : List Loc} {cells slots : Nat} {kc ks : Nat} {Q : Option Value → Heap → List Loc → Prop}
theorem own_retO (X : Stand p l e R s m args below meth c T locs cells slots) (hx : p.tables.exec = Jvm.exec) {t : FieldType} (hret : meth.sig.returnType = some t) (hlk : meth.locks = false) {pc : Nat} {Ls : Array Slot} {w : Value} {i : Instr} {rest : List Value} (hn : narrow t w = w)
    (hi : (i = .ireturn ∧ (t = .int ∨ t = .boolean ∨ t = .byte ∨ t = .char ∨ t = .short) ∧ ∃ z, w = .int z) ∨ (i = .lreturn ∧ t = .long ∧ ∃ z, w = .long z) ∨ (i = .dreturn ∧ t = .double ∧ ∃ z, w = .double z) ∨ (i = .freturn ∧ t = .float ∧ ∃ z, w = .float z) ∨ (i = .areturn ∧ t.isReference = true ∧ w.isRef = true))
    (hd : decode c.code pc = .ok (i, 1)) (hc : cells ≤ kc) (hs : slots ≤ ks) (hQ : Q (some w) T.heap locs) : own_Ends p e below s kc ks Q T (mkF m pc Ls (w :: rest)) := by
  obtain ⟨fs, hr, hrun, hended, hW, hsame⟩ := X.leave (v := some w) (fun h => by rw [hret] at h; cases h) hlk
  exact ⟨_, _, retOut X hx hret hn hi hd hr, hrun, hended, _, _, rfl, hQ, ⟨_, rfl⟩, hW, hsame.mono hc hs⟩
theorem own_retI (X : Stand p l e R s m args below meth c T locs cells slots) (hx : p.tables.exec = Jvm.exec) (hret : meth.sig.returnType = some .int) (hlk : meth.locks = false) {pc : Nat} {Ls : Array Slot} {z : Int32} {rest : List Value}
    (hd : decode c.code pc = .ok (.ireturn, 1)) (hc : cells ≤ kc) (hs : slots ≤ ks) (hQ : Q (some (.int z)) T.heap locs) : own_Ends p e below s kc ks Q T (mkF m pc Ls (.int z :: rest)) :=
  own_retO X hx hret hlk rfl (Or.inl ⟨rfl, Or.inl rfl, z, rfl⟩) hd hc hs hQ
theorem own_retJ (X : Stand p l e R s m args below meth c T locs cells slots) (hx : p.tables.exec = Jvm.exec) (hret : meth.sig.returnType = some .long) (hlk : meth.locks = false) {pc : Nat} {Ls : Array Slot} {z : Int64} {rest : List Value}
    (hd : decode c.code pc = .ok (.lreturn, 1)) (hc : cells ≤ kc) (hs : slots ≤ ks) (hQ : Q (some (.long z)) T.heap locs) : own_Ends p e below s kc ks Q T (mkF m pc Ls (.long z :: rest)) :=
  own_retO X hx hret hlk rfl (Or.inr (Or.inl ⟨rfl, rfl, z, rfl⟩)) hd hc hs hQ
theorem own_retR (X : Stand p l e R s m args below meth c T locs cells slots) (hx : p.tables.exec = Jvm.exec) {t : FieldType} (hret : meth.sig.returnType = some t) (hlk : meth.locks = false) {pc : Nat} {Ls : Array Slot} {w : Value} {rest : List Value}
    (hd : decode c.code pc = .ok (.areturn, 1)) (hc : cells ≤ kc) (hs : slots ≤ ks) (ht : t.isReference = true) (hw : w.isRef = true) (hQ : Q (some w) T.heap locs) : own_Ends p e below s kc ks Q T (mkF m pc Ls (w :: rest)) :=
  own_retO X hx hret hlk (by cases t <;> first | rfl | cases ht) (Or.inr (Or.inr (Or.inr (Or.inr ⟨rfl, ht, hw⟩)))) hd hc hs hQ
theorem own_retN (X : Stand p l e R s m args below meth c T locs cells slots) {t : FieldType} (hx : p.tables.exec = Jvm.exec) (hret : meth.sig.returnType = some t) (hlk : meth.locks = false) {pc : Nat} {Ls : Array Slot} {z : Int32} {rest : List Value}
    (hd : decode c.code pc = .ok (.ireturn, 1)) (hc : cells ≤ kc) (hs : slots ≤ ks) (ht : t = .boolean ∨ t = .byte ∨ t = .char ∨ t = .short) (hQ : Q (some (.int (nar t z))) T.heap locs) : own_Ends p e below s kc ks Q T (mkF m pc Ls (.int z :: rest)) := by
  obtain ⟨fs, hr, hrun, hended, hW, hsame⟩ := X.leave (v := some (.int (nar t z))) (fun h => by rw [hret] at h; cases h) hlk
  exact ⟨_, _, retN X hx hret ht hd hr, hrun, hended, _, _, rfl, hQ, ⟨_, rfl⟩, hW, hsame.mono hc hs⟩
theorem own_retV (X : Stand p l e R s m args below meth c T locs cells slots) (hx : p.tables.exec = Jvm.exec) (hret : meth.sig.returnType = none) (hlk : meth.locks = false) {pc : Nat} {Ls : Array Slot}
    (hd : decode c.code pc = .ok (.return_, 1)) (hc : cells ≤ kc) (hs : slots ≤ ks) (hQ : Q none T.heap locs) : own_Ends p e below s kc ks Q T (mkF m pc Ls []) := by
  obtain ⟨fs, hr, hrun, hended, hW, hsame⟩ := X.leave (v := none) (fun _ => rfl) hlk
  exact ⟨_, _, X.returnOut hx hret hd hr, hrun, hended, _, _, rfl, hQ, ⟨_, rfl⟩, hW, hsame.mono hc hs⟩
end OwnRet
/-! the same for a body that may load String constants (the wide frame) -/
def own_EndsW (p : Program) (e : Env) (below : List Frame) (s : State) (kc ks : Nat) (Q : Option Value → Heap → List Loc → Prop) (T : State) (g : JFrame) : Prop :=
  ∃ s₂ o, Steps p.tables e below (T.setTop g) s₂ ∧ s₂.status = .running ∧ Ended s₂ below o ∧ ∃ v L, o = .returned v ∧ Q v s₂.heap L ∧ ReturnedEndW s o s₂ L kc ks
theorem own_stepW {p : Program} {e : Env} {below : List Frame} {s : State} {kc ks : Nat} {Q : Option Value → Heap → List Loc → Prop} {T T' : State} {g g' : JFrame}
    (st : ∀ target, Steps p.tables e below (T'.setTop g') target → Steps p.tables e below (T.setTop g) target) (h : own_EndsW p e below s kc ks Q T' g') : own_EndsW p e below s kc ks Q T g := by
  obtain ⟨s₂, o, h1, r⟩ := h
  exact ⟨s₂, o, st _ h1, r⟩
section OwnRetW
variable {p : Program} {l : Launch} {e : Env} {R : Room} {s : State} {vm0 : Vm} {k0 : Nat} {m : MethodId} {args : Array Value} {below : List Frame} {meth : Method} {c : Code} {T : State} {locs : List Loc} {cells slots : Nat} {kc ks : Nat} {Q : Option Value → Heap → List Loc → Prop}
theorem own_retOW (X : Stand p l e R (s.setVm vm0) m args below meth c T locs cells slots) (hS : s.Since vm0 k0) (hk : k0 ≤ T.heap.size) (hx : p.tables.exec = Jvm.exec) {t : FieldType} (hret : meth.sig.returnType = some t) (hlk : meth.locks = false) {pc : Nat} {Ls : Array Slot} {w : Value} {i : Instr} {rest : List Value} (hn : narrow t w = w)
    (hi : (i = .ireturn ∧ (t = .int ∨ t = .boolean ∨ t = .byte ∨ t = .char ∨ t = .short) ∧ ∃ z, w = .int z) ∨ (i = .lreturn ∧ t = .long ∧ ∃ z, w = .long z) ∨ (i = .dreturn ∧ t = .double ∧ ∃ z, w = .double z) ∨ (i = .freturn ∧ t = .float ∧ ∃ z, w = .float z) ∨ (i = .areturn ∧ t.isReference = true ∧ w.isRef = true))
    (hd : decode c.code pc = .ok (i, 1)) (hc : cells ≤ kc) (hs : slots ≤ ks) (hQ : Q (some w) T.heap locs) : own_EndsW p e below s kc ks Q T (mkF m pc Ls (w :: rest)) := by
  obtain ⟨fs, hr, hrun, hended, e1, e2, e3, e4⟩ := X.leaveW hS hk (v := some w) (fun h => by rw [hret] at h; cases h) hlk
  exact ⟨_, _, retOut X hx hret hn hi hd hr, hrun, hended, _, _, rfl, hQ, e1, e2, e3, e4.mono hc hs⟩
theorem own_retRW (X : Stand p l e R (s.setVm vm0) m args below meth c T locs cells slots) (hS : s.Since vm0 k0) (hk : k0 ≤ T.heap.size) (hx : p.tables.exec = Jvm.exec) {t : FieldType} (hret : meth.sig.returnType = some t) (hlk : meth.locks = false) {pc : Nat} {Ls : Array Slot} {w : Value} {rest : List Value}
    (hd : decode c.code pc = .ok (.areturn, 1)) (hc : cells ≤ kc) (hs : slots ≤ ks) (ht : t.isReference = true) (hw : w.isRef = true) (hQ : Q (some w) T.heap locs) : own_EndsW p e below s kc ks Q T (mkF m pc Ls (w :: rest)) :=
  own_retOW X hS hk hx hret hlk (by cases t <;> first | rfl | cases ht) (Or.inr (Or.inr (Or.inr (Or.inr ⟨rfl, ht, hw⟩)))) hd hc hs hQ
theorem own_retNW (X : Stand p l e R (s.setVm vm0) m args below meth c T locs cells slots) (hS : s.Since vm0 k0) (hk : k0 ≤ T.heap.size) {t : FieldType} (hx : p.tables.exec = Jvm.exec) (hret : meth.sig.returnType = some t) (hlk : meth.locks = false) {pc : Nat} {Ls : Array Slot} {z : Int32} {rest : List Value}
    (hd : decode c.code pc = .ok (.ireturn, 1)) (hc : cells ≤ kc) (hs : slots ≤ ks) (ht : t = .boolean ∨ t = .byte ∨ t = .char ∨ t = .short) (hQ : Q (some (.int (nar t z))) T.heap locs) : own_EndsW p e below s kc ks Q T (mkF m pc Ls (.int z :: rest)) := by
  obtain ⟨fs, hr, hrun, hended, e1, e2, e3, e4⟩ := X.leaveW hS hk (v := some (.int (nar t z))) (fun h => by rw [hret] at h; cases h) hlk
  exact ⟨_, _, retN X hx hret ht hd hr, hrun, hended, _, _, rfl, hQ, e1, e2, e3, e4.mono hc hs⟩
end OwnRetW

theorem pn_0 : plainName "com/example/rollforth/rollforth/cli/OptionTakesNumberPinLaw" = true := by first | (simp [plainName, overriddenIn]; done) | decide +kernel
theorem pn_1 : plainName "com/example/rollforth/rollforth/cli/Option" = true := by first | (simp [plainName, overriddenIn]; done) | decide +kernel
theorem pd_0 : parseMethodDescriptor "(I)Lcom/example/rollforth/rollforth/cli/Option;" = some ⟨[.int], some (.object "com/example/rollforth/rollforth/cli/Option")⟩ := by decide +kernel
theorem pd_1 : parseMethodDescriptor "()Z" = some ⟨[], some .boolean⟩ := by decide +kernel
theorem pd_2 : parseMethodDescriptor "(I)Z" = some ⟨[.int], some .boolean⟩ := by decide +kernel
theorem pd_3 : parseMethodDescriptor "()I" = some ⟨[], some .int⟩ := by decide +kernel
theorem d1_0 : decode method_2_code 0 = .ok (.iload_n 0, 1) := by decide +kernel
theorem d1_1 : decode method_2_code 1 = .ok (.ifCond .ne 7, 3) := by decide +kernel
theorem d1_4 : decode method_2_code 4 = .ok (.getstatic 7, 3) := by decide +kernel
theorem d1_7 : decode method_2_code 7 = .ok (.areturn, 1) := by decide +kernel
theorem d1_8 : decode method_2_code 8 = .ok (.iload_n 0, 1) := by decide +kernel
theorem d1_9 : decode method_2_code 9 = .ok (.iconst 1, 1) := by decide +kernel
theorem d1_10 : decode method_2_code 10 = .ok (.if_icmp .ne 7, 3) := by decide +kernel
theorem d1_13 : decode method_2_code 13 = .ok (.getstatic 13, 3) := by decide +kernel
theorem d1_16 : decode method_2_code 16 = .ok (.areturn, 1) := by decide +kernel
theorem d1_17 : decode method_2_code 17 = .ok (.iload_n 0, 1) := by decide +kernel
theorem d1_18 : decode method_2_code 18 = .ok (.iconst 2, 1) := by decide +kernel
theorem d1_19 : decode method_2_code 19 = .ok (.if_icmp .ne 7, 3) := by decide +kernel
theorem d1_22 : decode method_2_code 22 = .ok (.getstatic 16, 3) := by decide +kernel
theorem d1_25 : decode method_2_code 25 = .ok (.areturn, 1) := by decide +kernel
theorem d1_26 : decode method_2_code 26 = .ok (.iload_n 0, 1) := by decide +kernel
theorem d1_27 : decode method_2_code 27 = .ok (.iconst 3, 1) := by decide +kernel
theorem d1_28 : decode method_2_code 28 = .ok (.if_icmp .ne 7, 3) := by decide +kernel
theorem d1_31 : decode method_2_code 31 = .ok (.getstatic 19, 3) := by decide +kernel
theorem d1_34 : decode method_2_code 34 = .ok (.areturn, 1) := by decide +kernel
theorem d1_35 : decode method_2_code 35 = .ok (.iload_n 0, 1) := by decide +kernel
theorem d1_36 : decode method_2_code 36 = .ok (.iconst 4, 1) := by decide +kernel
theorem d1_37 : decode method_2_code 37 = .ok (.if_icmp .ne 7, 3) := by decide +kernel
theorem d1_40 : decode method_2_code 40 = .ok (.getstatic 22, 3) := by decide +kernel
theorem d1_43 : decode method_2_code 43 = .ok (.areturn, 1) := by decide +kernel
theorem d1_44 : decode method_2_code 44 = .ok (.iload_n 0, 1) := by decide +kernel
theorem d1_45 : decode method_2_code 45 = .ok (.iconst 5, 1) := by decide +kernel
theorem d1_46 : decode method_2_code 46 = .ok (.if_icmp .ne 7, 3) := by decide +kernel
theorem d1_49 : decode method_2_code 49 = .ok (.getstatic 25, 3) := by decide +kernel
theorem d1_52 : decode method_2_code 52 = .ok (.areturn, 1) := by decide +kernel
theorem d1_53 : decode method_2_code 53 = .ok (.iload_n 0, 1) := by decide +kernel
theorem d1_54 : decode method_2_code 54 = .ok (.bipush 6, 2) := by decide +kernel
theorem d1_56 : decode method_2_code 56 = .ok (.if_icmp .ne 7, 3) := by decide +kernel
theorem d1_59 : decode method_2_code 59 = .ok (.getstatic 28, 3) := by decide +kernel
theorem d1_62 : decode method_2_code 62 = .ok (.areturn, 1) := by decide +kernel
theorem d1_63 : decode method_2_code 63 = .ok (.iload_n 0, 1) := by decide +kernel
theorem d1_64 : decode method_2_code 64 = .ok (.bipush 7, 2) := by decide +kernel
theorem d1_66 : decode method_2_code 66 = .ok (.if_icmp .ne 7, 3) := by decide +kernel
theorem d1_69 : decode method_2_code 69 = .ok (.getstatic 31, 3) := by decide +kernel
theorem d1_72 : decode method_2_code 72 = .ok (.areturn, 1) := by decide +kernel
theorem d1_73 : decode method_2_code 73 = .ok (.iload_n 0, 1) := by decide +kernel
theorem d1_74 : decode method_2_code 74 = .ok (.bipush 8, 2) := by decide +kernel
theorem d1_76 : decode method_2_code 76 = .ok (.if_icmp .ne 7, 3) := by decide +kernel
theorem d1_79 : decode method_2_code 79 = .ok (.getstatic 34, 3) := by decide +kernel
theorem d1_82 : decode method_2_code 82 = .ok (.areturn, 1) := by decide +kernel
theorem d1_83 : decode method_2_code 83 = .ok (.iload_n 0, 1) := by decide +kernel
theorem d1_84 : decode method_2_code 84 = .ok (.bipush 9, 2) := by decide +kernel
theorem d1_86 : decode method_2_code 86 = .ok (.if_icmp .ne 7, 3) := by decide +kernel
theorem d1_89 : decode method_2_code 89 = .ok (.getstatic 37, 3) := by decide +kernel
theorem d1_92 : decode method_2_code 92 = .ok (.areturn, 1) := by decide +kernel
theorem d1_93 : decode method_2_code 93 = .ok (.iload_n 0, 1) := by decide +kernel
theorem d1_94 : decode method_2_code 94 = .ok (.bipush 10, 2) := by decide +kernel
theorem d1_96 : decode method_2_code 96 = .ok (.if_icmp .ne 7, 3) := by decide +kernel
theorem d1_99 : decode method_2_code 99 = .ok (.getstatic 40, 3) := by decide +kernel
theorem d1_102 : decode method_2_code 102 = .ok (.areturn, 1) := by decide +kernel
theorem d1_103 : decode method_2_code 103 = .ok (.iload_n 0, 1) := by decide +kernel
theorem d1_104 : decode method_2_code 104 = .ok (.bipush 11, 2) := by decide +kernel
theorem d1_106 : decode method_2_code 106 = .ok (.if_icmp .ne 7, 3) := by decide +kernel
theorem d1_109 : decode method_2_code 109 = .ok (.getstatic 43, 3) := by decide +kernel
theorem d1_112 : decode method_2_code 112 = .ok (.areturn, 1) := by decide +kernel
theorem d1_113 : decode method_2_code 113 = .ok (.iload_n 0, 1) := by decide +kernel
theorem d1_114 : decode method_2_code 114 = .ok (.bipush 12, 2) := by decide +kernel
theorem d1_116 : decode method_2_code 116 = .ok (.if_icmp .ne 7, 3) := by decide +kernel
theorem d1_119 : decode method_2_code 119 = .ok (.getstatic 46, 3) := by decide +kernel
theorem d1_122 : decode method_2_code 122 = .ok (.areturn, 1) := by decide +kernel
theorem d1_123 : decode method_2_code 123 = .ok (.getstatic 49, 3) := by decide +kernel
theorem d1_126 : decode method_2_code 126 = .ok (.areturn, 1) := by decide +kernel
def f1_0 (i0 : Int32) (wo0 : Addr) (wo1 : Addr) (wo2 : Addr) (wo3 : Addr) (wo4 : Addr) (wo5 : Addr) (wo6 : Addr) (wo7 : Addr) (wo8 : Addr) (wo9 : Addr) (wo10 : Addr) (wo11 : Addr) (wo12 : Addr) (wo13 : Addr) : Addr := (if i0 = (0 : Int32) then wo0 else (if i0 = (1 : Int32) then wo1 else (if i0 = (2 : Int32) then wo2 else (if i0 = (3 : Int32) then wo3 else (if i0 = (4 : Int32) then wo4 else (if i0 = (5 : Int32) then wo5 else (if i0 = (6 : Int32) then wo6 else (if i0 = (7 : Int32) then wo7 else (if i0 = (8 : Int32) then wo8 else (if i0 = (9 : Int32) then wo9 else (if i0 = (10 : Int32) then wo10 else (if i0 = (11 : Int32) then wo11 else (if i0 = (12 : Int32) then wo12 else wo13)))))))))))))
set_option maxRecDepth 65536 in
set_option maxHeartbeats 40000000 in
theorem b1_0 {p : Program} {l : Launch} {e : Env} {s : State} {m : MethodId} {args : Array Value} {below : List Frame} {meth : Method} {c : Code} {Z : State} {a0 : Array Value} {h0 : Heap} {n0 : Nat} (C : own_C "com/example/rollforth/rollforth/cli/OptionTakesNumberPinLaw" method_2_code 1 (some (.object "com/example/rollforth/rollforth/cli/Option")) "pick" p s m meth c Z a0) (Z0 : n0 ≤ h0.size) {T0 : State} {locs : List Loc} (X0 : Stand p l e ({ frames := 0, cells := 0, slots := 0, locals := 0 } : Room) s m args below meth c T0 locs 0 0) (e0 : T0.heap = h0) (N0 : Fr n0 locs) (i0 : Int32) (wo0 : Addr) (wo1 : Addr) (wo2 : Addr) (wo3 : Addr) (wo4 : Addr) (wo5 : Addr) (wo6 : Addr) (wo7 : Addr) (wo8 : Addr) (wo9 : Addr) (wo10 : Addr) (wo11 : Addr) (wo12 : Addr) (wo13 : Addr) (Sw0 : Sta Z h0 "com/example/rollforth/rollforth/cli/Option" "ACCOUNTS" "Lcom/example/rollforth/rollforth/cli/Option;" (.ref wo0)) (Sw1 : Sta Z h0 "com/example/rollforth/rollforth/cli/Option" "ACK" "Lcom/example/rollforth/rollforth/cli/Option;" (.ref wo1)) (Sw2 : Sta Z h0 "com/example/rollforth/rollforth/cli/Option" "BACKUP_AT" "Lcom/example/rollforth/rollforth/cli/Option;" (.ref wo2)) (Sw3 : Sta Z h0 "com/example/rollforth/rollforth/cli/Option" "BACKUP_TO" "Lcom/example/rollforth/rollforth/cli/Option;" (.ref wo3)) (Sw4 : Sta Z h0 "com/example/rollforth/rollforth/cli/Option" "BATCH" "Lcom/example/rollforth/rollforth/cli/Option;" (.ref wo4)) (Sw5 : Sta Z h0 "com/example/rollforth/rollforth/cli/Option" "CACHE_PAGES" "Lcom/example/rollforth/rollforth/cli/Option;" (.ref wo5)) (Sw6 : Sta Z h0 "com/example/rollforth/rollforth/cli/Option" "CHECKPOINT_BYTES" "Lcom/example/rollforth/rollforth/cli/Option;" (.ref wo6)) (Sw7 : Sta Z h0 "com/example/rollforth/rollforth/cli/Option" "CLIENTS" "Lcom/example/rollforth/rollforth/cli/Option;" (.ref wo7)) (Sw8 : Sta Z h0 "com/example/rollforth/rollforth/cli/Option" "DELETE_ARCHIVED" "Lcom/example/rollforth/rollforth/cli/Option;" (.ref wo8)) (Sw9 : Sta Z h0 "com/example/rollforth/rollforth/cli/Option" "FROM" "Lcom/example/rollforth/rollforth/cli/Option;" (.ref wo9)) (Sw10 : Sta Z h0 "com/example/rollforth/rollforth/cli/Option" "INIT" "Lcom/example/rollforth/rollforth/cli/Option;" (.ref wo10)) (Sw11 : Sta Z h0 "com/example/rollforth/rollforth/cli/Option" "LOG_FILE_BYTES" "Lcom/example/rollforth/rollforth/cli/Option;" (.ref wo11)) (Sw12 : Sta Z h0 "com/example/rollforth/rollforth/cli/Option" "SECONDS" "Lcom/example/rollforth/rollforth/cli/Option;" (.ref wo12)) (Sw13 : Sta Z h0 "com/example/rollforth/rollforth/cli/Option" "STATS" "Lcom/example/rollforth/rollforth/cli/Option;" (.ref wo13)) (W : Addr) (hv : W = f1_0 i0 wo0 wo1 wo2 wo3 wo4 wo5 wo6 wo7 wo8 wo9 wo10 wo11 wo12 wo13) :
    own_Ends p e below s ({ frames := 0, cells := 0, slots := 0, locals := 0 } : Room).cells ({ frames := 0, cells := 0, slots := 0, locals := 0 } : Room).slots (own_Q n0 h0 (some (.ref W))) T0 (mkF m 0 #[.val (.int i0)] []) := by
  obtain ⟨hx, hZ, hw, hby, hml, hown, hret, hlk, hnm⟩ := C
  have C : own_C "com/example/rollforth/rollforth/cli/OptionTakesNumberPinLaw" method_2_code 1 (some (.object "com/example/rollforth/rollforth/cli/Option")) "pick" p s m meth c Z a0 := ⟨hx, hZ, hw, hby, hml, hown, hret, hlk, hnm⟩
  unfold f1_0 at hv
  refine own_step (fun _ => XS.iloadN X0.here hx rfl (hb hby d1_0) rfl) ?_
  show own_Ends p e below s _ _ _ T0 (mkF m 1 #[.val (.int i0)] [(.int i0)])
  by_cases hc1 : i0 = (0 : Int32)
  · have hv_t := hv.trans (if_pos hc1)
    refine own_step (fun _ => XS.ifNo X0.here hx rfl (hb hby d1_1) rfl ((if0 _ _).trans (teq hc1).2)) ?_
    show own_Ends p e below s _ _ _ T0 (mkF m 4 #[.val (.int i0)] [])
    obtain ⟨T15, X15, e15, st15⟩ := getS2 X0 hx hZ hown (host := "") (Or.inl (hw _ (List.mem_of_getElem? (i := 5) rfl))) Via.refl e0 Sw0 (g := (mkF m 4 #[.val (.int i0)] [])) rfl (hb hby d1_4)
    refine own_step st15 ?_
    show own_Ends p e below s _ _ _ T15 (mkF m 7 #[.val (.int i0)] [(.ref wo0)])
    exact own_retR X15 hx hret hlk (hb hby d1_7) (by decide) (by decide) rfl rfl ⟨congrArg (fun z => some (Value.ref z)) hv_t.symm, N0, e15⟩
  · have hv_f := hv.trans (if_neg hc1)
    refine own_step (fun _ => XS.ifYes X0.here hx rfl (pc0 := 1) (pc' := 8) rfl (hb hby d1_1) rfl ((if0 _ _).trans (feq hc1).2) (by decide) (by decide)) ?_
    show own_Ends p e below s _ _ _ T0 (mkF m 8 #[.val (.int i0)] [])
    refine own_step (fun _ => XS.iloadN X0.here hx rfl (hb hby d1_8) rfl) ?_
    show own_Ends p e below s _ _ _ T0 (mkF m 9 #[.val (.int i0)] [(.int i0)])
    refine own_step (fun _ => XS.iconst X0.here hx rfl (hb hby d1_9)) ?_
    show own_Ends p e below s _ _ _ T0 (mkF m 10 #[.val (.int i0)] [(.int (1 : Int32)), (.int i0)])
    by_cases hc10 : i0 = (1 : Int32)
    · have hv_f_t := hv_f.trans (if_pos hc10)
      refine own_step (fun _ => XS.icmpNo X0.here hx rfl (hb hby d1_10) rfl (teq hc10).2) ?_
      show own_Ends p e below s _ _ _ T0 (mkF m 13 #[.val (.int i0)] [])
      obtain ⟨T16, X16, e16, st16⟩ := getS2 X0 hx hZ hown (host := "") (Or.inl (hw _ (List.mem_of_getElem? (i := 48) rfl))) Via.refl e0 Sw1 (g := (mkF m 13 #[.val (.int i0)] [])) rfl (hb hby d1_13)
      refine own_step st16 ?_
      show own_Ends p e below s _ _ _ T16 (mkF m 16 #[.val (.int i0)] [(.ref wo1)])
      exact own_retR X16 hx hret hlk (hb hby d1_16) (by decide) (by decide) rfl rfl ⟨congrArg (fun z => some (Value.ref z)) hv_f_t.symm, N0, e16⟩
    · have hv_f_f := hv_f.trans (if_neg hc10)
      refine own_step (fun _ => XS.icmpYes X0.here hx rfl (pc0 := 10) (pc' := 17) rfl (hb hby d1_10) rfl (feq hc10).2 (by decide) (by decide)) ?_
      show own_Ends p e below s _ _ _ T0 (mkF m 17 #[.val (.int i0)] [])
      refine own_step (fun _ => XS.iloadN X0.here hx rfl (hb hby d1_17) rfl) ?_
      show own_Ends p e below s _ _ _ T0 (mkF m 18 #[.val (.int i0)] [(.int i0)])
      refine own_step (fun _ => XS.iconst X0.here hx rfl (hb hby d1_18)) ?_
      show own_Ends p e below s _ _ _ T0 (mkF m 19 #[.val (.int i0)] [(.int (2 : Int32)), (.int i0)])
      by_cases hc19 : i0 = (2 : Int32)
      · have hv_f_f_t := hv_f_f.trans (if_pos hc19)
        refine own_step (fun _ => XS.icmpNo X0.here hx rfl (hb hby d1_19) rfl (teq hc19).2) ?_
        show own_Ends p e below s _ _ _ T0 (mkF m 22 #[.val (.int i0)] [])
        obtain ⟨T17, X17, e17, st17⟩ := getS2 X0 hx hZ hown (host := "") (Or.inl (hw _ (List.mem_of_getElem? (i := 40) rfl))) Via.refl e0 Sw2 (g := (mkF m 22 #[.val (.int i0)] [])) rfl (hb hby d1_22)
        refine own_step st17 ?_
        show own_Ends p e below s _ _ _ T17 (mkF m 25 #[.val (.int i0)] [(.ref wo2)])
        exact own_retR X17 hx hret hlk (hb hby d1_25) (by decide) (by decide) rfl rfl ⟨congrArg (fun z => some (Value.ref z)) hv_f_f_t.symm, N0, e17⟩
      · have hv_f_f_f := hv_f_f.trans (if_neg hc19)
        refine own_step (fun _ => XS.icmpYes X0.here hx rfl (pc0 := 19) (pc' := 26) rfl (hb hby d1_19) rfl (feq hc19).2 (by decide) (by decide)) ?_
        show own_Ends p e below s _ _ _ T0 (mkF m 26 #[.val (.int i0)] [])
        refine own_step (fun _ => XS.iloadN X0.here hx rfl (hb hby d1_26) rfl) ?_
        show own_Ends p e below s _ _ _ T0 (mkF m 27 #[.val (.int i0)] [(.int i0)])
        refine own_step (fun _ => XS.iconst X0.here hx rfl (hb hby d1_27)) ?_
        show own_Ends p e below s _ _ _ T0 (mkF m 28 #[.val (.int i0)] [(.int (3 : Int32)), (.int i0)])
        by_cases hc28 : i0 = (3 : Int32)
        · have hv_f_f_f_t := hv_f_f_f.trans (if_pos hc28)
          refine own_step (fun _ => XS.icmpNo X0.here hx rfl (hb hby d1_28) rfl (teq hc28).2) ?_
          show own_Ends p e below s _ _ _ T0 (mkF m 31 #[.val (.int i0)] [])
          obtain ⟨T18, X18, e18, st18⟩ := getS2 X0 hx hZ hown (host := "") (Or.inl (hw _ (List.mem_of_getElem? (i := 30) rfl))) Via.refl e0 Sw3 (g := (mkF m 31 #[.val (.int i0)] [])) rfl (hb hby d1_31)
          refine own_step st18 ?_
          show own_Ends p e below s _ _ _ T18 (mkF m 34 #[.val (.int i0)] [(.ref wo3)])
          exact own_retR X18 hx hret hlk (hb hby d1_34) (by decide) (by decide) rfl rfl ⟨congrArg (fun z => some (Value.ref z)) hv_f_f_f_t.symm, N0, e18⟩
        · have hv_f_f_f_f := hv_f_f_f.trans (if_neg hc28)
          refine own_step (fun _ => XS.icmpYes X0.here hx rfl (pc0 := 28) (pc' := 35) rfl (hb hby d1_28) rfl (feq hc28).2 (by decide) (by decide)) ?_
          show own_Ends p e below s _ _ _ T0 (mkF m 35 #[.val (.int i0)] [])
          refine own_step (fun _ => XS.iloadN X0.here hx rfl (hb hby d1_35) rfl) ?_
          show own_Ends p e below s _ _ _ T0 (mkF m 36 #[.val (.int i0)] [(.int i0)])
          refine own_step (fun _ => XS.iconst X0.here hx rfl (hb hby d1_36)) ?_
          show own_Ends p e below s _ _ _ T0 (mkF m 37 #[.val (.int i0)] [(.int (4 : Int32)), (.int i0)])
          by_cases hc37 : i0 = (4 : Int32)
          · have hv_f_f_f_f_t := hv_f_f_f_f.trans (if_pos hc37)
            refine own_step (fun _ => XS.icmpNo X0.here hx rfl (hb hby d1_37) rfl (teq hc37).2) ?_
            show own_Ends p e below s _ _ _ T0 (mkF m 40 #[.val (.int i0)] [])
            obtain ⟨T19, X19, e19, st19⟩ := getS2 X0 hx hZ hown (host := "") (Or.inl (hw _ (List.mem_of_getElem? (i := 36) rfl))) Via.refl e0 Sw4 (g := (mkF m 40 #[.val (.int i0)] [])) rfl (hb hby d1_40)
            refine own_step st19 ?_
            show own_Ends p e below s _ _ _ T19 (mkF m 43 #[.val (.int i0)] [(.ref wo4)])
            exact own_retR X19 hx hret hlk (hb hby d1_43) (by decide) (by decide) rfl rfl ⟨congrArg (fun z => some (Value.ref z)) hv_f_f_f_f_t.symm, N0, e19⟩
          · have hv_f_f_f_f_f := hv_f_f_f_f.trans (if_neg hc37)
            refine own_step (fun _ => XS.icmpYes X0.here hx rfl (pc0 := 37) (pc' := 44) rfl (hb hby d1_37) rfl (feq hc37).2 (by decide) (by decide)) ?_
            show own_Ends p e below s _ _ _ T0 (mkF m 44 #[.val (.int i0)] [])
            refine own_step (fun _ => XS.iloadN X0.here hx rfl (hb hby d1_44) rfl) ?_
            show own_Ends p e below s _ _ _ T0 (mkF m 45 #[.val (.int i0)] [(.int i0)])
            refine own_step (fun _ => XS.iconst X0.here hx rfl (hb hby d1_45)) ?_
            show own_Ends p e below s _ _ _ T0 (mkF m 46 #[.val (.int i0)] [(.int (5 : Int32)), (.int i0)])
            by_cases hc46 : i0 = (5 : Int32)
            · have hv_f_f_f_f_f_t := hv_f_f_f_f_f.trans (if_pos hc46)
              refine own_step (fun _ => XS.icmpNo X0.here hx rfl (hb hby d1_46) rfl (teq hc46).2) ?_
              show own_Ends p e below s _ _ _ T0 (mkF m 49 #[.val (.int i0)] [])
              obtain ⟨T20, X20, e20, st20⟩ := getS2 X0 hx hZ hown (host := "") (Or.inl (hw _ (List.mem_of_getElem? (i := 52) rfl))) Via.refl e0 Sw5 (g := (mkF m 49 #[.val (.int i0)] [])) rfl (hb hby d1_49)
              refine own_step st20 ?_
              show own_Ends p e below s _ _ _ T20 (mkF m 52 #[.val (.int i0)] [(.ref wo5)])
              exact own_retR X20 hx hret hlk (hb hby d1_52) (by decide) (by decide) rfl rfl ⟨congrArg (fun z => some (Value.ref z)) hv_f_f_f_f_f_t.symm, N0, e20⟩
            · have hv_f_f_f_f_f_f := hv_f_f_f_f_f.trans (if_neg hc46)
              refine own_step (fun _ => XS.icmpYes X0.here hx rfl (pc0 := 46) (pc' := 53) rfl (hb hby d1_46) rfl (feq hc46).2 (by decide) (by decide)) ?_
              show own_Ends p e below s _ _ _ T0 (mkF m 53 #[.val (.int i0)] [])
              refine own_step (fun _ => XS.iloadN X0.here hx rfl (hb hby d1_53) rfl) ?_
              show own_Ends p e below s _ _ _ T0 (mkF m 54 #[.val (.int i0)] [(.int i0)])
              refine own_step (fun _ => XS.bipush X0.here hx rfl (hb hby d1_54)) ?_
              show own_Ends p e below s _ _ _ T0 (mkF m 56 #[.val (.int i0)] [(.int (6 : Int32)), (.int i0)])
              by_cases hc56 : i0 = (6 : Int32)
              · have hv_f_f_f_f_f_f_t := hv_f_f_f_f_f_f.trans (if_pos hc56)
                refine own_step (fun _ => XS.icmpNo X0.here hx rfl (hb hby d1_56) rfl (teq hc56).2) ?_
                show own_Ends p e below s _ _ _ T0 (mkF m 59 #[.val (.int i0)] [])
                obtain ⟨T21, X21, e21, st21⟩ := getS2 X0 hx hZ hown (host := "") (Or.inl (hw _ (List.mem_of_getElem? (i := 54) rfl))) Via.refl e0 Sw6 (g := (mkF m 59 #[.val (.int i0)] [])) rfl (hb hby d1_59)
                refine own_step st21 ?_
                show own_Ends p e below s _ _ _ T21 (mkF m 62 #[.val (.int i0)] [(.ref wo6)])
                exact own_retR X21 hx hret hlk (hb hby d1_62) (by decide) (by decide) rfl rfl ⟨congrArg (fun z => some (Value.ref z)) hv_f_f_f_f_f_f_t.symm, N0, e21⟩
              · have hv_f_f_f_f_f_f_f := hv_f_f_f_f_f_f.trans (if_neg hc56)
                refine own_step (fun _ => XS.icmpYes X0.here hx rfl (pc0 := 56) (pc' := 63) rfl (hb hby d1_56) rfl (feq hc56).2 (by decide) (by decide)) ?_
                show own_Ends p e below s _ _ _ T0 (mkF m 63 #[.val (.int i0)] [])
                refine own_step (fun _ => XS.iloadN X0.here hx rfl (hb hby d1_63) rfl) ?_
                show own_Ends p e below s _ _ _ T0 (mkF m 64 #[.val (.int i0)] [(.int i0)])
                refine own_step (fun _ => XS.bipush X0.here hx rfl (hb hby d1_64)) ?_
                show own_Ends p e below s _ _ _ T0 (mkF m 66 #[.val (.int i0)] [(.int (7 : Int32)), (.int i0)])
                by_cases hc66 : i0 = (7 : Int32)
                · have hv_f_f_f_f_f_f_f_t := hv_f_f_f_f_f_f_f.trans (if_pos hc66)
                  refine own_step (fun _ => XS.icmpNo X0.here hx rfl (hb hby d1_66) rfl (teq hc66).2) ?_
                  show own_Ends p e below s _ _ _ T0 (mkF m 69 #[.val (.int i0)] [])
                  obtain ⟨T22, X22, e22, st22⟩ := getS2 X0 hx hZ hown (host := "") (Or.inl (hw _ (List.mem_of_getElem? (i := 38) rfl))) Via.refl e0 Sw7 (g := (mkF m 69 #[.val (.int i0)] [])) rfl (hb hby d1_69)
                  refine own_step st22 ?_
                  show own_Ends p e below s _ _ _ T22 (mkF m 72 #[.val (.int i0)] [(.ref wo7)])
                  exact own_retR X22 hx hret hlk (hb hby d1_72) (by decide) (by decide) rfl rfl ⟨congrArg (fun z => some (Value.ref z)) hv_f_f_f_f_f_f_f_t.symm, N0, e22⟩
                · have hv_f_f_f_f_f_f_f_f := hv_f_f_f_f_f_f_f.trans (if_neg hc66)
                  refine own_step (fun _ => XS.icmpYes X0.here hx rfl (pc0 := 66) (pc' := 73) rfl (hb hby d1_66) rfl (feq hc66).2 (by decide) (by decide)) ?_
                  show own_Ends p e below s _ _ _ T0 (mkF m 73 #[.val (.int i0)] [])
                  refine own_step (fun _ => XS.iloadN X0.here hx rfl (hb hby d1_73) rfl) ?_
                  show own_Ends p e below s _ _ _ T0 (mkF m 74 #[.val (.int i0)] [(.int i0)])
                  refine own_step (fun _ => XS.bipush X0.here hx rfl (hb hby d1_74)) ?_
                  show own_Ends p e below s _ _ _ T0 (mkF m 76 #[.val (.int i0)] [(.int (8 : Int32)), (.int i0)])
                  by_cases hc76 : i0 = (8 : Int32)
                  · have hv_f_f_f_f_f_f_f_f_t := hv_f_f_f_f_f_f_f_f.trans (if_pos hc76)
                    refine own_step (fun _ => XS.icmpNo X0.here hx rfl (hb hby d1_76) rfl (teq hc76).2) ?_
                    show own_Ends p e below s _ _ _ T0 (mkF m 79 #[.val (.int i0)] [])
                    obtain ⟨T23, X23, e23, st23⟩ := getS2 X0 hx hZ hown (host := "") (Or.inl (hw _ (List.mem_of_getElem? (i := 46) rfl))) Via.refl e0 Sw8 (g := (mkF m 79 #[.val (.int i0)] [])) rfl (hb hby d1_79)
                    refine own_step st23 ?_
                    show own_Ends p e below s _ _ _ T23 (mkF m 82 #[.val (.int i0)] [(.ref wo8)])
                    exact own_retR X23 hx hret hlk (hb hby d1_82) (by decide) (by decide) rfl rfl ⟨congrArg (fun z => some (Value.ref z)) hv_f_f_f_f_f_f_f_f_t.symm, N0, e23⟩
                  · have hv_f_f_f_f_f_f_f_f_f := hv_f_f_f_f_f_f_f_f.trans (if_neg hc76)
                    refine own_step (fun _ => XS.icmpYes X0.here hx rfl (pc0 := 76) (pc' := 83) rfl (hb hby d1_76) rfl (feq hc76).2 (by decide) (by decide)) ?_
                    show own_Ends p e below s _ _ _ T0 (mkF m 83 #[.val (.int i0)] [])
                    refine own_step (fun _ => XS.iloadN X0.here hx rfl (hb hby d1_83) rfl) ?_
                    show own_Ends p e below s _ _ _ T0 (mkF m 84 #[.val (.int i0)] [(.int i0)])
                    refine own_step (fun _ => XS.bipush X0.here hx rfl (hb hby d1_84)) ?_
                    show own_Ends p e below s _ _ _ T0 (mkF m 86 #[.val (.int i0)] [(.int (9 : Int32)), (.int i0)])
                    by_cases hc86 : i0 = (9 : Int32)
                    · have hv_f_f_f_f_f_f_f_f_f_t := hv_f_f_f_f_f_f_f_f_f.trans (if_pos hc86)
                      refine own_step (fun _ => XS.icmpNo X0.here hx rfl (hb hby d1_86) rfl (teq hc86).2) ?_
                      show own_Ends p e below s _ _ _ T0 (mkF m 89 #[.val (.int i0)] [])
                      obtain ⟨T24, X24, e24, st24⟩ := getS2 X0 hx hZ hown (host := "") (Or.inl (hw _ (List.mem_of_getElem? (i := 50) rfl))) Via.refl e0 Sw9 (g := (mkF m 89 #[.val (.int i0)] [])) rfl (hb hby d1_89)
                      refine own_step st24 ?_
                      show own_Ends p e below s _ _ _ T24 (mkF m 92 #[.val (.int i0)] [(.ref wo9)])
                      exact own_retR X24 hx hret hlk (hb hby d1_92) (by decide) (by decide) rfl rfl ⟨congrArg (fun z => some (Value.ref z)) hv_f_f_f_f_f_f_f_f_f_t.symm, N0, e24⟩
                    · have hv_f_f_f_f_f_f_f_f_f_f := hv_f_f_f_f_f_f_f_f_f.trans (if_neg hc86)
                      refine own_step (fun _ => XS.icmpYes X0.here hx rfl (pc0 := 86) (pc' := 93) rfl (hb hby d1_86) rfl (feq hc86).2 (by decide) (by decide)) ?_
                      show own_Ends p e below s _ _ _ T0 (mkF m 93 #[.val (.int i0)] [])
                      refine own_step (fun _ => XS.iloadN X0.here hx rfl (hb hby d1_93) rfl) ?_
                      show own_Ends p e below s _ _ _ T0 (mkF m 94 #[.val (.int i0)] [(.int i0)])
                      refine own_step (fun _ => XS.bipush X0.here hx rfl (hb hby d1_94)) ?_
                      show own_Ends p e below s _ _ _ T0 (mkF m 96 #[.val (.int i0)] [(.int (10 : Int32)), (.int i0)])
                      by_cases hc96 : i0 = (10 : Int32)
                      · have hv_f_f_f_f_f_f_f_f_f_f_t := hv_f_f_f_f_f_f_f_f_f_f.trans (if_pos hc96)
                        refine own_step (fun _ => XS.icmpNo X0.here hx rfl (hb hby d1_96) rfl (teq hc96).2) ?_
                        show own_Ends p e below s _ _ _ T0 (mkF m 99 #[.val (.int i0)] [])
                        obtain ⟨T25, X25, e25, st25⟩ := getS2 X0 hx hZ hown (host := "") (Or.inl (hw _ (List.mem_of_getElem? (i := 44) rfl))) Via.refl e0 Sw10 (g := (mkF m 99 #[.val (.int i0)] [])) rfl (hb hby d1_99)
                        refine own_step st25 ?_
                        show own_Ends p e below s _ _ _ T25 (mkF m 102 #[.val (.int i0)] [(.ref wo10)])
                        exact own_retR X25 hx hret hlk (hb hby d1_102) (by decide) (by decide) rfl rfl ⟨congrArg (fun z => some (Value.ref z)) hv_f_f_f_f_f_f_f_f_f_f_t.symm, N0, e25⟩
                      · have hv_f_f_f_f_f_f_f_f_f_f_f := hv_f_f_f_f_f_f_f_f_f_f.trans (if_neg hc96)
                        refine own_step (fun _ => XS.icmpYes X0.here hx rfl (pc0 := 96) (pc' := 103) rfl (hb hby d1_96) rfl (feq hc96).2 (by decide) (by decide)) ?_
                        show own_Ends p e below s _ _ _ T0 (mkF m 103 #[.val (.int i0)] [])
                        refine own_step (fun _ => XS.iloadN X0.here hx rfl (hb hby d1_103) rfl) ?_
                        show own_Ends p e below s _ _ _ T0 (mkF m 104 #[.val (.int i0)] [(.int i0)])
                        refine own_step (fun _ => XS.bipush X0.here hx rfl (hb hby d1_104)) ?_
                        show own_Ends p e below s _ _ _ T0 (mkF m 106 #[.val (.int i0)] [(.int (11 : Int32)), (.int i0)])
                        by_cases hc106 : i0 = (11 : Int32)
                        · have hv_f_f_f_f_f_f_f_f_f_f_f_t := hv_f_f_f_f_f_f_f_f_f_f_f.trans (if_pos hc106)
                          refine own_step (fun _ => XS.icmpNo X0.here hx rfl (hb hby d1_106) rfl (teq hc106).2) ?_
                          show own_Ends p e below s _ _ _ T0 (mkF m 109 #[.val (.int i0)] [])
                          obtain ⟨T26, X26, e26, st26⟩ := getS2 X0 hx hZ hown (host := "") (Or.inl (hw _ (List.mem_of_getElem? (i := 42) rfl))) Via.refl e0 Sw11 (g := (mkF m 109 #[.val (.int i0)] [])) rfl (hb hby d1_109)
                          refine own_step st26 ?_
                          show own_Ends p e below s _ _ _ T26 (mkF m 112 #[.val (.int i0)] [(.ref wo11)])
                          exact own_retR X26 hx hret hlk (hb hby d1_112) (by decide) (by decide) rfl rfl ⟨congrArg (fun z => some (Value.ref z)) hv_f_f_f_f_f_f_f_f_f_f_f_t.symm, N0, e26⟩
                        · have hv_f_f_f_f_f_f_f_f_f_f_f_f := hv_f_f_f_f_f_f_f_f_f_f_f.trans (if_neg hc106)
                          refine own_step (fun _ => XS.icmpYes X0.here hx rfl (pc0 := 106) (pc' := 113) rfl (hb hby d1_106) rfl (feq hc106).2 (by decide) (by decide)) ?_
                          show own_Ends p e below s _ _ _ T0 (mkF m 113 #[.val (.int i0)] [])
                          refine own_step (fun _ => XS.iloadN X0.here hx rfl (hb hby d1_113) rfl) ?_
                          show own_Ends p e below s _ _ _ T0 (mkF m 114 #[.val (.int i0)] [(.int i0)])
                          refine own_step (fun _ => XS.bipush X0.here hx rfl (hb hby d1_114)) ?_
                          show own_Ends p e below s _ _ _ T0 (mkF m 116 #[.val (.int i0)] [(.int (12 : Int32)), (.int i0)])
                          by_cases hc116 : i0 = (12 : Int32)
                          · have hv_f_f_f_f_f_f_f_f_f_f_f_f_t := hv_f_f_f_f_f_f_f_f_f_f_f_f.trans (if_pos hc116)
                            refine own_step (fun _ => XS.icmpNo X0.here hx rfl (hb hby d1_116) rfl (teq hc116).2) ?_
                            show own_Ends p e below s _ _ _ T0 (mkF m 119 #[.val (.int i0)] [])
                            obtain ⟨T27, X27, e27, st27⟩ := getS2 X0 hx hZ hown (host := "") (Or.inl (hw _ (List.mem_of_getElem? (i := 32) rfl))) Via.refl e0 Sw12 (g := (mkF m 119 #[.val (.int i0)] [])) rfl (hb hby d1_119)
                            refine own_step st27 ?_
                            show own_Ends p e below s _ _ _ T27 (mkF m 122 #[.val (.int i0)] [(.ref wo12)])
                            exact own_retR X27 hx hret hlk (hb hby d1_122) (by decide) (by decide) rfl rfl ⟨congrArg (fun z => some (Value.ref z)) hv_f_f_f_f_f_f_f_f_f_f_f_f_t.symm, N0, e27⟩
                          · have hv_f_f_f_f_f_f_f_f_f_f_f_f_f := hv_f_f_f_f_f_f_f_f_f_f_f_f.trans (if_neg hc116)
                            refine own_step (fun _ => XS.icmpYes X0.here hx rfl (pc0 := 116) (pc' := 123) rfl (hb hby d1_116) rfl (feq hc116).2 (by decide) (by decide)) ?_
                            show own_Ends p e below s _ _ _ T0 (mkF m 123 #[.val (.int i0)] [])
                            obtain ⟨T28, X28, e28, st28⟩ := getS2 X0 hx hZ hown (host := "") (Or.inl (hw _ (List.mem_of_getElem? (i := 34) rfl))) Via.refl e0 Sw13 (g := (mkF m 123 #[.val (.int i0)] [])) rfl (hb hby d1_123)
                            refine own_step st28 ?_
                            show own_Ends p e below s _ _ _ T28 (mkF m 126 #[.val (.int i0)] [(.ref wo13)])
                            exact own_retR X28 hx hret hlk (hb hby d1_126) (by decide) (by decide) rfl rfl ⟨congrArg (fun z => some (Value.ref z)) hv_f_f_f_f_f_f_f_f_f_f_f_f_f.symm, N0, e28⟩
theorem ef_rm1 (m : MethodId) (i0 : Int32) : entryFrame m #[(.int i0)] 1 = mkF m 0 #[.val (.int i0)] [] := by first | (simp [entryFrame, mkF, argsToLocals, Value.category]; done) | rfl
set_option maxRecDepth 65536 in
set_option maxHeartbeats 40000000 in
theorem rm1 (l : Launch) (Z : State) (a0 : Array Value) (hw : ∀ d ∈ tables_1, d.before a0 Z = true) (ws : List Jvm.Cond) (i0 : Int32) (wo0 : Addr) (wo1 : Addr) (wo2 : Addr) (wo3 : Addr) (wo4 : Addr) (wo5 : Addr) (wo6 : Addr) (wo7 : Addr) (wo8 : Addr) (wo9 : Addr) (wo10 : Addr) (wo11 : Addr) (wo12 : Addr) (wo13 : Addr) (h0 : Heap) (n0 : Nat) (Z0 : n0 ≤ h0.size) (Sw0 : Sta Z h0 "com/example/rollforth/rollforth/cli/Option" "ACCOUNTS" "Lcom/example/rollforth/rollforth/cli/Option;" (.ref wo0)) (Sw1 : Sta Z h0 "com/example/rollforth/rollforth/cli/Option" "ACK" "Lcom/example/rollforth/rollforth/cli/Option;" (.ref wo1)) (Sw2 : Sta Z h0 "com/example/rollforth/rollforth/cli/Option" "BACKUP_AT" "Lcom/example/rollforth/rollforth/cli/Option;" (.ref wo2)) (Sw3 : Sta Z h0 "com/example/rollforth/rollforth/cli/Option" "BACKUP_TO" "Lcom/example/rollforth/rollforth/cli/Option;" (.ref wo3)) (Sw4 : Sta Z h0 "com/example/rollforth/rollforth/cli/Option" "BATCH" "Lcom/example/rollforth/rollforth/cli/Option;" (.ref wo4)) (Sw5 : Sta Z h0 "com/example/rollforth/rollforth/cli/Option" "CACHE_PAGES" "Lcom/example/rollforth/rollforth/cli/Option;" (.ref wo5)) (Sw6 : Sta Z h0 "com/example/rollforth/rollforth/cli/Option" "CHECKPOINT_BYTES" "Lcom/example/rollforth/rollforth/cli/Option;" (.ref wo6)) (Sw7 : Sta Z h0 "com/example/rollforth/rollforth/cli/Option" "CLIENTS" "Lcom/example/rollforth/rollforth/cli/Option;" (.ref wo7)) (Sw8 : Sta Z h0 "com/example/rollforth/rollforth/cli/Option" "DELETE_ARCHIVED" "Lcom/example/rollforth/rollforth/cli/Option;" (.ref wo8)) (Sw9 : Sta Z h0 "com/example/rollforth/rollforth/cli/Option" "FROM" "Lcom/example/rollforth/rollforth/cli/Option;" (.ref wo9)) (Sw10 : Sta Z h0 "com/example/rollforth/rollforth/cli/Option" "INIT" "Lcom/example/rollforth/rollforth/cli/Option;" (.ref wo10)) (Sw11 : Sta Z h0 "com/example/rollforth/rollforth/cli/Option" "LOG_FILE_BYTES" "Lcom/example/rollforth/rollforth/cli/Option;" (.ref wo11)) (Sw12 : Sta Z h0 "com/example/rollforth/rollforth/cli/Option" "SECONDS" "Lcom/example/rollforth/rollforth/cli/Option;" (.ref wo12)) (Sw13 : Sta Z h0 "com/example/rollforth/rollforth/cli/Option" "STATS" "Lcom/example/rollforth/rollforth/cli/Option;" (.ref wo13)) :
    MetFree l (⟨"com/example/rollforth/rollforth/cli/OptionTakesNumberPinLaw", "pick", "(I)Lcom/example/rollforth/rollforth/cli/Option;"⟩ : MethodName) (head1 (Jvm.Cond.code (⟨"com/example/rollforth/rollforth/cli/OptionTakesNumberPinLaw", "pick", "(I)Lcom/example/rollforth/rollforth/cli/Option;"⟩ : MethodName) method_2_code 1 (some (.object "com/example/rollforth/rollforth/cli/Option")) :: ws) ({ frames := 0, cells := 0, slots := 0, locals := 0 } : Room)) (fun a U => a = #[(.int i0)] ∧ Z.Warmed39 U.vm ∧ U.heap = h0) (fun _ _ _ _ _ => True) (fun _ U o U' => ∃ v L, o = .returned v ∧ (own_Q n0 h0 (some (.ref (f1_0 i0 wo0 wo1 wo2 wo3 wo4 wo5 wo6 wo7 wo8 wo9 wo10 wo11 wo12 wo13)))) v U'.heap L ∧ FrameEnd U o U' L ({ frames := 0, cells := 0, slots := 0, locals := 0 } : Room).cells ({ frames := 0, cells := 0, slots := 0, locals := 0 } : Room).slots) := by
  refine MetFree.of_bodySF (plainFor_of_name pn_0) hisR ?_
  intro p e s m args below meth c s₁ Bd hml0 hP hK
  obtain ⟨rfl, hZ, hh⟩ := hP
  have X0 : Stand p l e ({ frames := 0, cells := 0, slots := 0, locals := 0 } : Room) s m #[(.int i0)] below meth c s₁ [] 0 0 := Stand.of_body Bd
  have e0 : s₁.heap = h0 := by rw [← hh, Bd.state]; rfl
  have C : own_C "com/example/rollforth/rollforth/cli/OptionTakesNumberPinLaw" method_2_code 1 (some (.object "com/example/rollforth/rollforth/cli/Option")) "pick" p s m meth c Z a0 := ⟨Bd.exec, hZ, hw, Bd.bytes, hml0, findClass_of_methodNamed Bd.named, Bd.returns, Bd.notSynchronized, (name_of_methodNamed Bd.named Bd.method).1⟩
  have r := b1_0 C Z0 X0 e0 (Fr.nil n0) i0 wo0 wo1 wo2 wo3 wo4 wo5 wo6 wo7 wo8 wo9 wo10 wo11 wo12 wo13 Sw0 Sw1 Sw2 Sw3 Sw4 Sw5 Sw6 Sw7 Sw8 Sw9 Sw10 Sw11 Sw12 Sw13 _ rfl
  rw [ef_rm1 m i0]
  exact r
theorem d2_0 : decode prog_38_method_10_code 0 = .ok (.aload_n 0, 1) := by decide +kernel
theorem d2_1 : decode prog_38_method_10_code 1 = .ok (.getfield 77, 3) := by decide +kernel
theorem d2_4 : decode prog_38_method_10_code 4 = .ok (.ifCond .le 7, 3) := by decide +kernel
theorem d2_7 : decode prog_38_method_10_code 7 = .ok (.iconst 1, 1) := by decide +kernel
theorem d2_8 : decode prog_38_method_10_code 8 = .ok (.goto 4, 3) := by decide +kernel
theorem d2_11 : decode prog_38_method_10_code 11 = .ok (.iconst 0, 1) := by decide +kernel
theorem d2_12 : decode prog_38_method_10_code 12 = .ok (.ireturn, 1) := by decide +kernel
def f2_0 (o0 : Addr) (mo : Int32) : Int32 := (if (0 : Int32) < mo then (1 : Int32) else (0 : Int32))
set_option maxRecDepth 65536 in
set_option maxHeartbeats 40000000 in
theorem b2_0 {p : Program} {l : Launch} {e : Env} {s : State} {m : MethodId} {args : Array Value} {below : List Frame} {meth : Method} {c : Code} {Z : State} {a0 : Array Value} {h0 : Heap} {n0 : Nat} (C : own_C "com/example/rollforth/rollforth/cli/Option" prog_38_method_10_code 1 (some .boolean) "takesNumber" p s m meth c Z a0) (Z0 : n0 ≤ h0.size) {T0 : State} {locs : List Loc} (X0 : Stand p l e ({ frames := 0, cells := 0, slots := 0, locals := 0 } : Room) s m args below meth c T0 locs 0 0) (e0 : T0.heap = h0) (N0 : Fr n0 locs) (o0 : Addr) (mo : Int32) (Fm : Fld Z h0 o0 "com/example/rollforth/rollforth/cli/Option" "most" "I" (.int mo)) (W : Int32) (hv : W = f2_0 o0 mo) :
    own_Ends p e below s ({ frames := 0, cells := 0, slots := 0, locals := 0 } : Room).cells ({ frames := 0, cells := 0, slots := 0, locals := 0 } : Room).slots (own_Q n0 h0 (some (.int W))) T0 (mkF m 0 #[.val (.ref o0)] []) := by
  obtain ⟨hx, hZ, hw, hby, hml, hown, hret, hlk, hnm⟩ := C
  have C : own_C "com/example/rollforth/rollforth/cli/Option" prog_38_method_10_code 1 (some .boolean) "takesNumber" p s m meth c Z a0 := ⟨hx, hZ, hw, hby, hml, hown, hret, hlk, hnm⟩
  unfold f2_0 at hv
  refine own_step (fun _ => XS.aloadN X0.here hx rfl (hb hby d2_0) rfl rfl) ?_
  show own_Ends p e below s _ _ _ T0 (mkF m 1 #[.val (.ref o0)] [(.ref o0)])
  obtain ⟨T2, X2, e2, st2⟩ := getF X0 hx hZ hown (host := "") (Or.inl (hw _ (List.mem_of_getElem? (i := 13) rfl))) Via.refl e0 Fm (g := (mkF m 1 #[.val (.ref o0)] [(.ref o0)])) rfl rfl (hb hby d2_1)
  refine own_step st2 ?_
  show own_Ends p e below s _ _ _ T2 (mkF m 4 #[.val (.ref o0)] [(.int mo)])
  by_cases hc4 : (0 : Int32) < mo
  · have hv_t := hv.trans (if_pos hc4)
    refine own_step (fun _ => XS.ifNo X2.here hx rfl (hb hby d2_4) rfl ((if0 _ _).trans (tlt hc4).2.2.2)) ?_
    show own_Ends p e below s _ _ _ T2 (mkF m 7 #[.val (.ref o0)] [])
    refine own_step (fun _ => XS.iconst X2.here hx rfl (hb hby d2_7)) ?_
    show own_Ends p e below s _ _ _ T2 (mkF m 8 #[.val (.ref o0)] [(.int (1 : Int32))])
    refine own_step (fun _ => XS.goto X2.here hx rfl (pc0 := 8) (pc' := 12) rfl (hb hby d2_8) (by decide) (by decide)) ?_
    show own_Ends p e below s _ _ _ T2 (mkF m 12 #[.val (.ref o0)] [(.int (1 : Int32))])
    exact own_retN X2 (t := .boolean) hx hret hlk (hb hby d2_12) (by decide) (by decide) (by simp) ⟨congrArg (fun z => some (Value.int z)) hv_t.symm, N0, e2⟩
  · have hv_f := hv.trans (if_neg hc4)
    refine own_step (fun _ => XS.ifYes X2.here hx rfl (pc0 := 4) (pc' := 11) rfl (hb hby d2_4) rfl ((if0 _ _).trans (flt hc4).2.2.2) (by decide) (by decide)) ?_
    show own_Ends p e below s _ _ _ T2 (mkF m 11 #[.val (.ref o0)] [])
    refine own_step (fun _ => XS.iconst X2.here hx rfl (hb hby d2_11)) ?_
    show own_Ends p e below s _ _ _ T2 (mkF m 12 #[.val (.ref o0)] [(.int (0 : Int32))])
    exact own_retN X2 (t := .boolean) hx hret hlk (hb hby d2_12) (by decide) (by decide) (by simp) ⟨congrArg (fun z => some (Value.int z)) hv_f.symm, N0, e2⟩
theorem ef_rm2 (m : MethodId) (o0 : Addr) : entryFrame m #[(.ref o0)] 1 = mkF m 0 #[.val (.ref o0)] [] := by first | (simp [entryFrame, mkF, argsToLocals, Value.category]; done) | rfl
set_option maxRecDepth 65536 in
set_option maxHeartbeats 40000000 in
theorem rm2 (l : Launch) (Z : State) (a0 : Array Value) (hw : ∀ d ∈ tables_1, d.before a0 Z = true) (ws : List Jvm.Cond) (o0 : Addr) (mo : Int32) (h0 : Heap) (n0 : Nat) (Z0 : n0 ≤ h0.size) (Fm : Fld Z h0 o0 "com/example/rollforth/rollforth/cli/Option" "most" "I" (.int mo)) :
    MetFree l (⟨"com/example/rollforth/rollforth/cli/Option", "takesNumber", "()Z"⟩ : MethodName) (head1 (Jvm.Cond.code (⟨"com/example/rollforth/rollforth/cli/Option", "takesNumber", "()Z"⟩ : MethodName) prog_38_method_10_code 1 (some .boolean) :: ws) ({ frames := 0, cells := 0, slots := 0, locals := 0 } : Room)) (fun a U => a = #[(.ref o0)] ∧ Z.Warmed39 U.vm ∧ U.heap = h0) (fun _ _ _ _ _ => True) (fun _ U o U' => ∃ v L, o = .returned v ∧ (own_Q n0 h0 (some (.int (f2_0 o0 mo)))) v U'.heap L ∧ FrameEnd U o U' L ({ frames := 0, cells := 0, slots := 0, locals := 0 } : Room).cells ({ frames := 0, cells := 0, slots := 0, locals := 0 } : Room).slots) := by
  refine MetFree.of_bodySF (plainFor_of_name pn_1) hisR ?_
  intro p e s m args below meth c s₁ Bd hml0 hP hK
  obtain ⟨rfl, hZ, hh⟩ := hP
  have X0 : Stand p l e ({ frames := 0, cells := 0, slots := 0, locals := 0 } : Room) s m #[(.ref o0)] below meth c s₁ [] 0 0 := Stand.of_body Bd
  have e0 : s₁.heap = h0 := by rw [← hh, Bd.state]; rfl
  have C : own_C "com/example/rollforth/rollforth/cli/Option" prog_38_method_10_code 1 (some .boolean) "takesNumber" p s m meth c Z a0 := ⟨Bd.exec, hZ, hw, Bd.bytes, hml0, findClass_of_methodNamed Bd.named, Bd.returns, Bd.notSynchronized, (name_of_methodNamed Bd.named Bd.method).1⟩
  have r := b2_0 C Z0 X0 e0 (Fr.nil n0) o0 mo Fm _ rfl
  rw [ef_rm2 m o0]
  exact r
theorem d3_0 : decode method_3_code 0 = .ok (.iload_n 0, 1) := by decide +kernel
theorem d3_1 : decode method_3_code 1 = .ok (.ifCond .eq 42, 3) := by decide +kernel
theorem d3_4 : decode method_3_code 4 = .ok (.iload_n 0, 1) := by decide +kernel
theorem d3_5 : decode method_3_code 5 = .ok (.iconst 2, 1) := by decide +kernel
theorem d3_6 : decode method_3_code 6 = .ok (.if_icmp .eq 37, 3) := by decide +kernel
theorem d3_9 : decode method_3_code 9 = .ok (.iload_n 0, 1) := by decide +kernel
theorem d3_10 : decode method_3_code 10 = .ok (.iconst 4, 1) := by decide +kernel
theorem d3_11 : decode method_3_code 11 = .ok (.if_icmp .eq 32, 3) := by decide +kernel
theorem d3_14 : decode method_3_code 14 = .ok (.iload_n 0, 1) := by decide +kernel
theorem d3_15 : decode method_3_code 15 = .ok (.iconst 5, 1) := by decide +kernel
theorem d3_16 : decode method_3_code 16 = .ok (.if_icmp .eq 27, 3) := by decide +kernel
theorem d3_19 : decode method_3_code 19 = .ok (.iload_n 0, 1) := by decide +kernel
theorem d3_20 : decode method_3_code 20 = .ok (.bipush 6, 2) := by decide +kernel
theorem d3_22 : decode method_3_code 22 = .ok (.if_icmp .eq 21, 3) := by decide +kernel
theorem d3_25 : decode method_3_code 25 = .ok (.iload_n 0, 1) := by decide +kernel
theorem d3_26 : decode method_3_code 26 = .ok (.bipush 7, 2) := by decide +kernel
theorem d3_28 : decode method_3_code 28 = .ok (.if_icmp .eq 15, 3) := by decide +kernel
theorem d3_31 : decode method_3_code 31 = .ok (.iload_n 0, 1) := by decide +kernel
theorem d3_32 : decode method_3_code 32 = .ok (.bipush 11, 2) := by decide +kernel
theorem d3_34 : decode method_3_code 34 = .ok (.if_icmp .eq 9, 3) := by decide +kernel
theorem d3_37 : decode method_3_code 37 = .ok (.iload_n 0, 1) := by decide +kernel
theorem d3_38 : decode method_3_code 38 = .ok (.bipush 12, 2) := by decide +kernel
theorem d3_40 : decode method_3_code 40 = .ok (.if_icmp .ne 7, 3) := by decide +kernel
theorem d3_43 : decode method_3_code 43 = .ok (.iconst 1, 1) := by decide +kernel
theorem d3_44 : decode method_3_code 44 = .ok (.goto 4, 3) := by decide +kernel
theorem d3_47 : decode method_3_code 47 = .ok (.iconst 0, 1) := by decide +kernel
theorem d3_48 : decode method_3_code 48 = .ok (.ireturn, 1) := by decide +kernel
def f3_0 (i0 : Int32) : Int32 := (if i0 = (0 : Int32) then (1 : Int32) else (if i0 = (2 : Int32) then (1 : Int32) else (if i0 = (4 : Int32) then (1 : Int32) else (if i0 = (5 : Int32) then (1 : Int32) else (if i0 = (6 : Int32) then (1 : Int32) else (if i0 = (7 : Int32) then (1 : Int32) else (if i0 = (11 : Int32) then (1 : Int32) else (if i0 = (12 : Int32) then (1 : Int32) else (0 : Int32)))))))))
set_option maxRecDepth 65536 in
set_option maxHeartbeats 40000000 in
theorem b3_0 {p : Program} {l : Launch} {e : Env} {s : State} {m : MethodId} {args : Array Value} {below : List Frame} {meth : Method} {c : Code} {Z : State} {a0 : Array Value} {h0 : Heap} {n0 : Nat} (C : own_C "com/example/rollforth/rollforth/cli/OptionTakesNumberPinLaw" method_3_code 1 (some .boolean) "expected" p s m meth c Z a0) (Z0 : n0 ≤ h0.size) {T0 : State} {locs : List Loc} (X0 : Stand p l e ({ frames := 0, cells := 0, slots := 0, locals := 0 } : Room) s m args below meth c T0 locs 0 0) (e0 : T0.heap = h0) (N0 : Fr n0 locs) (i0 : Int32) (W : Int32) (hv : W = f3_0 i0) :
    own_Ends p e below s ({ frames := 0, cells := 0, slots := 0, locals := 0 } : Room).cells ({ frames := 0, cells := 0, slots := 0, locals := 0 } : Room).slots (own_Q n0 h0 (some (.int W))) T0 (mkF m 0 #[.val (.int i0)] []) := by
  obtain ⟨hx, hZ, hw, hby, hml, hown, hret, hlk, hnm⟩ := C
  have C : own_C "com/example/rollforth/rollforth/cli/OptionTakesNumberPinLaw" method_3_code 1 (some .boolean) "expected" p s m meth c Z a0 := ⟨hx, hZ, hw, hby, hml, hown, hret, hlk, hnm⟩
  unfold f3_0 at hv
  refine own_step (fun _ => XS.iloadN X0.here hx rfl (hb hby d3_0) rfl) ?_
  show own_Ends p e below s _ _ _ T0 (mkF m 1 #[.val (.int i0)] [(.int i0)])
  by_cases hc1 : i0 = (0 : Int32)
  · have hv_t := hv.trans (if_pos hc1)
    refine own_step (fun _ => XS.ifYes X0.here hx rfl (pc0 := 1) (pc' := 43) rfl (hb hby d3_1) rfl ((if0 _ _).trans (teq hc1).1) (by decide) (by decide)) ?_
    show own_Ends p e below s _ _ _ T0 (mkF m 43 #[.val (.int i0)] [])
    refine own_step (fun _ => XS.iconst X0.here hx rfl (hb hby d3_43)) ?_
    show own_Ends p e below s _ _ _ T0 (mkF m 44 #[.val (.int i0)] [(.int (1 : Int32))])
    refine own_step (fun _ => XS.goto X0.here hx rfl (pc0 := 44) (pc' := 48) rfl (hb hby d3_44) (by decide) (by decide)) ?_
    show own_Ends p e below s _ _ _ T0 (mkF m 48 #[.val (.int i0)] [(.int (1 : Int32))])
    exact own_retN X0 (t := .boolean) hx hret hlk (hb hby d3_48) (by decide) (by decide) (by simp) ⟨congrArg (fun z => some (Value.int z)) hv_t.symm, N0, e0⟩
  · have hv_f := hv.trans (if_neg hc1)
    refine own_step (fun _ => XS.ifNo X0.here hx rfl (hb hby d3_1) rfl ((if0 _ _).trans (feq hc1).1)) ?_
    show own_Ends p e below s _ _ _ T0 (mkF m 4 #[.val (.int i0)] [])
    refine own_step (fun _ => XS.iloadN X0.here hx rfl (hb hby d3_4) rfl) ?_
    show own_Ends p e below s _ _ _ T0 (mkF m 5 #[.val (.int i0)] [(.int i0)])
    refine own_step (fun _ => XS.iconst X0.here hx rfl (hb hby d3_5)) ?_
    show own_Ends p e below s _ _ _ T0 (mkF m 6 #[.val (.int i0)] [(.int (2 : Int32)), (.int i0)])
    by_cases hc6 : i0 = (2 : Int32)
    · have hv_f_t := hv_f.trans (if_pos hc6)
      refine own_step (fun _ => XS.icmpYes X0.here hx rfl (pc0 := 6) (pc' := 43) rfl (hb hby d3_6) rfl (teq hc6).1 (by decide) (by decide)) ?_
      show own_Ends p e below s _ _ _ T0 (mkF m 43 #[.val (.int i0)] [])
      refine own_step (fun _ => XS.iconst X0.here hx rfl (hb hby d3_43)) ?_
      show own_Ends p e below s _ _ _ T0 (mkF m 44 #[.val (.int i0)] [(.int (1 : Int32))])
      refine own_step (fun _ => XS.goto X0.here hx rfl (pc0 := 44) (pc' := 48) rfl (hb hby d3_44) (by decide) (by decide)) ?_
      show own_Ends p e below s _ _ _ T0 (mkF m 48 #[.val (.int i0)] [(.int (1 : Int32))])
      exact own_retN X0 (t := .boolean) hx hret hlk (hb hby d3_48) (by decide) (by decide) (by simp) ⟨congrArg (fun z => some (Value.int z)) hv_f_t.symm, N0, e0⟩
    · have hv_f_f := hv_f.trans (if_neg hc6)
      refine own_step (fun _ => XS.icmpNo X0.here hx rfl (hb hby d3_6) rfl (feq hc6).1) ?_
      show own_Ends p e below s _ _ _ T0 (mkF m 9 #[.val (.int i0)] [])
      refine own_step (fun _ => XS.iloadN X0.here hx rfl (hb hby d3_9) rfl) ?_
      show own_Ends p e below s _ _ _ T0 (mkF m 10 #[.val (.int i0)] [(.int i0)])
      refine own_step (fun _ => XS.iconst X0.here hx rfl (hb hby d3_10)) ?_
      show own_Ends p e below s _ _ _ T0 (mkF m 11 #[.val (.int i0)] [(.int (4 : Int32)), (.int i0)])
      by_cases hc11 : i0 = (4 : Int32)
      · have hv_f_f_t := hv_f_f.trans (if_pos hc11)
        refine own_step (fun _ => XS.icmpYes X0.here hx rfl (pc0 := 11) (pc' := 43) rfl (hb hby d3_11) rfl (teq hc11).1 (by decide) (by decide)) ?_
        show own_Ends p e below s _ _ _ T0 (mkF m 43 #[.val (.int i0)] [])
        refine own_step (fun _ => XS.iconst X0.here hx rfl (hb hby d3_43)) ?_
        show own_Ends p e below s _ _ _ T0 (mkF m 44 #[.val (.int i0)] [(.int (1 : Int32))])
        refine own_step (fun _ => XS.goto X0.here hx rfl (pc0 := 44) (pc' := 48) rfl (hb hby d3_44) (by decide) (by decide)) ?_
        show own_Ends p e below s _ _ _ T0 (mkF m 48 #[.val (.int i0)] [(.int (1 : Int32))])
        exact own_retN X0 (t := .boolean) hx hret hlk (hb hby d3_48) (by decide) (by decide) (by simp) ⟨congrArg (fun z => some (Value.int z)) hv_f_f_t.symm, N0, e0⟩
      · have hv_f_f_f := hv_f_f.trans (if_neg hc11)
        refine own_step (fun _ => XS.icmpNo X0.here hx rfl (hb hby d3_11) rfl (feq hc11).1) ?_
        show own_Ends p e below s _ _ _ T0 (mkF m 14 #[.val (.int i0)] [])
        refine own_step (fun _ => XS.iloadN X0.here hx rfl (hb hby d3_14) rfl) ?_
        show own_Ends p e below s _ _ _ T0 (mkF m 15 #[.val (.int i0)] [(.int i0)])
        refine own_step (fun _ => XS.iconst X0.here hx rfl (hb hby d3_15)) ?_
        show own_Ends p e below s _ _ _ T0 (mkF m 16 #[.val (.int i0)] [(.int (5 : Int32)), (.int i0)])
        by_cases hc16 : i0 = (5 : Int32)
        · have hv_f_f_f_t := hv_f_f_f.trans (if_pos hc16)
          refine own_step (fun _ => XS.icmpYes X0.here hx rfl (pc0 := 16) (pc' := 43) rfl (hb hby d3_16) rfl (teq hc16).1 (by decide) (by decide)) ?_
          show own_Ends p e below s _ _ _ T0 (mkF m 43 #[.val (.int i0)] [])
          refine own_step (fun _ => XS.iconst X0.here hx rfl (hb hby d3_43)) ?_
          show own_Ends p e below s _ _ _ T0 (mkF m 44 #[.val (.int i0)] [(.int (1 : Int32))])
          refine own_step (fun _ => XS.goto X0.here hx rfl (pc0 := 44) (pc' := 48) rfl (hb hby d3_44) (by decide) (by decide)) ?_
          show own_Ends p e below s _ _ _ T0 (mkF m 48 #[.val (.int i0)] [(.int (1 : Int32))])
          exact own_retN X0 (t := .boolean) hx hret hlk (hb hby d3_48) (by decide) (by decide) (by simp) ⟨congrArg (fun z => some (Value.int z)) hv_f_f_f_t.symm, N0, e0⟩
        · have hv_f_f_f_f := hv_f_f_f.trans (if_neg hc16)
          refine own_step (fun _ => XS.icmpNo X0.here hx rfl (hb hby d3_16) rfl (feq hc16).1) ?_
          show own_Ends p e below s _ _ _ T0 (mkF m 19 #[.val (.int i0)] [])
          refine own_step (fun _ => XS.iloadN X0.here hx rfl (hb hby d3_19) rfl) ?_
          show own_Ends p e below s _ _ _ T0 (mkF m 20 #[.val (.int i0)] [(.int i0)])
          refine own_step (fun _ => XS.bipush X0.here hx rfl (hb hby d3_20)) ?_
          show own_Ends p e below s _ _ _ T0 (mkF m 22 #[.val (.int i0)] [(.int (6 : Int32)), (.int i0)])
          by_cases hc22 : i0 = (6 : Int32)
          · have hv_f_f_f_f_t := hv_f_f_f_f.trans (if_pos hc22)
            refine own_step (fun _ => XS.icmpYes X0.here hx rfl (pc0 := 22) (pc' := 43) rfl (hb hby d3_22) rfl (teq hc22).1 (by decide) (by decide)) ?_
            show own_Ends p e below s _ _ _ T0 (mkF m 43 #[.val (.int i0)] [])
            refine own_step (fun _ => XS.iconst X0.here hx rfl (hb hby d3_43)) ?_
            show own_Ends p e below s _ _ _ T0 (mkF m 44 #[.val (.int i0)] [(.int (1 : Int32))])
            refine own_step (fun _ => XS.goto X0.here hx rfl (pc0 := 44) (pc' := 48) rfl (hb hby d3_44) (by decide) (by decide)) ?_
            show own_Ends p e below s _ _ _ T0 (mkF m 48 #[.val (.int i0)] [(.int (1 : Int32))])
            exact own_retN X0 (t := .boolean) hx hret hlk (hb hby d3_48) (by decide) (by decide) (by simp) ⟨congrArg (fun z => some (Value.int z)) hv_f_f_f_f_t.symm, N0, e0⟩
          · have hv_f_f_f_f_f := hv_f_f_f_f.trans (if_neg hc22)
            refine own_step (fun _ => XS.icmpNo X0.here hx rfl (hb hby d3_22) rfl (feq hc22).1) ?_
            show own_Ends p e below s _ _ _ T0 (mkF m 25 #[.val (.int i0)] [])
            refine own_step (fun _ => XS.iloadN X0.here hx rfl (hb hby d3_25) rfl) ?_
            show own_Ends p e below s _ _ _ T0 (mkF m 26 #[.val (.int i0)] [(.int i0)])
            refine own_step (fun _ => XS.bipush X0.here hx rfl (hb hby d3_26)) ?_
            show own_Ends p e below s _ _ _ T0 (mkF m 28 #[.val (.int i0)] [(.int (7 : Int32)), (.int i0)])
            by_cases hc28 : i0 = (7 : Int32)
            · have hv_f_f_f_f_f_t := hv_f_f_f_f_f.trans (if_pos hc28)
              refine own_step (fun _ => XS.icmpYes X0.here hx rfl (pc0 := 28) (pc' := 43) rfl (hb hby d3_28) rfl (teq hc28).1 (by decide) (by decide)) ?_
              show own_Ends p e below s _ _ _ T0 (mkF m 43 #[.val (.int i0)] [])
              refine own_step (fun _ => XS.iconst X0.here hx rfl (hb hby d3_43)) ?_
              show own_Ends p e below s _ _ _ T0 (mkF m 44 #[.val (.int i0)] [(.int (1 : Int32))])
              refine own_step (fun _ => XS.goto X0.here hx rfl (pc0 := 44) (pc' := 48) rfl (hb hby d3_44) (by decide) (by decide)) ?_
              show own_Ends p e below s _ _ _ T0 (mkF m 48 #[.val (.int i0)] [(.int (1 : Int32))])
              exact own_retN X0 (t := .boolean) hx hret hlk (hb hby d3_48) (by decide) (by decide) (by simp) ⟨congrArg (fun z => some (Value.int z)) hv_f_f_f_f_f_t.symm, N0, e0⟩
            · have hv_f_f_f_f_f_f := hv_f_f_f_f_f.trans (if_neg hc28)
              refine own_step (fun _ => XS.icmpNo X0.here hx rfl (hb hby d3_28) rfl (feq hc28).1) ?_
              show own_Ends p e below s _ _ _ T0 (mkF m 31 #[.val (.int i0)] [])
              refine own_step (fun _ => XS.iloadN X0.here hx rfl (hb hby d3_31) rfl) ?_
              show own_Ends p e below s _ _ _ T0 (mkF m 32 #[.val (.int i0)] [(.int i0)])
              refine own_step (fun _ => XS.bipush X0.here hx rfl (hb hby d3_32)) ?_
              show own_Ends p e below s _ _ _ T0 (mkF m 34 #[.val (.int i0)] [(.int (11 : Int32)), (.int i0)])
              by_cases hc34 : i0 = (11 : Int32)
              · have hv_f_f_f_f_f_f_t := hv_f_f_f_f_f_f.trans (if_pos hc34)
                refine own_step (fun _ => XS.icmpYes X0.here hx rfl (pc0 := 34) (pc' := 43) rfl (hb hby d3_34) rfl (teq hc34).1 (by decide) (by decide)) ?_
                show own_Ends p e below s _ _ _ T0 (mkF m 43 #[.val (.int i0)] [])
                refine own_step (fun _ => XS.iconst X0.here hx rfl (hb hby d3_43)) ?_
                show own_Ends p e below s _ _ _ T0 (mkF m 44 #[.val (.int i0)] [(.int (1 : Int32))])
                refine own_step (fun _ => XS.goto X0.here hx rfl (pc0 := 44) (pc' := 48) rfl (hb hby d3_44) (by decide) (by decide)) ?_
                show own_Ends p e below s _ _ _ T0 (mkF m 48 #[.val (.int i0)] [(.int (1 : Int32))])
                exact own_retN X0 (t := .boolean) hx hret hlk (hb hby d3_48) (by decide) (by decide) (by simp) ⟨congrArg (fun z => some (Value.int z)) hv_f_f_f_f_f_f_t.symm, N0, e0⟩
              · have hv_f_f_f_f_f_f_f := hv_f_f_f_f_f_f.trans (if_neg hc34)
                refine own_step (fun _ => XS.icmpNo X0.here hx rfl (hb hby d3_34) rfl (feq hc34).1) ?_
                show own_Ends p e below s _ _ _ T0 (mkF m 37 #[.val (.int i0)] [])
                refine own_step (fun _ => XS.iloadN X0.here hx rfl (hb hby d3_37) rfl) ?_
                show own_Ends p e below s _ _ _ T0 (mkF m 38 #[.val (.int i0)] [(.int i0)])
                refine own_step (fun _ => XS.bipush X0.here hx rfl (hb hby d3_38)) ?_
                show own_Ends p e below s _ _ _ T0 (mkF m 40 #[.val (.int i0)] [(.int (12 : Int32)), (.int i0)])
                by_cases hc40 : i0 = (12 : Int32)
                · have hv_f_f_f_f_f_f_f_t := hv_f_f_f_f_f_f_f.trans (if_pos hc40)
                  refine own_step (fun _ => XS.icmpNo X0.here hx rfl (hb hby d3_40) rfl (teq hc40).2) ?_
                  show own_Ends p e below s _ _ _ T0 (mkF m 43 #[.val (.int i0)] [])
                  refine own_step (fun _ => XS.iconst X0.here hx rfl (hb hby d3_43)) ?_
                  show own_Ends p e below s _ _ _ T0 (mkF m 44 #[.val (.int i0)] [(.int (1 : Int32))])
                  refine own_step (fun _ => XS.goto X0.here hx rfl (pc0 := 44) (pc' := 48) rfl (hb hby d3_44) (by decide) (by decide)) ?_
                  show own_Ends p e below s _ _ _ T0 (mkF m 48 #[.val (.int i0)] [(.int (1 : Int32))])
                  exact own_retN X0 (t := .boolean) hx hret hlk (hb hby d3_48) (by decide) (by decide) (by simp) ⟨congrArg (fun z => some (Value.int z)) hv_f_f_f_f_f_f_f_t.symm, N0, e0⟩
                · have hv_f_f_f_f_f_f_f_f := hv_f_f_f_f_f_f_f.trans (if_neg hc40)
                  refine own_step (fun _ => XS.icmpYes X0.here hx rfl (pc0 := 40) (pc' := 47) rfl (hb hby d3_40) rfl (feq hc40).2 (by decide) (by decide)) ?_
                  show own_Ends p e below s _ _ _ T0 (mkF m 47 #[.val (.int i0)] [])
                  refine own_step (fun _ => XS.iconst X0.here hx rfl (hb hby d3_47)) ?_
                  show own_Ends p e below s _ _ _ T0 (mkF m 48 #[.val (.int i0)] [(.int (0 : Int32))])
                  exact own_retN X0 (t := .boolean) hx hret hlk (hb hby d3_48) (by decide) (by decide) (by simp) ⟨congrArg (fun z => some (Value.int z)) hv_f_f_f_f_f_f_f_f.symm, N0, e0⟩
theorem ef_rm3 (m : MethodId) (i0 : Int32) : entryFrame m #[(.int i0)] 1 = mkF m 0 #[.val (.int i0)] [] := by first | (simp [entryFrame, mkF, argsToLocals, Value.category]; done) | rfl
set_option maxRecDepth 65536 in
set_option maxHeartbeats 40000000 in
theorem rm3 (l : Launch) (Z : State) (a0 : Array Value) (hw : ∀ d ∈ tables_1, d.before a0 Z = true) (ws : List Jvm.Cond) (i0 : Int32) (h0 : Heap) (n0 : Nat) (Z0 : n0 ≤ h0.size) :
    MetFree l (⟨"com/example/rollforth/rollforth/cli/OptionTakesNumberPinLaw", "expected", "(I)Z"⟩ : MethodName) (head1 (Jvm.Cond.code (⟨"com/example/rollforth/rollforth/cli/OptionTakesNumberPinLaw", "expected", "(I)Z"⟩ : MethodName) method_3_code 1 (some .boolean) :: ws) ({ frames := 0, cells := 0, slots := 0, locals := 0 } : Room)) (fun a U => a = #[(.int i0)] ∧ Z.Warmed39 U.vm ∧ U.heap = h0) (fun _ _ _ _ _ => True) (fun _ U o U' => ∃ v L, o = .returned v ∧ (own_Q n0 h0 (some (.int (f3_0 i0)))) v U'.heap L ∧ FrameEnd U o U' L ({ frames := 0, cells := 0, slots := 0, locals := 0 } : Room).cells ({ frames := 0, cells := 0, slots := 0, locals := 0 } : Room).slots) := by
  refine MetFree.of_bodySF (plainFor_of_name pn_0) hisR ?_
  intro p e s m args below meth c s₁ Bd hml0 hP hK
  obtain ⟨rfl, hZ, hh⟩ := hP
  have X0 : Stand p l e ({ frames := 0, cells := 0, slots := 0, locals := 0 } : Room) s m #[(.int i0)] below meth c s₁ [] 0 0 := Stand.of_body Bd
  have e0 : s₁.heap = h0 := by rw [← hh, Bd.state]; rfl
  have C : own_C "com/example/rollforth/rollforth/cli/OptionTakesNumberPinLaw" method_3_code 1 (some .boolean) "expected" p s m meth c Z a0 := ⟨Bd.exec, hZ, hw, Bd.bytes, hml0, findClass_of_methodNamed Bd.named, Bd.returns, Bd.notSynchronized, (name_of_methodNamed Bd.named Bd.method).1⟩
  have r := b3_0 C Z0 X0 e0 (Fr.nil n0) i0 _ rfl
  rw [ef_rm3 m i0]
  exact r
theorem d4_0 : decode prog_38_method_9_code 0 = .ok (.aload_n 0, 1) := by decide +kernel
theorem d4_1 : decode prog_38_method_9_code 1 = .ok (.getfield 74, 3) := by decide +kernel
theorem d4_4 : decode prog_38_method_9_code 4 = .ok (.ifnull 7, 3) := by decide +kernel
theorem d4_7 : decode prog_38_method_9_code 7 = .ok (.iconst 1, 1) := by decide +kernel
theorem d4_8 : decode prog_38_method_9_code 8 = .ok (.goto 4, 3) := by decide +kernel
theorem d4_11 : decode prog_38_method_9_code 11 = .ok (.iconst 0, 1) := by decide +kernel
theorem d4_12 : decode prog_38_method_9_code 12 = .ok (.ireturn, 1) := by decide +kernel
def f4_0 (o0 : Addr) (vo : Value) : Int32 := (if vo = .null then (0 : Int32) else (1 : Int32))
set_option maxRecDepth 65536 in
set_option maxHeartbeats 40000000 in
theorem b4_0 {p : Program} {l : Launch} {e : Env} {s : State} {m : MethodId} {args : Array Value} {below : List Frame} {meth : Method} {c : Code} {Z : State} {a0 : Array Value} {h0 : Heap} {n0 : Nat} (C : own_C "com/example/rollforth/rollforth/cli/Option" prog_38_method_9_code 1 (some .boolean) "takesValue" p s m meth c Z a0) (Z0 : n0 ≤ h0.size) {T0 : State} {locs : List Loc} (X0 : Stand p l e ({ frames := 0, cells := 0, slots := 0, locals := 0 } : Room) s m args below meth c T0 locs 0 0) (e0 : T0.heap = h0) (N0 : Fr n0 locs) (o0 : Addr) (vo : Value) (Fv : Fld Z h0 o0 "com/example/rollforth/rollforth/cli/Option" "value" "Ljava/lang/String;" vo) (hvo : vo.isRef = true) (W : Int32) (hv : W = f4_0 o0 vo) :
    own_Ends p e below s ({ frames := 0, cells := 0, slots := 0, locals := 0 } : Room).cells ({ frames := 0, cells := 0, slots := 0, locals := 0 } : Room).slots (own_Q n0 h0 (some (.int W))) T0 (mkF m 0 #[.val (.ref o0)] []) := by
  obtain ⟨hx, hZ, hw, hby, hml, hown, hret, hlk, hnm⟩ := C
  have C : own_C "com/example/rollforth/rollforth/cli/Option" prog_38_method_9_code 1 (some .boolean) "takesValue" p s m meth c Z a0 := ⟨hx, hZ, hw, hby, hml, hown, hret, hlk, hnm⟩
  unfold f4_0 at hv
  refine own_step (fun _ => XS.aloadN X0.here hx rfl (hb hby d4_0) rfl rfl) ?_
  show own_Ends p e below s _ _ _ T0 (mkF m 1 #[.val (.ref o0)] [(.ref o0)])
  obtain ⟨T2, X2, e2, st2⟩ := getF X0 hx hZ hown (host := "") (Or.inl (hw _ (List.mem_of_getElem? (i := 23) rfl))) Via.refl e0 Fv (g := (mkF m 1 #[.val (.ref o0)] [(.ref o0)])) rfl rfl (hb hby d4_1)
  refine own_step st2 ?_
  show own_Ends p e below s _ _ _ T2 (mkF m 4 #[.val (.ref o0)] [vo])
  by_cases hc4 : vo = .null
  · have hv_t := hv.trans (if_pos hc4)
    refine own_step (fun _ => XS.ifnullYes X2.here hx rfl (pc0 := 4) (pc' := 11) rfl (hb hby d4_4) (show [vo] = .null :: _ from by rw [hc4]) (by decide) (by decide)) ?_
    show own_Ends p e below s _ _ _ T2 (mkF m 11 #[.val (.ref o0)] [])
    refine own_step (fun _ => XS.iconst X2.here hx rfl (hb hby d4_11)) ?_
    show own_Ends p e below s _ _ _ T2 (mkF m 12 #[.val (.ref o0)] [(.int (0 : Int32))])
    exact own_retN X2 (t := .boolean) hx hret hlk (hb hby d4_12) (by decide) (by decide) (by simp) ⟨congrArg (fun z => some (Value.int z)) hv_t.symm, N0, e2⟩
  · have hv_f := hv.trans (if_neg hc4)
    obtain ⟨y4, hy4⟩ := own_nn hvo hc4
    refine own_step (fun _ => XS.ifnullNo X2.here hx rfl (hb hby d4_4) (show [vo] = .ref y4 :: _ from by rw [hy4])) ?_
    show own_Ends p e below s _ _ _ T2 (mkF m 7 #[.val (.ref o0)] [])
    refine own_step (fun _ => XS.iconst X2.here hx rfl (hb hby d4_7)) ?_
    show own_Ends p e below s _ _ _ T2 (mkF m 8 #[.val (.ref o0)] [(.int (1 : Int32))])
    refine own_step (fun _ => XS.goto X2.here hx rfl (pc0 := 8) (pc' := 12) rfl (hb hby d4_8) (by decide) (by decide)) ?_
    show own_Ends p e below s _ _ _ T2 (mkF m 12 #[.val (.ref o0)] [(.int (1 : Int32))])
    exact own_retN X2 (t := .boolean) hx hret hlk (hb hby d4_12) (by decide) (by decide) (by simp) ⟨congrArg (fun z => some (Value.int z)) hv_f.symm, N0, e2⟩
theorem ef_rm4 (m : MethodId) (o0 : Addr) : entryFrame m #[(.ref o0)] 1 = mkF m 0 #[.val (.ref o0)] [] := by first | (simp [entryFrame, mkF, argsToLocals, Value.category]; done) | rfl
set_option maxRecDepth 65536 in
set_option maxHeartbeats 40000000 in
theorem rm4 (l : Launch) (Z : State) (a0 : Array Value) (hw : ∀ d ∈ tables_1, d.before a0 Z = true) (ws : List Jvm.Cond) (o0 : Addr) (vo : Value) (h0 : Heap) (n0 : Nat) (Z0 : n0 ≤ h0.size) (Fv : Fld Z h0 o0 "com/example/rollforth/rollforth/cli/Option" "value" "Ljava/lang/String;" vo) (hvo : vo.isRef = true) :
    MetFree l (⟨"com/example/rollforth/rollforth/cli/Option", "takesValue", "()Z"⟩ : MethodName) (head1 (Jvm.Cond.code (⟨"com/example/rollforth/rollforth/cli/Option", "takesValue", "()Z"⟩ : MethodName) prog_38_method_9_code 1 (some .boolean) :: ws) ({ frames := 0, cells := 0, slots := 0, locals := 0 } : Room)) (fun a U => a = #[(.ref o0)] ∧ Z.Warmed39 U.vm ∧ U.heap = h0) (fun _ _ _ _ _ => True) (fun _ U o U' => ∃ v L, o = .returned v ∧ (own_Q n0 h0 (some (.int (f4_0 o0 vo)))) v U'.heap L ∧ FrameEnd U o U' L ({ frames := 0, cells := 0, slots := 0, locals := 0 } : Room).cells ({ frames := 0, cells := 0, slots := 0, locals := 0 } : Room).slots) := by
  refine MetFree.of_bodySF (plainFor_of_name pn_1) hisR ?_
  intro p e s m args below meth c s₁ Bd hml0 hP hK
  obtain ⟨rfl, hZ, hh⟩ := hP
  have X0 : Stand p l e ({ frames := 0, cells := 0, slots := 0, locals := 0 } : Room) s m #[(.ref o0)] below meth c s₁ [] 0 0 := Stand.of_body Bd
  have e0 : s₁.heap = h0 := by rw [← hh, Bd.state]; rfl
  have C : own_C "com/example/rollforth/rollforth/cli/Option" prog_38_method_9_code 1 (some .boolean) "takesValue" p s m meth c Z a0 := ⟨Bd.exec, hZ, hw, Bd.bytes, hml0, findClass_of_methodNamed Bd.named, Bd.returns, Bd.notSynchronized, (name_of_methodNamed Bd.named Bd.method).1⟩
  have r := b4_0 C Z0 X0 e0 (Fr.nil n0) o0 vo Fv hvo _ rfl
  rw [ef_rm4 m o0]
  exact r
theorem d5_0 : decode prog_38_method_11_code 0 = .ok (.aload_n 0, 1) := by decide +kernel
theorem d5_1 : decode prog_38_method_11_code 1 = .ok (.getfield 77, 3) := by decide +kernel
theorem d5_4 : decode prog_38_method_11_code 4 = .ok (.ireturn, 1) := by decide +kernel
def f5_0 (o0 : Addr) (mo : Int32) : Int32 := mo
set_option maxRecDepth 65536 in
set_option maxHeartbeats 40000000 in
theorem b5_0 {p : Program} {l : Launch} {e : Env} {s : State} {m : MethodId} {args : Array Value} {below : List Frame} {meth : Method} {c : Code} {Z : State} {a0 : Array Value} {h0 : Heap} {n0 : Nat} (C : own_C "com/example/rollforth/rollforth/cli/Option" prog_38_method_11_code 1 (some .int) "most" p s m meth c Z a0) (Z0 : n0 ≤ h0.size) {T0 : State} {locs : List Loc} (X0 : Stand p l e ({ frames := 0, cells := 0, slots := 0, locals := 0 } : Room) s m args below meth c T0 locs 0 0) (e0 : T0.heap = h0) (N0 : Fr n0 locs) (o0 : Addr) (mo : Int32) (Fm : Fld Z h0 o0 "com/example/rollforth/rollforth/cli/Option" "most" "I" (.int mo)) (W : Int32) (hv : W = f5_0 o0 mo) :
    own_Ends p e below s ({ frames := 0, cells := 0, slots := 0, locals := 0 } : Room).cells ({ frames := 0, cells := 0, slots := 0, locals := 0 } : Room).slots (own_Q n0 h0 (some (.int W))) T0 (mkF m 0 #[.val (.ref o0)] []) := by
  obtain ⟨hx, hZ, hw, hby, hml, hown, hret, hlk, hnm⟩ := C
  have C : own_C "com/example/rollforth/rollforth/cli/Option" prog_38_method_11_code 1 (some .int) "most" p s m meth c Z a0 := ⟨hx, hZ, hw, hby, hml, hown, hret, hlk, hnm⟩
  unfold f5_0 at hv
  refine own_step (fun _ => XS.aloadN X0.here hx rfl (hb hby d5_0) rfl rfl) ?_
  show own_Ends p e below s _ _ _ T0 (mkF m 1 #[.val (.ref o0)] [(.ref o0)])
  obtain ⟨T2, X2, e2, st2⟩ := getF X0 hx hZ hown (host := "") (Or.inl (hw _ (List.mem_of_getElem? (i := 13) rfl))) Via.refl e0 Fm (g := (mkF m 1 #[.val (.ref o0)] [(.ref o0)])) rfl rfl (hb hby d5_1)
  refine own_step st2 ?_
  show own_Ends p e below s _ _ _ T2 (mkF m 4 #[.val (.ref o0)] [(.int mo)])
  exact own_retI X2 hx hret hlk (hb hby d5_4) (by decide) (by decide) ⟨congrArg (fun z => some (Value.int z)) hv.symm, N0, e2⟩
theorem ef_rm5 (m : MethodId) (o0 : Addr) : entryFrame m #[(.ref o0)] 1 = mkF m 0 #[.val (.ref o0)] [] := by first | (simp [entryFrame, mkF, argsToLocals, Value.category]; done) | rfl
set_option maxRecDepth 65536 in
set_option maxHeartbeats 40000000 in
theorem rm5 (l : Launch) (Z : State) (a0 : Array Value) (hw : ∀ d ∈ tables_1, d.before a0 Z = true) (ws : List Jvm.Cond) (o0 : Addr) (mo : Int32) (h0 : Heap) (n0 : Nat) (Z0 : n0 ≤ h0.size) (Fm : Fld Z h0 o0 "com/example/rollforth/rollforth/cli/Option" "most" "I" (.int mo)) :
    MetFree l (⟨"com/example/rollforth/rollforth/cli/Option", "most", "()I"⟩ : MethodName) (head1 (Jvm.Cond.code (⟨"com/example/rollforth/rollforth/cli/Option", "most", "()I"⟩ : MethodName) prog_38_method_11_code 1 (some .int) :: ws) ({ frames := 0, cells := 0, slots := 0, locals := 0 } : Room)) (fun a U => a = #[(.ref o0)] ∧ Z.Warmed39 U.vm ∧ U.heap = h0) (fun _ _ _ _ _ => True) (fun _ U o U' => ∃ v L, o = .returned v ∧ (own_Q n0 h0 (some (.int (f5_0 o0 mo)))) v U'.heap L ∧ FrameEnd U o U' L ({ frames := 0, cells := 0, slots := 0, locals := 0 } : Room).cells ({ frames := 0, cells := 0, slots := 0, locals := 0 } : Room).slots) := by
  refine MetFree.of_bodySF (plainFor_of_name pn_1) hisR ?_
  intro p e s m args below meth c s₁ Bd hml0 hP hK
  obtain ⟨rfl, hZ, hh⟩ := hP
  have X0 : Stand p l e ({ frames := 0, cells := 0, slots := 0, locals := 0 } : Room) s m #[(.ref o0)] below meth c s₁ [] 0 0 := Stand.of_body Bd
  have e0 : s₁.heap = h0 := by rw [← hh, Bd.state]; rfl
  have C : own_C "com/example/rollforth/rollforth/cli/Option" prog_38_method_11_code 1 (some .int) "most" p s m meth c Z a0 := ⟨Bd.exec, hZ, hw, Bd.bytes, hml0, findClass_of_methodNamed Bd.named, Bd.returns, Bd.notSynchronized, (name_of_methodNamed Bd.named Bd.method).1⟩
  have r := b5_0 C Z0 X0 e0 (Fr.nil n0) o0 mo Fm _ rfl
  rw [ef_rm5 m o0]
  exact r
def f0_0 (i0 : Int32) (wo0 : Addr) (wo1 : Addr) (wo2 : Addr) (wo3 : Addr) (wo4 : Addr) (wo5 : Addr) (wo6 : Addr) (wo7 : Addr) (wo8 : Addr) (wo9 : Addr) (wo10 : Addr) (wo11 : Addr) (wo12 : Addr) (wo13 : Addr) (vo : Value) (mo : Int32) : Int32 := (if (f2_0 (f1_0 ((i0 &&& (2147483647 : Int32)) % (14 : Int32)) wo0 wo1 wo2 wo3 wo4 wo5 wo6 wo7 wo8 wo9 wo10 wo11 wo12 wo13) mo) = (f3_0 ((i0 &&& (2147483647 : Int32)) % (14 : Int32))) then (if (f2_0 (f1_0 ((i0 &&& (2147483647 : Int32)) % (14 : Int32)) wo0 wo1 wo2 wo3 wo4 wo5 wo6 wo7 wo8 wo9 wo10 wo11 wo12 wo13) mo) = (0 : Int32) then (if (f5_0 (f1_0 ((i0 &&& (2147483647 : Int32)) % (14 : Int32)) wo0 wo1 wo2 wo3 wo4 wo5 wo6 wo7 wo8 wo9 wo10 wo11 wo12 wo13) mo) = (0 : Int32) then (1 : Int32) else (0 : Int32)) else (if (f4_0 (f1_0 ((i0 &&& (2147483647 : Int32)) % (14 : Int32)) wo0 wo1 wo2 wo3 wo4 wo5 wo6 wo7 wo8 wo9 wo10 wo11 wo12 wo13) vo) = (0 : Int32) then (0 : Int32) else (if (f5_0 (f1_0 ((i0 &&& (2147483647 : Int32)) % (14 : Int32)) wo0 wo1 wo2 wo3 wo4 wo5 wo6 wo7 wo8 wo9 wo10 wo11 wo12 wo13) mo) < (1 : Int32) then (0 : Int32) else (1 : Int32)))) else (0 : Int32))
set_option maxRecDepth 65536 in
set_option maxHeartbeats 40000000 in
theorem b0_0 {p : Program} {l : Launch} {e : Env} {s : State} {m : MethodId} {args : Array Value} {below : List Frame} {meth : Method} {c : Code} {Z : State} {a0 : Array Value} {h0 : Heap} {n0 : Nat} (C : own_C "com/example/rollforth/rollforth/cli/OptionTakesNumberPinLaw" code maxLocals ret x.name p s m meth c Z a0) (Z0 : n0 ≤ h0.size) {T0 : State} {locs : List Loc} (X0 : Stand p l e room_1 s m args below meth c T0 locs 0 0) (e0 : T0.heap = h0) (N0 : Fr n0 locs) (i0 : Int32) (wo0 : Addr) (wo1 : Addr) (wo2 : Addr) (wo3 : Addr) (wo4 : Addr) (wo5 : Addr) (wo6 : Addr) (wo7 : Addr) (wo8 : Addr) (wo9 : Addr) (wo10 : Addr) (wo11 : Addr) (wo12 : Addr) (wo13 : Addr) (vo : Value) (mo : Int32) (Sw0 : Sta Z h0 "com/example/rollforth/rollforth/cli/Option" "ACCOUNTS" "Lcom/example/rollforth/rollforth/cli/Option;" (.ref wo0)) (Sw1 : Sta Z h0 "com/example/rollforth/rollforth/cli/Option" "ACK" "Lcom/example/rollforth/rollforth/cli/Option;" (.ref wo1)) (Sw2 : Sta Z h0 "com/example/rollforth/rollforth/cli/Option" "BACKUP_AT" "Lcom/example/rollforth/rollforth/cli/Option;" (.ref wo2)) (Sw3 : Sta Z h0 "com/example/rollforth/rollforth/cli/Option" "BACKUP_TO" "Lcom/example/rollforth/rollforth/cli/Option;" (.ref wo3)) (Sw4 : Sta Z h0 "com/example/rollforth/rollforth/cli/Option" "BATCH" "Lcom/example/rollforth/rollforth/cli/Option;" (.ref wo4)) (Sw5 : Sta Z h0 "com/example/rollforth/rollforth/cli/Option" "CACHE_PAGES" "Lcom/example/rollforth/rollforth/cli/Option;" (.ref wo5)) (Sw6 : Sta Z h0 "com/example/rollforth/rollforth/cli/Option" "CHECKPOINT_BYTES" "Lcom/example/rollforth/rollforth/cli/Option;" (.ref wo6)) (Sw7 : Sta Z h0 "com/example/rollforth/rollforth/cli/Option" "CLIENTS" "Lcom/example/rollforth/rollforth/cli/Option;" (.ref wo7)) (Sw8 : Sta Z h0 "com/example/rollforth/rollforth/cli/Option" "DELETE_ARCHIVED" "Lcom/example/rollforth/rollforth/cli/Option;" (.ref wo8)) (Sw9 : Sta Z h0 "com/example/rollforth/rollforth/cli/Option" "FROM" "Lcom/example/rollforth/rollforth/cli/Option;" (.ref wo9)) (Sw10 : Sta Z h0 "com/example/rollforth/rollforth/cli/Option" "INIT" "Lcom/example/rollforth/rollforth/cli/Option;" (.ref wo10)) (Sw11 : Sta Z h0 "com/example/rollforth/rollforth/cli/Option" "LOG_FILE_BYTES" "Lcom/example/rollforth/rollforth/cli/Option;" (.ref wo11)) (Sw12 : Sta Z h0 "com/example/rollforth/rollforth/cli/Option" "SECONDS" "Lcom/example/rollforth/rollforth/cli/Option;" (.ref wo12)) (Sw13 : Sta Z h0 "com/example/rollforth/rollforth/cli/Option" "STATS" "Lcom/example/rollforth/rollforth/cli/Option;" (.ref wo13)) (Eo : Exa Z h0 (f1_0 ((i0 &&& (2147483647 : Int32)) % (14 : Int32)) wo0 wo1 wo2 wo3 wo4 wo5 wo6 wo7 wo8 wo9 wo10 wo11 wo12 wo13) "com/example/rollforth/rollforth/cli/Option") (Fv : Fld Z h0 (f1_0 ((i0 &&& (2147483647 : Int32)) % (14 : Int32)) wo0 wo1 wo2 wo3 wo4 wo5 wo6 wo7 wo8 wo9 wo10 wo11 wo12 wo13) "com/example/rollforth/rollforth/cli/Option" "value" "Ljava/lang/String;" vo) (Fm : Fld Z h0 (f1_0 ((i0 &&& (2147483647 : Int32)) % (14 : Int32)) wo0 wo1 wo2 wo3 wo4 wo5 wo6 wo7 wo8 wo9 wo10 wo11 wo12 wo13) "com/example/rollforth/rollforth/cli/Option" "most" "I" (.int mo)) (hvo : vo.isRef = true) (W : Int32) (hv : W = f0_0 i0 wo0 wo1 wo2 wo3 wo4 wo5 wo6 wo7 wo8 wo9 wo10 wo11 wo12 wo13 vo mo) :
    own_Ends p e below s room_1.cells room_1.slots (own_Q n0 h0 (some (.int W))) T0 (mkF m 0 #[.val (.int i0), .unset, .unset, .unset, .unset, .unset] []) := by
  obtain ⟨hx, hZ, hw, hby, hml, hown, hret, hlk, hnm⟩ := C
  have C : own_C "com/example/rollforth/rollforth/cli/OptionTakesNumberPinLaw" code maxLocals ret x.name p s m meth c Z a0 := ⟨hx, hZ, hw, hby, hml, hown, hret, hlk, hnm⟩
  unfold f0_0 at hv
  refine own_step (fun _ => XS.iloadN X0.here hx rfl (hb hby at_0) rfl) ?_
  show own_Ends p e below s _ _ _ T0 (mkF m 1 #[.val (.int i0), .unset, .unset, .unset, .unset, .unset] [(.int i0)])
  refine own_step (fun _ => X0.ldcInt hx hown (mvT hZ (hw _ (List.mem_of_getElem? (i := 0) rfl))) (g := (mkF m 1 #[.val (.int i0), .unset, .unset, .unset, .unset, .unset] [(.int i0)])) rfl (hb hby at_1) _) ?_
  show own_Ends p e below s _ _ _ T0 (mkF m 3 #[.val (.int i0), .unset, .unset, .unset, .unset, .unset] [(.int (2147483647 : Int32)), (.int i0)])
  refine own_step (fun _ => XS.iand X0.here hx rfl (hb hby at_3) rfl) ?_
  show own_Ends p e below s _ _ _ T0 (mkF m 4 #[.val (.int i0), .unset, .unset, .unset, .unset, .unset] [(.int (i0 &&& (2147483647 : Int32)))])
  refine own_step (fun _ => XS.bipush X0.here hx rfl (hb hby at_4)) ?_
  show own_Ends p e below s _ _ _ T0 (mkF m 6 #[.val (.int i0), .unset, .unset, .unset, .unset, .unset] [(.int (14 : Int32)), (.int (i0 &&& (2147483647 : Int32)))])
  refine own_step (fun _ => iremM X0 hx rfl (hb hby at_6) rfl (by decide)) ?_
  show own_Ends p e below s _ _ _ T0 (mkF m 7 #[.val (.int i0), .unset, .unset, .unset, .unset, .unset] [(.int ((i0 &&& (2147483647 : Int32)) % (14 : Int32)))])
  refine own_step (fun _ => XS.istoreN X0.here hx rfl (hb hby at_7) rfl (l' := #[.val (.int i0), .val (.int ((i0 &&& (2147483647 : Int32)) % (14 : Int32))), .unset, .unset, .unset, .unset]) rfl) ?_
  show own_Ends p e below s _ _ _ T0 (mkF m 8 #[.val (.int i0), .val (.int ((i0 &&& (2147483647 : Int32)) % (14 : Int32))), .unset, .unset, .unset, .unset] [])
  refine own_step (fun _ => XS.iloadN X0.here hx rfl (hb hby at_8) rfl) ?_
  show own_Ends p e below s _ _ _ T0 (mkF m 9 #[.val (.int i0), .val (.int ((i0 &&& (2147483647 : Int32)) % (14 : Int32))), .unset, .unset, .unset, .unset] [(.int ((i0 &&& (2147483647 : Int32)) % (14 : Int32)))])
  obtain ⟨_, _, ⟨T6, L6, k6, n6⟩, -, X6, ⟨Lc6, hQ6, l6, y6, z6⟩, st6⟩ := Jvm.LawKit.callS X0 hx (y := (⟨"com/example/rollforth/rollforth/cli/OptionTakesNumberPinLaw", "pick", "(I)Lcom/example/rollforth/rollforth/cli/Option;"⟩ : MethodName)) hown (mvT hZ (hw _ (List.mem_of_getElem? (i := 1) rfl))) (mvT hZ (hw _ (List.mem_of_getElem? (i := 2) rfl))) (mvT hZ (hw _ (List.mem_of_getElem? (i := 3) rfl))) (mvT hZ (hw _ (List.mem_of_getElem? (i := 4) rfl))) (by decide) (backOf (W := 0) (rm1 l Z a0 hw [] ((i0 &&& (2147483647 : Int32)) % (14 : Int32)) wo0 wo1 wo2 wo3 wo4 wo5 wo6 wo7 wo8 wo9 wo10 wo11 wo12 wo13 h0 n0 Z0 Sw0 Sw1 Sw2 Sw3 Sw4 Sw5 Sw6 Sw7 Sw8 Sw9 Sw10 Sw11 Sw12 Sw13) hZ (hw _ (List.mem_of_getElem? (i := 4) rfl)) (hw _ (List.mem_of_getElem? (i := 3) rfl)) (by decide) (by decide)) (g := (mkF m 9 #[.val (.int i0), .val (.int ((i0 &&& (2147483647 : Int32)) % (14 : Int32))), .unset, .unset, .unset, .unset] [(.int ((i0 &&& (2147483647 : Int32)) % (14 : Int32)))])) rfl (by rw [hml]; rfl) (argsL := [(.int ((i0 &&& (2147483647 : Int32)) % (14 : Int32)))]) (rest := []) (lenOf pd_0 rfl) rfl (by show 2 * 0 + _ ≤ _; exact Nat.le_of_eq rfl) (hb hby at_9) (fun _ _ => ⟨rfl, e0, (by decide : 0 + 0 ≤ _), (by decide : 0 + 0 ≤ _)⟩)
  dsimp only [Pt.U, Pt.locs, Pt.cells, Pt.slots] at X6 l6 y6 z6 st6 hQ6
  subst l6 y6 z6
  obtain ⟨rfl, N6q, hh6⟩ := hQ6
  have N6 := Fr.app N0 N6q
  refine own_step st6 ?_
  show own_Ends p e below s _ _ _ T6 (mkF m 12 #[.val (.int i0), .val (.int ((i0 &&& (2147483647 : Int32)) % (14 : Int32))), .unset, .unset, .unset, .unset] [(.ref (f1_0 ((i0 &&& (2147483647 : Int32)) % (14 : Int32)) wo0 wo1 wo2 wo3 wo4 wo5 wo6 wo7 wo8 wo9 wo10 wo11 wo12 wo13))])
  refine own_step (fun _ => XS.astoreN X6.here hx rfl (hb hby at_12) rfl rfl (l' := #[.val (.int i0), .val (.int ((i0 &&& (2147483647 : Int32)) % (14 : Int32))), .val (.ref (f1_0 ((i0 &&& (2147483647 : Int32)) % (14 : Int32)) wo0 wo1 wo2 wo3 wo4 wo5 wo6 wo7 wo8 wo9 wo10 wo11 wo12 wo13)), .unset, .unset, .unset]) rfl) ?_
  show own_Ends p e below s _ _ _ T6 (mkF m 13 #[.val (.int i0), .val (.int ((i0 &&& (2147483647 : Int32)) % (14 : Int32))), .val (.ref (f1_0 ((i0 &&& (2147483647 : Int32)) % (14 : Int32)) wo0 wo1 wo2 wo3 wo4 wo5 wo6 wo7 wo8 wo9 wo10 wo11 wo12 wo13)), .unset, .unset, .unset] [])
  refine own_step (fun _ => XS.aloadN X6.here hx rfl (hb hby at_13) rfl rfl) ?_
  show own_Ends p e below s _ _ _ T6 (mkF m 14 #[.val (.int i0), .val (.int ((i0 &&& (2147483647 : Int32)) % (14 : Int32))), .val (.ref (f1_0 ((i0 &&& (2147483647 : Int32)) % (14 : Int32)) wo0 wo1 wo2 wo3 wo4 wo5 wo6 wo7 wo8 wo9 wo10 wo11 wo12 wo13)), .unset, .unset, .unset] [(.ref (f1_0 ((i0 &&& (2147483647 : Int32)) % (14 : Int32)) wo0 wo1 wo2 wo3 wo4 wo5 wo6 wo7 wo8 wo9 wo10 wo11 wo12 wo13))])
  obtain ⟨cq7, kq7, q7a, q7b, q7c⟩ := isOf hZ hh6 Eo
  obtain ⟨_, _, ⟨T7, L7, k7, n7⟩, -, X7, ⟨Lc7, hQ7, l7, y7, z7⟩, st7⟩ := X6.virtualBack hx (y := (⟨"com/example/rollforth/rollforth/cli/Option", "takesNumber", "()Z"⟩ : MethodName)) (z := (⟨"com/example/rollforth/rollforth/cli/Option", "takesNumber", "()Z"⟩ : MethodName)) hown (mvT hZ (hw _ (List.mem_of_getElem? (i := 8) rfl))) (mvT hZ (hw _ (List.mem_of_getElem? (i := 9) rfl))) (notFace_of_selects (args := #[]) (mvT hZ (hw _ (List.mem_of_getElem? (i := 11) rfl)))) (mvT hZ (hw _ (List.mem_of_getElem? (i := 11) rfl))) (mvT hZ (hw _ (List.mem_of_getElem? (i := 10) rfl))) (by decide) (backOf (W := 0) (rm2 l Z a0 hw [] (f1_0 ((i0 &&& (2147483647 : Int32)) % (14 : Int32)) wo0 wo1 wo2 wo3 wo4 wo5 wo6 wo7 wo8 wo9 wo10 wo11 wo12 wo13) mo h0 n0 Z0 Fm) hZ (hw _ (List.mem_of_getElem? (i := 12) rfl)) (hw _ (List.mem_of_getElem? (i := 6) rfl)) (by decide) (by decide)) q7a q7c (g := (mkF m 14 #[.val (.int i0), .val (.int ((i0 &&& (2147483647 : Int32)) % (14 : Int32))), .val (.ref (f1_0 ((i0 &&& (2147483647 : Int32)) % (14 : Int32)) wo0 wo1 wo2 wo3 wo4 wo5 wo6 wo7 wo8 wo9 wo10 wo11 wo12 wo13)), .unset, .unset, .unset] [(.ref (f1_0 ((i0 &&& (2147483647 : Int32)) % (14 : Int32)) wo0 wo1 wo2 wo3 wo4 wo5 wo6 wo7 wo8 wo9 wo10 wo11 wo12 wo13))])) rfl (by rw [hml]; rfl) (Steps.refl _) (argsL := []) (rest := []) (lenOf pd_1 rfl) rfl (by show 2 * 0 + _ ≤ _; exact Nat.le_of_eq rfl) (hb hby at_14) (fun _ _ => ⟨rfl, hh6, (by decide : 0 + 0 ≤ _), (by decide : 0 + 0 ≤ _)⟩)
  dsimp only [Pt.U, Pt.locs, Pt.cells, Pt.slots] at X7 l7 y7 z7 st7 hQ7
  subst l7 y7 z7
  obtain ⟨rfl, N7q, hh7⟩ := hQ7
  have N7 := Fr.app N6 N7q
  refine own_step (fun _ => st7.trans) ?_
  show own_Ends p e below s _ _ _ T7 (mkF m 17 #[.val (.int i0), .val (.int ((i0 &&& (2147483647 : Int32)) % (14 : Int32))), .val (.ref (f1_0 ((i0 &&& (2147483647 : Int32)) % (14 : Int32)) wo0 wo1 wo2 wo3 wo4 wo5 wo6 wo7 wo8 wo9 wo10 wo11 wo12 wo13)), .unset, .unset, .unset] [(.int (f2_0 (f1_0 ((i0 &&& (2147483647 : Int32)) % (14 : Int32)) wo0 wo1 wo2 wo3 wo4 wo5 wo6 wo7 wo8 wo9 wo10 wo11 wo12 wo13) mo))])
  refine own_step (fun _ => XS.istoreN X7.here hx rfl (hb hby at_17) rfl (l' := #[.val (.int i0), .val (.int ((i0 &&& (2147483647 : Int32)) % (14 : Int32))), .val (.ref (f1_0 ((i0 &&& (2147483647 : Int32)) % (14 : Int32)) wo0 wo1 wo2 wo3 wo4 wo5 wo6 wo7 wo8 wo9 wo10 wo11 wo12 wo13)), .val (.int (f2_0 (f1_0 ((i0 &&& (2147483647 : Int32)) % (14 : Int32)) wo0 wo1 wo2 wo3 wo4 wo5 wo6 wo7 wo8 wo9 wo10 wo11 wo12 wo13) mo)), .unset, .unset]) rfl) ?_
  show own_Ends p e below s _ _ _ T7 (mkF m 18 #[.val (.int i0), .val (.int ((i0 &&& (2147483647 : Int32)) % (14 : Int32))), .val (.ref (f1_0 ((i0 &&& (2147483647 : Int32)) % (14 : Int32)) wo0 wo1 wo2 wo3 wo4 wo5 wo6 wo7 wo8 wo9 wo10 wo11 wo12 wo13)), .val (.int (f2_0 (f1_0 ((i0 &&& (2147483647 : Int32)) % (14 : Int32)) wo0 wo1 wo2 wo3 wo4 wo5 wo6 wo7 wo8 wo9 wo10 wo11 wo12 wo13) mo)), .unset, .unset] [])
  refine own_step (fun _ => XS.iloadN X7.here hx rfl (hb hby at_18) rfl) ?_
  show own_Ends p e below s _ _ _ T7 (mkF m 19 #[.val (.int i0), .val (.int ((i0 &&& (2147483647 : Int32)) % (14 : Int32))), .val (.ref (f1_0 ((i0 &&& (2147483647 : Int32)) % (14 : Int32)) wo0 wo1 wo2 wo3 wo4 wo5 wo6 wo7 wo8 wo9 wo10 wo11 wo12 wo13)), .val (.int (f2_0 (f1_0 ((i0 &&& (2147483647 : Int32)) % (14 : Int32)) wo0 wo1 wo2 wo3 wo4 wo5 wo6 wo7 wo8 wo9 wo10 wo11 wo12 wo13) mo)), .unset, .unset] [(.int (f2_0 (f1_0 ((i0 &&& (2147483647 : Int32)) % (14 : Int32)) wo0 wo1 wo2 wo3 wo4 wo5 wo6 wo7 wo8 wo9 wo10 wo11 wo12 wo13) mo))])
  refine own_step (fun _ => XS.iloadN X7.here hx rfl (hb hby at_19) rfl) ?_
  show own_Ends p e below s _ _ _ T7 (mkF m 20 #[.val (.int i0), .val (.int ((i0 &&& (2147483647 : Int32)) % (14 : Int32))), .val (.ref (f1_0 ((i0 &&& (2147483647 : Int32)) % (14 : Int32)) wo0 wo1 wo2 wo3 wo4 wo5 wo6 wo7 wo8 wo9 wo10 wo11 wo12 wo13)), .val (.int (f2_0 (f1_0 ((i0 &&& (2147483647 : Int32)) % (14 : Int32)) wo0 wo1 wo2 wo3 wo4 wo5 wo6 wo7 wo8 wo9 wo10 wo11 wo12 wo13) mo)), .unset, .unset] [(.int ((i0 &&& (2147483647 : Int32)) % (14 : Int32))), (.int (f2_0 (f1_0 ((i0 &&& (2147483647 : Int32)) % (14 : Int32)) wo0 wo1 wo2 wo3 wo4 wo5 wo6 wo7 wo8 wo9 wo10 wo11 wo12 wo13) mo))])
  obtain ⟨_, _, ⟨T8, L8, k8, n8⟩, -, X8, ⟨Lc8, hQ8, l8, y8, z8⟩, st8⟩ := Jvm.LawKit.callS X7 hx (y := (⟨"com/example/rollforth/rollforth/cli/OptionTakesNumberPinLaw", "expected", "(I)Z"⟩ : MethodName)) hown (mvT hZ (hw _ (List.mem_of_getElem? (i := 15) rfl))) (mvT hZ (hw _ (List.mem_of_getElem? (i := 16) rfl))) (mvT hZ (hw _ (List.mem_of_getElem? (i := 3) rfl))) (mvT hZ (hw _ (List.mem_of_getElem? (i := 17) rfl))) (by decide) (backOf (W := 1) (rm3 l Z a0 hw [] ((i0 &&& (2147483647 : Int32)) % (14 : Int32)) h0 n0 Z0) hZ (hw _ (List.mem_of_getElem? (i := 17) rfl)) (hw _ (List.mem_of_getElem? (i := 3) rfl)) (by decide) (by decide)) (g := (mkF m 20 #[.val (.int i0), .val (.int ((i0 &&& (2147483647 : Int32)) % (14 : Int32))), .val (.ref (f1_0 ((i0 &&& (2147483647 : Int32)) % (14 : Int32)) wo0 wo1 wo2 wo3 wo4 wo5 wo6 wo7 wo8 wo9 wo10 wo11 wo12 wo13)), .val (.int (f2_0 (f1_0 ((i0 &&& (2147483647 : Int32)) % (14 : Int32)) wo0 wo1 wo2 wo3 wo4 wo5 wo6 wo7 wo8 wo9 wo10 wo11 wo12 wo13) mo)), .unset, .unset] [(.int ((i0 &&& (2147483647 : Int32)) % (14 : Int32))), (.int (f2_0 (f1_0 ((i0 &&& (2147483647 : Int32)) % (14 : Int32)) wo0 wo1 wo2 wo3 wo4 wo5 wo6 wo7 wo8 wo9 wo10 wo11 wo12 wo13) mo))])) rfl (by rw [hml]; rfl) (argsL := [(.int ((i0 &&& (2147483647 : Int32)) % (14 : Int32)))]) (rest := [(.int (f2_0 (f1_0 ((i0 &&& (2147483647 : Int32)) % (14 : Int32)) wo0 wo1 wo2 wo3 wo4 wo5 wo6 wo7 wo8 wo9 wo10 wo11 wo12 wo13) mo))]) (lenOf pd_2 rfl) rfl (by show 2 * 0 + _ ≤ _; exact Nat.le_of_eq rfl) (hb hby at_20) (fun _ _ => ⟨rfl, hh7, (by decide : 0 + 0 ≤ _), (by decide : 0 + 0 ≤ _)⟩)
  dsimp only [Pt.U, Pt.locs, Pt.cells, Pt.slots] at X8 l8 y8 z8 st8 hQ8
  subst l8 y8 z8
  obtain ⟨rfl, N8q, hh8⟩ := hQ8
  have N8 := Fr.app N7 N8q
  refine own_step st8 ?_
  show own_Ends p e below s _ _ _ T8 (mkF m 23 #[.val (.int i0), .val (.int ((i0 &&& (2147483647 : Int32)) % (14 : Int32))), .val (.ref (f1_0 ((i0 &&& (2147483647 : Int32)) % (14 : Int32)) wo0 wo1 wo2 wo3 wo4 wo5 wo6 wo7 wo8 wo9 wo10 wo11 wo12 wo13)), .val (.int (f2_0 (f1_0 ((i0 &&& (2147483647 : Int32)) % (14 : Int32)) wo0 wo1 wo2 wo3 wo4 wo5 wo6 wo7 wo8 wo9 wo10 wo11 wo12 wo13) mo)), .unset, .unset] [(.int (f3_0 ((i0 &&& (2147483647 : Int32)) % (14 : Int32)))), (.int (f2_0 (f1_0 ((i0 &&& (2147483647 : Int32)) % (14 : Int32)) wo0 wo1 wo2 wo3 wo4 wo5 wo6 wo7 wo8 wo9 wo10 wo11 wo12 wo13) mo))])
  by_cases hc23 : (f2_0 (f1_0 ((i0 &&& (2147483647 : Int32)) % (14 : Int32)) wo0 wo1 wo2 wo3 wo4 wo5 wo6 wo7 wo8 wo9 wo10 wo11 wo12 wo13) mo) = (f3_0 ((i0 &&& (2147483647 : Int32)) % (14 : Int32)))
  · have hv_t := hv.trans (if_pos hc23)
    refine own_step (fun _ => XS.icmpYes X8.here hx rfl (pc0 := 23) (pc' := 28) rfl (hb hby at_23) rfl (teq hc23).1 (by decide) (by decide)) ?_
    show own_Ends p e below s _ _ _ T8 (mkF m 28 #[.val (.int i0), .val (.int ((i0 &&& (2147483647 : Int32)) % (14 : Int32))), .val (.ref (f1_0 ((i0 &&& (2147483647 : Int32)) % (14 : Int32)) wo0 wo1 wo2 wo3 wo4 wo5 wo6 wo7 wo8 wo9 wo10 wo11 wo12 wo13)), .val (.int (f2_0 (f1_0 ((i0 &&& (2147483647 : Int32)) % (14 : Int32)) wo0 wo1 wo2 wo3 wo4 wo5 wo6 wo7 wo8 wo9 wo10 wo11 wo12 wo13) mo)), .unset, .unset] [])
    refine own_step (fun _ => XS.aloadN X8.here hx rfl (hb hby at_28) rfl rfl) ?_
    show own_Ends p e below s _ _ _ T8 (mkF m 29 #[.val (.int i0), .val (.int ((i0 &&& (2147483647 : Int32)) % (14 : Int32))), .val (.ref (f1_0 ((i0 &&& (2147483647 : Int32)) % (14 : Int32)) wo0 wo1 wo2 wo3 wo4 wo5 wo6 wo7 wo8 wo9 wo10 wo11 wo12 wo13)), .val (.int (f2_0 (f1_0 ((i0 &&& (2147483647 : Int32)) % (14 : Int32)) wo0 wo1 wo2 wo3 wo4 wo5 wo6 wo7 wo8 wo9 wo10 wo11 wo12 wo13) mo)), .unset, .unset] [(.ref (f1_0 ((i0 &&& (2147483647 : Int32)) % (14 : Int32)) wo0 wo1 wo2 wo3 wo4 wo5 wo6 wo7 wo8 wo9 wo10 wo11 wo12 wo13))])
    obtain ⟨cq9, kq9, q9a, q9b, q9c⟩ := isOf hZ hh8 Eo
    obtain ⟨_, _, ⟨T9, L9, k9, n9⟩, -, X9, ⟨Lc9, hQ9, l9, y9, z9⟩, st9⟩ := X8.virtualBack hx (y := (⟨"com/example/rollforth/rollforth/cli/Option", "takesValue", "()Z"⟩ : MethodName)) (z := (⟨"com/example/rollforth/rollforth/cli/Option", "takesValue", "()Z"⟩ : MethodName)) hown (mvT hZ (hw _ (List.mem_of_getElem? (i := 18) rfl))) (mvT hZ (hw _ (List.mem_of_getElem? (i := 19) rfl))) (notFace_of_selects (args := #[]) (mvT hZ (hw _ (List.mem_of_getElem? (i := 21) rfl)))) (mvT hZ (hw _ (List.mem_of_getElem? (i := 21) rfl))) (mvT hZ (hw _ (List.mem_of_getElem? (i := 20) rfl))) (by decide) (backOf (W := 0) (rm4 l Z a0 hw [] (f1_0 ((i0 &&& (2147483647 : Int32)) % (14 : Int32)) wo0 wo1 wo2 wo3 wo4 wo5 wo6 wo7 wo8 wo9 wo10 wo11 wo12 wo13) vo h0 n0 Z0 Fv hvo) hZ (hw _ (List.mem_of_getElem? (i := 22) rfl)) (hw _ (List.mem_of_getElem? (i := 6) rfl)) (by decide) (by decide)) q9a q9c (g := (mkF m 29 #[.val (.int i0), .val (.int ((i0 &&& (2147483647 : Int32)) % (14 : Int32))), .val (.ref (f1_0 ((i0 &&& (2147483647 : Int32)) % (14 : Int32)) wo0 wo1 wo2 wo3 wo4 wo5 wo6 wo7 wo8 wo9 wo10 wo11 wo12 wo13)), .val (.int (f2_0 (f1_0 ((i0 &&& (2147483647 : Int32)) % (14 : Int32)) wo0 wo1 wo2 wo3 wo4 wo5 wo6 wo7 wo8 wo9 wo10 wo11 wo12 wo13) mo)), .unset, .unset] [(.ref (f1_0 ((i0 &&& (2147483647 : Int32)) % (14 : Int32)) wo0 wo1 wo2 wo3 wo4 wo5 wo6 wo7 wo8 wo9 wo10 wo11 wo12 wo13))])) rfl (by rw [hml]; rfl) (Steps.refl _) (argsL := []) (rest := []) (lenOf pd_1 rfl) rfl (by show 2 * 0 + _ ≤ _; exact Nat.le_of_eq rfl) (hb hby at_29) (fun _ _ => ⟨rfl, hh8, (by decide : 0 + 0 ≤ _), (by decide : 0 + 0 ≤ _)⟩)
    dsimp only [Pt.U, Pt.locs, Pt.cells, Pt.slots] at X9 l9 y9 z9 st9 hQ9
    subst l9 y9 z9
    obtain ⟨rfl, N9q, hh9⟩ := hQ9
    have N9 := Fr.app N8 N9q
    refine own_step (fun _ => st9.trans) ?_
    show own_Ends p e below s _ _ _ T9 (mkF m 32 #[.val (.int i0), .val (.int ((i0 &&& (2147483647 : Int32)) % (14 : Int32))), .val (.ref (f1_0 ((i0 &&& (2147483647 : Int32)) % (14 : Int32)) wo0 wo1 wo2 wo3 wo4 wo5 wo6 wo7 wo8 wo9 wo10 wo11 wo12 wo13)), .val (.int (f2_0 (f1_0 ((i0 &&& (2147483647 : Int32)) % (14 : Int32)) wo0 wo1 wo2 wo3 wo4 wo5 wo6 wo7 wo8 wo9 wo10 wo11 wo12 wo13) mo)), .unset, .unset] [(.int (f4_0 (f1_0 ((i0 &&& (2147483647 : Int32)) % (14 : Int32)) wo0 wo1 wo2 wo3 wo4 wo5 wo6 wo7 wo8 wo9 wo10 wo11 wo12 wo13) vo))])
    refine own_step (fun _ => XS.istore X9.here hx rfl (hb hby at_32) rfl (l' := #[.val (.int i0), .val (.int ((i0 &&& (2147483647 : Int32)) % (14 : Int32))), .val (.ref (f1_0 ((i0 &&& (2147483647 : Int32)) % (14 : Int32)) wo0 wo1 wo2 wo3 wo4 wo5 wo6 wo7 wo8 wo9 wo10 wo11 wo12 wo13)), .val (.int (f2_0 (f1_0 ((i0 &&& (2147483647 : Int32)) % (14 : Int32)) wo0 wo1 wo2 wo3 wo4 wo5 wo6 wo7 wo8 wo9 wo10 wo11 wo12 wo13) mo)), .val (.int (f4_0 (f1_0 ((i0 &&& (2147483647 : Int32)) % (14 : Int32)) wo0 wo1 wo2 wo3 wo4 wo5 wo6 wo7 wo8 wo9 wo10 wo11 wo12 wo13) vo)), .unset]) rfl) ?_
    show own_Ends p e below s _ _ _ T9 (mkF m 34 #[.val (.int i0), .val (.int ((i0 &&& (2147483647 : Int32)) % (14 : Int32))), .val (.ref (f1_0 ((i0 &&& (2147483647 : Int32)) % (14 : Int32)) wo0 wo1 wo2 wo3 wo4 wo5 wo6 wo7 wo8 wo9 wo10 wo11 wo12 wo13)), .val (.int (f2_0 (f1_0 ((i0 &&& (2147483647 : Int32)) % (14 : Int32)) wo0 wo1 wo2 wo3 wo4 wo5 wo6 wo7 wo8 wo9 wo10 wo11 wo12 wo13) mo)), .val (.int (f4_0 (f1_0 ((i0 &&& (2147483647 : Int32)) % (14 : Int32)) wo0 wo1 wo2 wo3 wo4 wo5 wo6 wo7 wo8 wo9 wo10 wo11 wo12 wo13) vo)), .unset] [])
    refine own_step (fun _ => XS.aloadN X9.here hx rfl (hb hby at_34) rfl rfl) ?_
    show own_Ends p e below s _ _ _ T9 (mkF m 35 #[.val (.int i0), .val (.int ((i0 &&& (2147483647 : Int32)) % (14 : Int32))), .val (.ref (f1_0 ((i0 &&& (2147483647 : Int32)) % (14 : Int32)) wo0 wo1 wo2 wo3 wo4 wo5 wo6 wo7 wo8 wo9 wo10 wo11 wo12 wo13)), .val (.int (f2_0 (f1_0 ((i0 &&& (2147483647 : Int32)) % (14 : Int32)) wo0 wo1 wo2 wo3 wo4 wo5 wo6 wo7 wo8 wo9 wo10 wo11 wo12 wo13) mo)), .val (.int (f4_0 (f1_0 ((i0 &&& (2147483647 : Int32)) % (14 : Int32)) wo0 wo1 wo2 wo3 wo4 wo5 wo6 wo7 wo8 wo9 wo10 wo11 wo12 wo13) vo)), .unset] [(.ref (f1_0 ((i0 &&& (2147483647 : Int32)) % (14 : Int32)) wo0 wo1 wo2 wo3 wo4 wo5 wo6 wo7 wo8 wo9 wo10 wo11 wo12 wo13))])
    obtain ⟨cq10, kq10, q10a, q10b, q10c⟩ := isOf hZ hh9 Eo
    obtain ⟨_, _, ⟨T10, L10, k10, n10⟩, -, X10, ⟨Lc10, hQ10, l10, y10, z10⟩, st10⟩ := X9.virtualBack hx (y := (⟨"com/example/rollforth/rollforth/cli/Option", "most", "()I"⟩ : MethodName)) (z := (⟨"com/example/rollforth/rollforth/cli/Option", "most", "()I"⟩ : MethodName)) hown (mvT hZ (hw _ (List.mem_of_getElem? (i := 25) rfl))) (mvT hZ (hw _ (List.mem_of_getElem? (i := 26) rfl))) (notFace_of_selects (args := #[]) (mvT hZ (hw _ (List.mem_of_getElem? (i := 28) rfl)))) (mvT hZ (hw _ (List.mem_of_getElem? (i := 28) rfl))) (mvT hZ (hw _ (List.mem_of_getElem? (i := 27) rfl))) (by decide) (backOf (W := 0) (rm5 l Z a0 hw [] (f1_0 ((i0 &&& (2147483647 : Int32)) % (14 : Int32)) wo0 wo1 wo2 wo3 wo4 wo5 wo6 wo7 wo8 wo9 wo10 wo11 wo12 wo13) mo h0 n0 Z0 Fm) hZ (hw _ (List.mem_of_getElem? (i := 29) rfl)) (hw _ (List.mem_of_getElem? (i := 6) rfl)) (by decide) (by decide)) q10a q10c (g := (mkF m 35 #[.val (.int i0), .val (.int ((i0 &&& (2147483647 : Int32)) % (14 : Int32))), .val (.ref (f1_0 ((i0 &&& (2147483647 : Int32)) % (14 : Int32)) wo0 wo1 wo2 wo3 wo4 wo5 wo6 wo7 wo8 wo9 wo10 wo11 wo12 wo13)), .val (.int (f2_0 (f1_0 ((i0 &&& (2147483647 : Int32)) % (14 : Int32)) wo0 wo1 wo2 wo3 wo4 wo5 wo6 wo7 wo8 wo9 wo10 wo11 wo12 wo13) mo)), .val (.int (f4_0 (f1_0 ((i0 &&& (2147483647 : Int32)) % (14 : Int32)) wo0 wo1 wo2 wo3 wo4 wo5 wo6 wo7 wo8 wo9 wo10 wo11 wo12 wo13) vo)), .unset] [(.ref (f1_0 ((i0 &&& (2147483647 : Int32)) % (14 : Int32)) wo0 wo1 wo2 wo3 wo4 wo5 wo6 wo7 wo8 wo9 wo10 wo11 wo12 wo13))])) rfl (by rw [hml]; rfl) (Steps.refl _) (argsL := []) (rest := []) (lenOf pd_3 rfl) rfl (by show 2 * 0 + _ ≤ _; exact Nat.le_of_eq rfl) (hb hby at_35) (fun _ _ => ⟨rfl, hh9, (by decide : 0 + 0 ≤ _), (by decide : 0 + 0 ≤ _)⟩)
    dsimp only [Pt.U, Pt.locs, Pt.cells, Pt.slots] at X10 l10 y10 z10 st10 hQ10
    subst l10 y10 z10
    obtain ⟨rfl, N10q, hh10⟩ := hQ10
    have N10 := Fr.app N9 N10q
    refine own_step (fun _ => st10.trans) ?_
    show own_Ends p e below s _ _ _ T10 (mkF m 38 #[.val (.int i0), .val (.int ((i0 &&& (2147483647 : Int32)) % (14 : Int32))), .val (.ref (f1_0 ((i0 &&& (2147483647 : Int32)) % (14 : Int32)) wo0 wo1 wo2 wo3 wo4 wo5 wo6 wo7 wo8 wo9 wo10 wo11 wo12 wo13)), .val (.int (f2_0 (f1_0 ((i0 &&& (2147483647 : Int32)) % (14 : Int32)) wo0 wo1 wo2 wo3 wo4 wo5 wo6 wo7 wo8 wo9 wo10 wo11 wo12 wo13) mo)), .val (.int (f4_0 (f1_0 ((i0 &&& (2147483647 : Int32)) % (14 : Int32)) wo0 wo1 wo2 wo3 wo4 wo5 wo6 wo7 wo8 wo9 wo10 wo11 wo12 wo13) vo)), .unset] [(.int (f5_0 (f1_0 ((i0 &&& (2147483647 : Int32)) % (14 : Int32)) wo0 wo1 wo2 wo3 wo4 wo5 wo6 wo7 wo8 wo9 wo10 wo11 wo12 wo13) mo))])
    refine own_step (fun _ => XS.istore X10.here hx rfl (hb hby at_38) rfl (l' := #[.val (.int i0), .val (.int ((i0 &&& (2147483647 : Int32)) % (14 : Int32))), .val (.ref (f1_0 ((i0 &&& (2147483647 : Int32)) % (14 : Int32)) wo0 wo1 wo2 wo3 wo4 wo5 wo6 wo7 wo8 wo9 wo10 wo11 wo12 wo13)), .val (.int (f2_0 (f1_0 ((i0 &&& (2147483647 : Int32)) % (14 : Int32)) wo0 wo1 wo2 wo3 wo4 wo5 wo6 wo7 wo8 wo9 wo10 wo11 wo12 wo13) mo)), .val (.int (f4_0 (f1_0 ((i0 &&& (2147483647 : Int32)) % (14 : Int32)) wo0 wo1 wo2 wo3 wo4 wo5 wo6 wo7 wo8 wo9 wo10 wo11 wo12 wo13) vo)), .val (.int (f5_0 (f1_0 ((i0 &&& (2147483647 : Int32)) % (14 : Int32)) wo0 wo1 wo2 wo3 wo4 wo5 wo6 wo7 wo8 wo9 wo10 wo11 wo12 wo13) mo))]) rfl) ?_
    show own_Ends p e below s _ _ _ T10 (mkF m 40 #[.val (.int i0), .val (.int ((i0 &&& (2147483647 : Int32)) % (14 : Int32))), .val (.ref (f1_0 ((i0 &&& (2147483647 : Int32)) % (14 : Int32)) wo0 wo1 wo2 wo3 wo4 wo5 wo6 wo7 wo8 wo9 wo10 wo11 wo12 wo13)), .val (.int (f2_0 (f1_0 ((i0 &&& (2147483647 : Int32)) % (14 : Int32)) wo0 wo1 wo2 wo3 wo4 wo5 wo6 wo7 wo8 wo9 wo10 wo11 wo12 wo13) mo)), .val (.int (f4_0 (f1_0 ((i0 &&& (2147483647 : Int32)) % (14 : Int32)) wo0 wo1 wo2 wo3 wo4 wo5 wo6 wo7 wo8 wo9 wo10 wo11 wo12 wo13) vo)), .val (.int (f5_0 (f1_0 ((i0 &&& (2147483647 : Int32)) % (14 : Int32)) wo0 wo1 wo2 wo3 wo4 wo5 wo6 wo7 wo8 wo9 wo10 wo11 wo12 wo13) mo))] [])
    refine own_step (fun _ => XS.iloadN X10.here hx rfl (hb hby at_40) rfl) ?_
    show own_Ends p e below s _ _ _ T10 (mkF m 41 #[.val (.int i0), .val (.int ((i0 &&& (2147483647 : Int32)) % (14 : Int32))), .val (.ref (f1_0 ((i0 &&& (2147483647 : Int32)) % (14 : Int32)) wo0 wo1 wo2 wo3 wo4 wo5 wo6 wo7 wo8 wo9 wo10 wo11 wo12 wo13)), .val (.int (f2_0 (f1_0 ((i0 &&& (2147483647 : Int32)) % (14 : Int32)) wo0 wo1 wo2 wo3 wo4 wo5 wo6 wo7 wo8 wo9 wo10 wo11 wo12 wo13) mo)), .val (.int (f4_0 (f1_0 ((i0 &&& (2147483647 : Int32)) % (14 : Int32)) wo0 wo1 wo2 wo3 wo4 wo5 wo6 wo7 wo8 wo9 wo10 wo11 wo12 wo13) vo)), .val (.int (f5_0 (f1_0 ((i0 &&& (2147483647 : Int32)) % (14 : Int32)) wo0 wo1 wo2 wo3 wo4 wo5 wo6 wo7 wo8 wo9 wo10 wo11 wo12 wo13) mo))] [(.int (f2_0 (f1_0 ((i0 &&& (2147483647 : Int32)) % (14 : Int32)) wo0 wo1 wo2 wo3 wo4 wo5 wo6 wo7 wo8 wo9 wo10 wo11 wo12 wo13) mo))])
    by_cases hc41 : (f2_0 (f1_0 ((i0 &&& (2147483647 : Int32)) % (14 : Int32)) wo0 wo1 wo2 wo3 wo4 wo5 wo6 wo7 wo8 wo9 wo10 wo11 wo12 wo13) mo) = (0 : Int32)
    · have hv_t_t := hv_t.trans (if_pos hc41)
      refine own_step (fun _ => XS.ifYes X10.here hx rfl (pc0 := 41) (pc' := 61) rfl (hb hby at_41) rfl ((if0 _ _).trans (teq hc41).1) (by decide) (by decide)) ?_
      show own_Ends p e below s _ _ _ T10 (mkF m 61 #[.val (.int i0), .val (.int ((i0 &&& (2147483647 : Int32)) % (14 : Int32))), .val (.ref (f1_0 ((i0 &&& (2147483647 : Int32)) % (14 : Int32)) wo0 wo1 wo2 wo3 wo4 wo5 wo6 wo7 wo8 wo9 wo10 wo11 wo12 wo13)), .val (.int (f2_0 (f1_0 ((i0 &&& (2147483647 : Int32)) % (14 : Int32)) wo0 wo1 wo2 wo3 wo4 wo5 wo6 wo7 wo8 wo9 wo10 wo11 wo12 wo13) mo)), .val (.int (f4_0 (f1_0 ((i0 &&& (2147483647 : Int32)) % (14 : Int32)) wo0 wo1 wo2 wo3 wo4 wo5 wo6 wo7 wo8 wo9 wo10 wo11 wo12 wo13) vo)), .val (.int (f5_0 (f1_0 ((i0 &&& (2147483647 : Int32)) % (14 : Int32)) wo0 wo1 wo2 wo3 wo4 wo5 wo6 wo7 wo8 wo9 wo10 wo11 wo12 wo13) mo))] [])
      refine own_step (fun _ => XS.iload X10.here hx rfl (hb hby at_61) rfl) ?_
      show own_Ends p e below s _ _ _ T10 (mkF m 63 #[.val (.int i0), .val (.int ((i0 &&& (2147483647 : Int32)) % (14 : Int32))), .val (.ref (f1_0 ((i0 &&& (2147483647 : Int32)) % (14 : Int32)) wo0 wo1 wo2 wo3 wo4 wo5 wo6 wo7 wo8 wo9 wo10 wo11 wo12 wo13)), .val (.int (f2_0 (f1_0 ((i0 &&& (2147483647 : Int32)) % (14 : Int32)) wo0 wo1 wo2 wo3 wo4 wo5 wo6 wo7 wo8 wo9 wo10 wo11 wo12 wo13) mo)), .val (.int (f4_0 (f1_0 ((i0 &&& (2147483647 : Int32)) % (14 : Int32)) wo0 wo1 wo2 wo3 wo4 wo5 wo6 wo7 wo8 wo9 wo10 wo11 wo12 wo13) vo)), .val (.int (f5_0 (f1_0 ((i0 &&& (2147483647 : Int32)) % (14 : Int32)) wo0 wo1 wo2 wo3 wo4 wo5 wo6 wo7 wo8 wo9 wo10 wo11 wo12 wo13) mo))] [(.int (f5_0 (f1_0 ((i0 &&& (2147483647 : Int32)) % (14 : Int32)) wo0 wo1 wo2 wo3 wo4 wo5 wo6 wo7 wo8 wo9 wo10 wo11 wo12 wo13) mo))])
      by_cases hc63 : (f5_0 (f1_0 ((i0 &&& (2147483647 : Int32)) % (14 : Int32)) wo0 wo1 wo2 wo3 wo4 wo5 wo6 wo7 wo8 wo9 wo10 wo11 wo12 wo13) mo) = (0 : Int32)
      · have hv_t_t_t := hv_t_t.trans (if_pos hc63)
        refine own_step (fun _ => XS.ifNo X10.here hx rfl (hb hby at_63) rfl ((if0 _ _).trans (teq hc63).2)) ?_
        show own_Ends p e below s _ _ _ T10 (mkF m 66 #[.val (.int i0), .val (.int ((i0 &&& (2147483647 : Int32)) % (14 : Int32))), .val (.ref (f1_0 ((i0 &&& (2147483647 : Int32)) % (14 : Int32)) wo0 wo1 wo2 wo3 wo4 wo5 wo6 wo7 wo8 wo9 wo10 wo11 wo12 wo13)), .val (.int (f2_0 (f1_0 ((i0 &&& (2147483647 : Int32)) % (14 : Int32)) wo0 wo1 wo2 wo3 wo4 wo5 wo6 wo7 wo8 wo9 wo10 wo11 wo12 wo13) mo)), .val (.int (f4_0 (f1_0 ((i0 &&& (2147483647 : Int32)) % (14 : Int32)) wo0 wo1 wo2 wo3 wo4 wo5 wo6 wo7 wo8 wo9 wo10 wo11 wo12 wo13) vo)), .val (.int (f5_0 (f1_0 ((i0 &&& (2147483647 : Int32)) % (14 : Int32)) wo0 wo1 wo2 wo3 wo4 wo5 wo6 wo7 wo8 wo9 wo10 wo11 wo12 wo13) mo))] [])
        refine own_step (fun _ => XS.iconst X10.here hx rfl (hb hby at_66)) ?_
        show own_Ends p e below s _ _ _ T10 (mkF m 67 #[.val (.int i0), .val (.int ((i0 &&& (2147483647 : Int32)) % (14 : Int32))), .val (.ref (f1_0 ((i0 &&& (2147483647 : Int32)) % (14 : Int32)) wo0 wo1 wo2 wo3 wo4 wo5 wo6 wo7 wo8 wo9 wo10 wo11 wo12 wo13)), .val (.int (f2_0 (f1_0 ((i0 &&& (2147483647 : Int32)) % (14 : Int32)) wo0 wo1 wo2 wo3 wo4 wo5 wo6 wo7 wo8 wo9 wo10 wo11 wo12 wo13) mo)), .val (.int (f4_0 (f1_0 ((i0 &&& (2147483647 : Int32)) % (14 : Int32)) wo0 wo1 wo2 wo3 wo4 wo5 wo6 wo7 wo8 wo9 wo10 wo11 wo12 wo13) vo)), .val (.int (f5_0 (f1_0 ((i0 &&& (2147483647 : Int32)) % (14 : Int32)) wo0 wo1 wo2 wo3 wo4 wo5 wo6 wo7 wo8 wo9 wo10 wo11 wo12 wo13) mo))] [(.int (1 : Int32))])
        refine own_step (fun _ => XS.goto X10.here hx rfl (pc0 := 67) (pc' := 71) rfl (hb hby at_67) (by decide) (by decide)) ?_
        show own_Ends p e below s _ _ _ T10 (mkF m 71 #[.val (.int i0), .val (.int ((i0 &&& (2147483647 : Int32)) % (14 : Int32))), .val (.ref (f1_0 ((i0 &&& (2147483647 : Int32)) % (14 : Int32)) wo0 wo1 wo2 wo3 wo4 wo5 wo6 wo7 wo8 wo9 wo10 wo11 wo12 wo13)), .val (.int (f2_0 (f1_0 ((i0 &&& (2147483647 : Int32)) % (14 : Int32)) wo0 wo1 wo2 wo3 wo4 wo5 wo6 wo7 wo8 wo9 wo10 wo11 wo12 wo13) mo)), .val (.int (f4_0 (f1_0 ((i0 &&& (2147483647 : Int32)) % (14 : Int32)) wo0 wo1 wo2 wo3 wo4 wo5 wo6 wo7 wo8 wo9 wo10 wo11 wo12 wo13) vo)), .val (.int (f5_0 (f1_0 ((i0 &&& (2147483647 : Int32)) % (14 : Int32)) wo0 wo1 wo2 wo3 wo4 wo5 wo6 wo7 wo8 wo9 wo10 wo11 wo12 wo13) mo))] [(.int (1 : Int32))])
        exact own_retN X10 (t := .boolean) hx hret hlk (hb hby at_71) (by decide) (by decide) (by simp) ⟨congrArg (fun z => some (Value.int z)) hv_t_t_t.symm, N10, hh10⟩
      · have hv_t_t_f := hv_t_t.trans (if_neg hc63)
        refine own_step (fun _ => XS.ifYes X10.here hx rfl (pc0 := 63) (pc' := 70) rfl (hb hby at_63) rfl ((if0 _ _).trans (feq hc63).2) (by decide) (by decide)) ?_
        show own_Ends p e below s _ _ _ T10 (mkF m 70 #[.val (.int i0), .val (.int ((i0 &&& (2147483647 : Int32)) % (14 : Int32))), .val (.ref (f1_0 ((i0 &&& (2147483647 : Int32)) % (14 : Int32)) wo0 wo1 wo2 wo3 wo4 wo5 wo6 wo7 wo8 wo9 wo10 wo11 wo12 wo13)), .val (.int (f2_0 (f1_0 ((i0 &&& (2147483647 : Int32)) % (14 : Int32)) wo0 wo1 wo2 wo3 wo4 wo5 wo6 wo7 wo8 wo9 wo10 wo11 wo12 wo13) mo)), .val (.int (f4_0 (f1_0 ((i0 &&& (2147483647 : Int32)) % (14 : Int32)) wo0 wo1 wo2 wo3 wo4 wo5 wo6 wo7 wo8 wo9 wo10 wo11 wo12 wo13) vo)), .val (.int (f5_0 (f1_0 ((i0 &&& (2147483647 : Int32)) % (14 : Int32)) wo0 wo1 wo2 wo3 wo4 wo5 wo6 wo7 wo8 wo9 wo10 wo11 wo12 wo13) mo))] [])
        refine own_step (fun _ => XS.iconst X10.here hx rfl (hb hby at_70)) ?_
        show own_Ends p e below s _ _ _ T10 (mkF m 71 #[.val (.int i0), .val (.int ((i0 &&& (2147483647 : Int32)) % (14 : Int32))), .val (.ref (f1_0 ((i0 &&& (2147483647 : Int32)) % (14 : Int32)) wo0 wo1 wo2 wo3 wo4 wo5 wo6 wo7 wo8 wo9 wo10 wo11 wo12 wo13)), .val (.int (f2_0 (f1_0 ((i0 &&& (2147483647 : Int32)) % (14 : Int32)) wo0 wo1 wo2 wo3 wo4 wo5 wo6 wo7 wo8 wo9 wo10 wo11 wo12 wo13) mo)), .val (.int (f4_0 (f1_0 ((i0 &&& (2147483647 : Int32)) % (14 : Int32)) wo0 wo1 wo2 wo3 wo4 wo5 wo6 wo7 wo8 wo9 wo10 wo11 wo12 wo13) vo)), .val (.int (f5_0 (f1_0 ((i0 &&& (2147483647 : Int32)) % (14 : Int32)) wo0 wo1 wo2 wo3 wo4 wo5 wo6 wo7 wo8 wo9 wo10 wo11 wo12 wo13) mo))] [(.int (0 : Int32))])
        exact own_retN X10 (t := .boolean) hx hret hlk (hb hby at_71) (by decide) (by decide) (by simp) ⟨congrArg (fun z => some (Value.int z)) hv_t_t_f.symm, N10, hh10⟩
    · have hv_t_f := hv_t.trans (if_neg hc41)
      refine own_step (fun _ => XS.ifNo X10.here hx rfl (hb hby at_41) rfl ((if0 _ _).trans (feq hc41).1)) ?_
      show own_Ends p e below s _ _ _ T10 (mkF m 44 #[.val (.int i0), .val (.int ((i0 &&& (2147483647 : Int32)) % (14 : Int32))), .val (.ref (f1_0 ((i0 &&& (2147483647 : Int32)) % (14 : Int32)) wo0 wo1 wo2 wo3 wo4 wo5 wo6 wo7 wo8 wo9 wo10 wo11 wo12 wo13)), .val (.int (f2_0 (f1_0 ((i0 &&& (2147483647 : Int32)) % (14 : Int32)) wo0 wo1 wo2 wo3 wo4 wo5 wo6 wo7 wo8 wo9 wo10 wo11 wo12 wo13) mo)), .val (.int (f4_0 (f1_0 ((i0 &&& (2147483647 : Int32)) % (14 : Int32)) wo0 wo1 wo2 wo3 wo4 wo5 wo6 wo7 wo8 wo9 wo10 wo11 wo12 wo13) vo)), .val (.int (f5_0 (f1_0 ((i0 &&& (2147483647 : Int32)) % (14 : Int32)) wo0 wo1 wo2 wo3 wo4 wo5 wo6 wo7 wo8 wo9 wo10 wo11 wo12 wo13) mo))] [])
      refine own_step (fun _ => XS.iload X10.here hx rfl (hb hby at_44) rfl) ?_
      show own_Ends p e below s _ _ _ T10 (mkF m 46 #[.val (.int i0), .val (.int ((i0 &&& (2147483647 : Int32)) % (14 : Int32))), .val (.ref (f1_0 ((i0 &&& (2147483647 : Int32)) % (14 : Int32)) wo0 wo1 wo2 wo3 wo4 wo5 wo6 wo7 wo8 wo9 wo10 wo11 wo12 wo13)), .val (.int (f2_0 (f1_0 ((i0 &&& (2147483647 : Int32)) % (14 : Int32)) wo0 wo1 wo2 wo3 wo4 wo5 wo6 wo7 wo8 wo9 wo10 wo11 wo12 wo13) mo)), .val (.int (f4_0 (f1_0 ((i0 &&& (2147483647 : Int32)) % (14 : Int32)) wo0 wo1 wo2 wo3 wo4 wo5 wo6 wo7 wo8 wo9 wo10 wo11 wo12 wo13) vo)), .val (.int (f5_0 (f1_0 ((i0 &&& (2147483647 : Int32)) % (14 : Int32)) wo0 wo1 wo2 wo3 wo4 wo5 wo6 wo7 wo8 wo9 wo10 wo11 wo12 wo13) mo))] [(.int (f4_0 (f1_0 ((i0 &&& (2147483647 : Int32)) % (14 : Int32)) wo0 wo1 wo2 wo3 wo4 wo5 wo6 wo7 wo8 wo9 wo10 wo11 wo12 wo13) vo))])
      by_cases hc46 : (f4_0 (f1_0 ((i0 &&& (2147483647 : Int32)) % (14 : Int32)) wo0 wo1 wo2 wo3 wo4 wo5 wo6 wo7 wo8 wo9 wo10 wo11 wo12 wo13) vo) = (0 : Int32)
      · have hv_t_f_t := hv_t_f.trans (if_pos hc46)
        refine own_step (fun _ => XS.ifYes X10.here hx rfl (pc0 := 46) (pc' := 59) rfl (hb hby at_46) rfl ((if0 _ _).trans (teq hc46).1) (by decide) (by decide)) ?_
        show own_Ends p e below s _ _ _ T10 (mkF m 59 #[.val (.int i0), .val (.int ((i0 &&& (2147483647 : Int32)) % (14 : Int32))), .val (.ref (f1_0 ((i0 &&& (2147483647 : Int32)) % (14 : Int32)) wo0 wo1 wo2 wo3 wo4 wo5 wo6 wo7 wo8 wo9 wo10 wo11 wo12 wo13)), .val (.int (f2_0 (f1_0 ((i0 &&& (2147483647 : Int32)) % (14 : Int32)) wo0 wo1 wo2 wo3 wo4 wo5 wo6 wo7 wo8 wo9 wo10 wo11 wo12 wo13) mo)), .val (.int (f4_0 (f1_0 ((i0 &&& (2147483647 : Int32)) % (14 : Int32)) wo0 wo1 wo2 wo3 wo4 wo5 wo6 wo7 wo8 wo9 wo10 wo11 wo12 wo13) vo)), .val (.int (f5_0 (f1_0 ((i0 &&& (2147483647 : Int32)) % (14 : Int32)) wo0 wo1 wo2 wo3 wo4 wo5 wo6 wo7 wo8 wo9 wo10 wo11 wo12 wo13) mo))] [])
        refine own_step (fun _ => XS.iconst X10.here hx rfl (hb hby at_59)) ?_
        show own_Ends p e below s _ _ _ T10 (mkF m 60 #[.val (.int i0), .val (.int ((i0 &&& (2147483647 : Int32)) % (14 : Int32))), .val (.ref (f1_0 ((i0 &&& (2147483647 : Int32)) % (14 : Int32)) wo0 wo1 wo2 wo3 wo4 wo5 wo6 wo7 wo8 wo9 wo10 wo11 wo12 wo13)), .val (.int (f2_0 (f1_0 ((i0 &&& (2147483647 : Int32)) % (14 : Int32)) wo0 wo1 wo2 wo3 wo4 wo5 wo6 wo7 wo8 wo9 wo10 wo11 wo12 wo13) mo)), .val (.int (f4_0 (f1_0 ((i0 &&& (2147483647 : Int32)) % (14 : Int32)) wo0 wo1 wo2 wo3 wo4 wo5 wo6 wo7 wo8 wo9 wo10 wo11 wo12 wo13) vo)), .val (.int (f5_0 (f1_0 ((i0 &&& (2147483647 : Int32)) % (14 : Int32)) wo0 wo1 wo2 wo3 wo4 wo5 wo6 wo7 wo8 wo9 wo10 wo11 wo12 wo13) mo))] [(.int (0 : Int32))])
        exact own_retN X10 (t := .boolean) hx hret hlk (hb hby at_60) (by decide) (by decide) (by simp) ⟨congrArg (fun z => some (Value.int z)) hv_t_f_t.symm, N10, hh10⟩
      · have hv_t_f_f := hv_t_f.trans (if_neg hc46)
        refine own_step (fun _ => XS.ifNo X10.here hx rfl (hb hby at_46) rfl ((if0 _ _).trans (feq hc46).1)) ?_
        show own_Ends p e below s _ _ _ T10 (mkF m 49 #[.val (.int i0), .val (.int ((i0 &&& (2147483647 : Int32)) % (14 : Int32))), .val (.ref (f1_0 ((i0 &&& (2147483647 : Int32)) % (14 : Int32)) wo0 wo1 wo2 wo3 wo4 wo5 wo6 wo7 wo8 wo9 wo10 wo11 wo12 wo13)), .val (.int (f2_0 (f1_0 ((i0 &&& (2147483647 : Int32)) % (14 : Int32)) wo0 wo1 wo2 wo3 wo4 wo5 wo6 wo7 wo8 wo9 wo10 wo11 wo12 wo13) mo)), .val (.int (f4_0 (f1_0 ((i0 &&& (2147483647 : Int32)) % (14 : Int32)) wo0 wo1 wo2 wo3 wo4 wo5 wo6 wo7 wo8 wo9 wo10 wo11 wo12 wo13) vo)), .val (.int (f5_0 (f1_0 ((i0 &&& (2147483647 : Int32)) % (14 : Int32)) wo0 wo1 wo2 wo3 wo4 wo5 wo6 wo7 wo8 wo9 wo10 wo11 wo12 wo13) mo))] [])
        refine own_step (fun _ => XS.iload X10.here hx rfl (hb hby at_49) rfl) ?_
        show own_Ends p e below s _ _ _ T10 (mkF m 51 #[.val (.int i0), .val (.int ((i0 &&& (2147483647 : Int32)) % (14 : Int32))), .val (.ref (f1_0 ((i0 &&& (2147483647 : Int32)) % (14 : Int32)) wo0 wo1 wo2 wo3 wo4 wo5 wo6 wo7 wo8 wo9 wo10 wo11 wo12 wo13)), .val (.int (f2_0 (f1_0 ((i0 &&& (2147483647 : Int32)) % (14 : Int32)) wo0 wo1 wo2 wo3 wo4 wo5 wo6 wo7 wo8 wo9 wo10 wo11 wo12 wo13) mo)), .val (.int (f4_0 (f1_0 ((i0 &&& (2147483647 : Int32)) % (14 : Int32)) wo0 wo1 wo2 wo3 wo4 wo5 wo6 wo7 wo8 wo9 wo10 wo11 wo12 wo13) vo)), .val (.int (f5_0 (f1_0 ((i0 &&& (2147483647 : Int32)) % (14 : Int32)) wo0 wo1 wo2 wo3 wo4 wo5 wo6 wo7 wo8 wo9 wo10 wo11 wo12 wo13) mo))] [(.int (f5_0 (f1_0 ((i0 &&& (2147483647 : Int32)) % (14 : Int32)) wo0 wo1 wo2 wo3 wo4 wo5 wo6 wo7 wo8 wo9 wo10 wo11 wo12 wo13) mo))])
        refine own_step (fun _ => XS.iconst X10.here hx rfl (hb hby at_51)) ?_
        show own_Ends p e below s _ _ _ T10 (mkF m 52 #[.val (.int i0), .val (.int ((i0 &&& (2147483647 : Int32)) % (14 : Int32))), .val (.ref (f1_0 ((i0 &&& (2147483647 : Int32)) % (14 : Int32)) wo0 wo1 wo2 wo3 wo4 wo5 wo6 wo7 wo8 wo9 wo10 wo11 wo12 wo13)), .val (.int (f2_0 (f1_0 ((i0 &&& (2147483647 : Int32)) % (14 : Int32)) wo0 wo1 wo2 wo3 wo4 wo5 wo6 wo7 wo8 wo9 wo10 wo11 wo12 wo13) mo)), .val (.int (f4_0 (f1_0 ((i0 &&& (2147483647 : Int32)) % (14 : Int32)) wo0 wo1 wo2 wo3 wo4 wo5 wo6 wo7 wo8 wo9 wo10 wo11 wo12 wo13) vo)), .val (.int (f5_0 (f1_0 ((i0 &&& (2147483647 : Int32)) % (14 : Int32)) wo0 wo1 wo2 wo3 wo4 wo5 wo6 wo7 wo8 wo9 wo10 wo11 wo12 wo13) mo))] [(.int (1 : Int32)), (.int (f5_0 (f1_0 ((i0 &&& (2147483647 : Int32)) % (14 : Int32)) wo0 wo1 wo2 wo3 wo4 wo5 wo6 wo7 wo8 wo9 wo10 wo11 wo12 wo13) mo))])
        by_cases hc52 : (f5_0 (f1_0 ((i0 &&& (2147483647 : Int32)) % (14 : Int32)) wo0 wo1 wo2 wo3 wo4 wo5 wo6 wo7 wo8 wo9 wo10 wo11 wo12 wo13) mo) < (1 : Int32)
        · have hv_t_f_f_t := hv_t_f_f.trans (if_pos hc52)
          refine own_step (fun _ => XS.icmpYes X10.here hx rfl (pc0 := 52) (pc' := 59) rfl (hb hby at_52) rfl (tlt hc52).1 (by decide) (by decide)) ?_
          show own_Ends p e below s _ _ _ T10 (mkF m 59 #[.val (.int i0), .val (.int ((i0 &&& (2147483647 : Int32)) % (14 : Int32))), .val (.ref (f1_0 ((i0 &&& (2147483647 : Int32)) % (14 : Int32)) wo0 wo1 wo2 wo3 wo4 wo5 wo6 wo7 wo8 wo9 wo10 wo11 wo12 wo13)), .val (.int (f2_0 (f1_0 ((i0 &&& (2147483647 : Int32)) % (14 : Int32)) wo0 wo1 wo2 wo3 wo4 wo5 wo6 wo7 wo8 wo9 wo10 wo11 wo12 wo13) mo)), .val (.int (f4_0 (f1_0 ((i0 &&& (2147483647 : Int32)) % (14 : Int32)) wo0 wo1 wo2 wo3 wo4 wo5 wo6 wo7 wo8 wo9 wo10 wo11 wo12 wo13) vo)), .val (.int (f5_0 (f1_0 ((i0 &&& (2147483647 : Int32)) % (14 : Int32)) wo0 wo1 wo2 wo3 wo4 wo5 wo6 wo7 wo8 wo9 wo10 wo11 wo12 wo13) mo))] [])
          refine own_step (fun _ => XS.iconst X10.here hx rfl (hb hby at_59)) ?_
          show own_Ends p e below s _ _ _ T10 (mkF m 60 #[.val (.int i0), .val (.int ((i0 &&& (2147483647 : Int32)) % (14 : Int32))), .val (.ref (f1_0 ((i0 &&& (2147483647 : Int32)) % (14 : Int32)) wo0 wo1 wo2 wo3 wo4 wo5 wo6 wo7 wo8 wo9 wo10 wo11 wo12 wo13)), .val (.int (f2_0 (f1_0 ((i0 &&& (2147483647 : Int32)) % (14 : Int32)) wo0 wo1 wo2 wo3 wo4 wo5 wo6 wo7 wo8 wo9 wo10 wo11 wo12 wo13) mo)), .val (.int (f4_0 (f1_0 ((i0 &&& (2147483647 : Int32)) % (14 : Int32)) wo0 wo1 wo2 wo3 wo4 wo5 wo6 wo7 wo8 wo9 wo10 wo11 wo12 wo13) vo)), .val (.int (f5_0 (f1_0 ((i0 &&& (2147483647 : Int32)) % (14 : Int32)) wo0 wo1 wo2 wo3 wo4 wo5 wo6 wo7 wo8 wo9 wo10 wo11 wo12 wo13) mo))] [(.int (0 : Int32))])
          exact own_retN X10 (t := .boolean) hx hret hlk (hb hby at_60) (by decide) (by decide) (by simp) ⟨congrArg (fun z => some (Value.int z)) hv_t_f_f_t.symm, N10, hh10⟩
        · have hv_t_f_f_f := hv_t_f_f.trans (if_neg hc52)
          refine own_step (fun _ => XS.icmpNo X10.here hx rfl (hb hby at_52) rfl (flt hc52).1) ?_
          show own_Ends p e below s _ _ _ T10 (mkF m 55 #[.val (.int i0), .val (.int ((i0 &&& (2147483647 : Int32)) % (14 : Int32))), .val (.ref (f1_0 ((i0 &&& (2147483647 : Int32)) % (14 : Int32)) wo0 wo1 wo2 wo3 wo4 wo5 wo6 wo7 wo8 wo9 wo10 wo11 wo12 wo13)), .val (.int (f2_0 (f1_0 ((i0 &&& (2147483647 : Int32)) % (14 : Int32)) wo0 wo1 wo2 wo3 wo4 wo5 wo6 wo7 wo8 wo9 wo10 wo11 wo12 wo13) mo)), .val (.int (f4_0 (f1_0 ((i0 &&& (2147483647 : Int32)) % (14 : Int32)) wo0 wo1 wo2 wo3 wo4 wo5 wo6 wo7 wo8 wo9 wo10 wo11 wo12 wo13) vo)), .val (.int (f5_0 (f1_0 ((i0 &&& (2147483647 : Int32)) % (14 : Int32)) wo0 wo1 wo2 wo3 wo4 wo5 wo6 wo7 wo8 wo9 wo10 wo11 wo12 wo13) mo))] [])
          refine own_step (fun _ => XS.iconst X10.here hx rfl (hb hby at_55)) ?_
          show own_Ends p e below s _ _ _ T10 (mkF m 56 #[.val (.int i0), .val (.int ((i0 &&& (2147483647 : Int32)) % (14 : Int32))), .val (.ref (f1_0 ((i0 &&& (2147483647 : Int32)) % (14 : Int32)) wo0 wo1 wo2 wo3 wo4 wo5 wo6 wo7 wo8 wo9 wo10 wo11 wo12 wo13)), .val (.int (f2_0 (f1_0 ((i0 &&& (2147483647 : Int32)) % (14 : Int32)) wo0 wo1 wo2 wo3 wo4 wo5 wo6 wo7 wo8 wo9 wo10 wo11 wo12 wo13) mo)), .val (.int (f4_0 (f1_0 ((i0 &&& (2147483647 : Int32)) % (14 : Int32)) wo0 wo1 wo2 wo3 wo4 wo5 wo6 wo7 wo8 wo9 wo10 wo11 wo12 wo13) vo)), .val (.int (f5_0 (f1_0 ((i0 &&& (2147483647 : Int32)) % (14 : Int32)) wo0 wo1 wo2 wo3 wo4 wo5 wo6 wo7 wo8 wo9 wo10 wo11 wo12 wo13) mo))] [(.int (1 : Int32))])
          refine own_step (fun _ => XS.goto X10.here hx rfl (pc0 := 56) (pc' := 60) rfl (hb hby at_56) (by decide) (by decide)) ?_
          show own_Ends p e below s _ _ _ T10 (mkF m 60 #[.val (.int i0), .val (.int ((i0 &&& (2147483647 : Int32)) % (14 : Int32))), .val (.ref (f1_0 ((i0 &&& (2147483647 : Int32)) % (14 : Int32)) wo0 wo1 wo2 wo3 wo4 wo5 wo6 wo7 wo8 wo9 wo10 wo11 wo12 wo13)), .val (.int (f2_0 (f1_0 ((i0 &&& (2147483647 : Int32)) % (14 : Int32)) wo0 wo1 wo2 wo3 wo4 wo5 wo6 wo7 wo8 wo9 wo10 wo11 wo12 wo13) mo)), .val (.int (f4_0 (f1_0 ((i0 &&& (2147483647 : Int32)) % (14 : Int32)) wo0 wo1 wo2 wo3 wo4 wo5 wo6 wo7 wo8 wo9 wo10 wo11 wo12 wo13) vo)), .val (.int (f5_0 (f1_0 ((i0 &&& (2147483647 : Int32)) % (14 : Int32)) wo0 wo1 wo2 wo3 wo4 wo5 wo6 wo7 wo8 wo9 wo10 wo11 wo12 wo13) mo))] [(.int (1 : Int32))])
          exact own_retN X10 (t := .boolean) hx hret hlk (hb hby at_60) (by decide) (by decide) (by simp) ⟨congrArg (fun z => some (Value.int z)) hv_t_f_f_f.symm, N10, hh10⟩
  · have hv_f := hv.trans (if_neg hc23)
    refine own_step (fun _ => XS.icmpNo X8.here hx rfl (hb hby at_23) rfl (feq hc23).1) ?_
    show own_Ends p e below s _ _ _ T8 (mkF m 26 #[.val (.int i0), .val (.int ((i0 &&& (2147483647 : Int32)) % (14 : Int32))), .val (.ref (f1_0 ((i0 &&& (2147483647 : Int32)) % (14 : Int32)) wo0 wo1 wo2 wo3 wo4 wo5 wo6 wo7 wo8 wo9 wo10 wo11 wo12 wo13)), .val (.int (f2_0 (f1_0 ((i0 &&& (2147483647 : Int32)) % (14 : Int32)) wo0 wo1 wo2 wo3 wo4 wo5 wo6 wo7 wo8 wo9 wo10 wo11 wo12 wo13) mo)), .unset, .unset] [])
    refine own_step (fun _ => XS.iconst X8.here hx rfl (hb hby at_26)) ?_
    show own_Ends p e below s _ _ _ T8 (mkF m 27 #[.val (.int i0), .val (.int ((i0 &&& (2147483647 : Int32)) % (14 : Int32))), .val (.ref (f1_0 ((i0 &&& (2147483647 : Int32)) % (14 : Int32)) wo0 wo1 wo2 wo3 wo4 wo5 wo6 wo7 wo8 wo9 wo10 wo11 wo12 wo13)), .val (.int (f2_0 (f1_0 ((i0 &&& (2147483647 : Int32)) % (14 : Int32)) wo0 wo1 wo2 wo3 wo4 wo5 wo6 wo7 wo8 wo9 wo10 wo11 wo12 wo13) mo)), .unset, .unset] [(.int (0 : Int32))])
    exact own_retN X8 (t := .boolean) hx hret hlk (hb hby at_27) (by decide) (by decide) (by simp) ⟨congrArg (fun z => some (Value.int z)) hv_f.symm, N8, hh8⟩
theorem ef_rm0 (m : MethodId) (i0 : Int32) : entryFrame m #[(.int i0)] maxLocals = mkF m 0 #[.val (.int i0), .unset, .unset, .unset, .unset, .unset] [] := by first | (simp [entryFrame, mkF, argsToLocals, Value.category, maxLocals]; done) | rfl
set_option maxRecDepth 65536 in
set_option maxHeartbeats 40000000 in
theorem rm0 (l : Launch) (Z : State) (a0 : Array Value) (hw : ∀ d ∈ tables_1, d.before a0 Z = true) (ws : List Jvm.Cond) (i0 : Int32) (wo0 : Addr) (wo1 : Addr) (wo2 : Addr) (wo3 : Addr) (wo4 : Addr) (wo5 : Addr) (wo6 : Addr) (wo7 : Addr) (wo8 : Addr) (wo9 : Addr) (wo10 : Addr) (wo11 : Addr) (wo12 : Addr) (wo13 : Addr) (vo : Value) (mo : Int32) (h0 : Heap) (n0 : Nat) (Z0 : n0 ≤ h0.size) (Sw0 : Sta Z h0 "com/example/rollforth/rollforth/cli/Option" "ACCOUNTS" "Lcom/example/rollforth/rollforth/cli/Option;" (.ref wo0)) (Sw1 : Sta Z h0 "com/example/rollforth/rollforth/cli/Option" "ACK" "Lcom/example/rollforth/rollforth/cli/Option;" (.ref wo1)) (Sw2 : Sta Z h0 "com/example/rollforth/rollforth/cli/Option" "BACKUP_AT" "Lcom/example/rollforth/rollforth/cli/Option;" (.ref wo2)) (Sw3 : Sta Z h0 "com/example/rollforth/rollforth/cli/Option" "BACKUP_TO" "Lcom/example/rollforth/rollforth/cli/Option;" (.ref wo3)) (Sw4 : Sta Z h0 "com/example/rollforth/rollforth/cli/Option" "BATCH" "Lcom/example/rollforth/rollforth/cli/Option;" (.ref wo4)) (Sw5 : Sta Z h0 "com/example/rollforth/rollforth/cli/Option" "CACHE_PAGES" "Lcom/example/rollforth/rollforth/cli/Option;" (.ref wo5)) (Sw6 : Sta Z h0 "com/example/rollforth/rollforth/cli/Option" "CHECKPOINT_BYTES" "Lcom/example/rollforth/rollforth/cli/Option;" (.ref wo6)) (Sw7 : Sta Z h0 "com/example/rollforth/rollforth/cli/Option" "CLIENTS" "Lcom/example/rollforth/rollforth/cli/Option;" (.ref wo7)) (Sw8 : Sta Z h0 "com/example/rollforth/rollforth/cli/Option" "DELETE_ARCHIVED" "Lcom/example/rollforth/rollforth/cli/Option;" (.ref wo8)) (Sw9 : Sta Z h0 "com/example/rollforth/rollforth/cli/Option" "FROM" "Lcom/example/rollforth/rollforth/cli/Option;" (.ref wo9)) (Sw10 : Sta Z h0 "com/example/rollforth/rollforth/cli/Option" "INIT" "Lcom/example/rollforth/rollforth/cli/Option;" (.ref wo10)) (Sw11 : Sta Z h0 "com/example/rollforth/rollforth/cli/Option" "LOG_FILE_BYTES" "Lcom/example/rollforth/rollforth/cli/Option;" (.ref wo11)) (Sw12 : Sta Z h0 "com/example/rollforth/rollforth/cli/Option" "SECONDS" "Lcom/example/rollforth/rollforth/cli/Option;" (.ref wo12)) (Sw13 : Sta Z h0 "com/example/rollforth/rollforth/cli/Option" "STATS" "Lcom/example/rollforth/rollforth/cli/Option;" (.ref wo13)) (Eo : Exa Z h0 (f1_0 ((i0 &&& (2147483647 : Int32)) % (14 : Int32)) wo0 wo1 wo2 wo3 wo4 wo5 wo6 wo7 wo8 wo9 wo10 wo11 wo12 wo13) "com/example/rollforth/rollforth/cli/Option") (Fv : Fld Z h0 (f1_0 ((i0 &&& (2147483647 : Int32)) % (14 : Int32)) wo0 wo1 wo2 wo3 wo4 wo5 wo6 wo7 wo8 wo9 wo10 wo11 wo12 wo13) "com/example/rollforth/rollforth/cli/Option" "value" "Ljava/lang/String;" vo) (Fm : Fld Z h0 (f1_0 ((i0 &&& (2147483647 : Int32)) % (14 : Int32)) wo0 wo1 wo2 wo3 wo4 wo5 wo6 wo7 wo8 wo9 wo10 wo11 wo12 wo13) "com/example/rollforth/rollforth/cli/Option" "most" "I" (.int mo)) (hvo : vo.isRef = true) :
    MetFree l x (head1 (Jvm.Cond.code x code maxLocals ret :: ws) room_1) (fun a U => a = #[(.int i0)] ∧ Z.Warmed39 U.vm ∧ U.heap = h0) (fun _ _ _ _ _ => True) (fun _ U o U' => ∃ v L, o = .returned v ∧ (own_Q n0 h0 (some (.int (f0_0 i0 wo0 wo1 wo2 wo3 wo4 wo5 wo6 wo7 wo8 wo9 wo10 wo11 wo12 wo13 vo mo)))) v U'.heap L ∧ FrameEnd U o U' L room_1.cells room_1.slots) := by
  refine MetFree.of_bodySF (plainFor_of_name pn_0) hisR ?_
  intro p e s m args below meth c s₁ Bd hml0 hP hK
  obtain ⟨rfl, hZ, hh⟩ := hP
  have X0 : Stand p l e room_1 s m #[(.int i0)] below meth c s₁ [] 0 0 := Stand.of_body Bd
  have e0 : s₁.heap = h0 := by rw [← hh, Bd.state]; rfl
  have C : own_C "com/example/rollforth/rollforth/cli/OptionTakesNumberPinLaw" code maxLocals ret x.name p s m meth c Z a0 := ⟨Bd.exec, hZ, hw, Bd.bytes, hml0, findClass_of_methodNamed Bd.named, Bd.returns, Bd.notSynchronized, (name_of_methodNamed Bd.named Bd.method).1⟩
  have r := b0_0 C Z0 X0 e0 (Fr.nil n0) i0 wo0 wo1 wo2 wo3 wo4 wo5 wo6 wo7 wo8 wo9 wo10 wo11 wo12 wo13 vo mo Sw0 Sw1 Sw2 Sw3 Sw4 Sw5 Sw6 Sw7 Sw8 Sw9 Sw10 Sw11 Sw12 Sw13 Eo Fv Fm hvo _ rfl
  rw [ef_rm0 m i0]
  exact r
theorem own_mask31 (x : Int32) : 0 ≤ (x &&& (2147483647 : Int32)).toInt ∧ (x &&& (2147483647 : Int32)).toInt < 2147483648 := by
  have h1 : (x &&& (2147483647 : Int32)).toBitVec.toNat = x.toBitVec.toNat % 2 ^ 31 := by
    show (x.toBitVec &&& (2147483647 : Int32).toBitVec).toNat = _
    rw [BitVec.toNat_and, show (2147483647 : Int32).toBitVec.toNat = 2 ^ 31 - 1 from by decide, Nat.and_two_pow_sub_one_eq_mod]
  have h3 : x.toBitVec.toNat % 2 ^ 31 < 2 ^ 31 := Nat.mod_lt _ (Nat.two_pow_pos 31)
  show 0 ≤ (x &&& (2147483647 : Int32)).toBitVec.toInt ∧ (x &&& (2147483647 : Int32)).toBitVec.toInt < 2147483648
  rw [BitVec.toInt_eq_toNat_cond, h1, if_pos (by omega)]
  constructor <;> omega
theorem own_k14 (i0 : Int32) : ((i0 &&& (2147483647 : Int32)) % (14 : Int32)) = 0 ∨ ((i0 &&& (2147483647 : Int32)) % (14 : Int32)) = 1 ∨ ((i0 &&& (2147483647 : Int32)) % (14 : Int32)) = 2 ∨ ((i0 &&& (2147483647 : Int32)) % (14 : Int32)) = 3 ∨ ((i0 &&& (2147483647 : Int32)) % (14 : Int32)) = 4 ∨ ((i0 &&& (2147483647 : Int32)) % (14 : Int32)) = 5 ∨ ((i0 &&& (2147483647 : Int32)) % (14 : Int32)) = 6 ∨ ((i0 &&& (2147483647 : Int32)) % (14 : Int32)) = 7 ∨ ((i0 &&& (2147483647 : Int32)) % (14 : Int32)) = 8 ∨ ((i0 &&& (2147483647 : Int32)) % (14 : Int32)) = 9 ∨ ((i0 &&& (2147483647 : Int32)) % (14 : Int32)) = 10 ∨ ((i0 &&& (2147483647 : Int32)) % (14 : Int32)) = 11 ∨ ((i0 &&& (2147483647 : Int32)) % (14 : Int32)) = 12 ∨ ((i0 &&& (2147483647 : Int32)) % (14 : Int32)) = 13 := by
  have h := own_mask31 i0
  have e14 : (14 : Int32).toInt = 14 := rfl
  have hm : ((i0 &&& (2147483647 : Int32)) % (14 : Int32)).toInt = (i0 &&& (2147483647 : Int32)).toInt % 14 := by rw [Int32.toInt_mod, Int.tmod_eq_emod_of_nonneg h.1, e14]
  have h0 := Int.emod_nonneg (i0 &&& (2147483647 : Int32)).toInt (show (14 : Int) ≠ 0 by decide)
  have h1 := Int.emod_lt_of_pos (i0 &&& (2147483647 : Int32)).toInt (show (0 : Int) < 14 by decide)
  rw [← hm] at h0 h1
  have q : ∀ k : Int32, ((i0 &&& (2147483647 : Int32)) % (14 : Int32)).toInt = k.toInt → ((i0 &&& (2147483647 : Int32)) % (14 : Int32)) = k := fun k e => Int32.toInt_inj.mp e
  have c : ((i0 &&& (2147483647 : Int32)) % (14 : Int32)).toInt = 0 ∨ ((i0 &&& (2147483647 : Int32)) % (14 : Int32)).toInt = 1 ∨ ((i0 &&& (2147483647 : Int32)) % (14 : Int32)).toInt = 2 ∨ ((i0 &&& (2147483647 : Int32)) % (14 : Int32)).toInt = 3 ∨ ((i0 &&& (2147483647 : Int32)) % (14 : Int32)).toInt = 4 ∨ ((i0 &&& (2147483647 : Int32)) % (14 : Int32)).toInt = 5 ∨ ((i0 &&& (2147483647 : Int32)) % (14 : Int32)).toInt = 6 ∨ ((i0 &&& (2147483647 : Int32)) % (14 : Int32)).toInt = 7 ∨ ((i0 &&& (2147483647 : Int32)) % (14 : Int32)).toInt = 8 ∨ ((i0 &&& (2147483647 : Int32)) % (14 : Int32)).toInt = 9 ∨ ((i0 &&& (2147483647 : Int32)) % (14 : Int32)).toInt = 10 ∨ ((i0 &&& (2147483647 : Int32)) % (14 : Int32)).toInt = 11 ∨ ((i0 &&& (2147483647 : Int32)) % (14 : Int32)).toInt = 12 ∨ ((i0 &&& (2147483647 : Int32)) % (14 : Int32)).toInt = 13 := by omega
  rcases c with c | c | c | c | c | c | c | c | c | c | c | c | c | c
  · exact Or.inl (q 0 c)
  · exact Or.inr (Or.inl (q 1 c))
  · exact Or.inr (Or.inr (Or.inl (q 2 c)))
  · exact Or.inr (Or.inr (Or.inr (Or.inl (q 3 c))))
  · exact Or.inr (Or.inr (Or.inr (Or.inr (Or.inl (q 4 c)))))
  · exact Or.inr (Or.inr (Or.inr (Or.inr (Or.inr (Or.inl (q 5 c))))))
  · exact Or.inr (Or.inr (Or.inr (Or.inr (Or.inr (Or.inr (Or.inl (q 6 c)))))))
  · exact Or.inr (Or.inr (Or.inr (Or.inr (Or.inr (Or.inr (Or.inr (Or.inl (q 7 c))))))))
  · exact Or.inr (Or.inr (Or.inr (Or.inr (Or.inr (Or.inr (Or.inr (Or.inr (Or.inl (q 8 c)))))))))
  · exact Or.inr (Or.inr (Or.inr (Or.inr (Or.inr (Or.inr (Or.inr (Or.inr (Or.inr (Or.inl (q 9 c))))))))))
  · exact Or.inr (Or.inr (Or.inr (Or.inr (Or.inr (Or.inr (Or.inr (Or.inr (Or.inr (Or.inr (Or.inl (q 10 c)))))))))))
  · exact Or.inr (Or.inr (Or.inr (Or.inr (Or.inr (Or.inr (Or.inr (Or.inr (Or.inr (Or.inr (Or.inr (Or.inl (q 11 c))))))))))))
  · exact Or.inr (Or.inr (Or.inr (Or.inr (Or.inr (Or.inr (Or.inr (Or.inr (Or.inr (Or.inr (Or.inr (Or.inr (Or.inl (q 12 c)))))))))))))
  · exact Or.inr (Or.inr (Or.inr (Or.inr (Or.inr (Or.inr (Or.inr (Or.inr (Or.inr (Or.inr (Or.inr (Or.inr (Or.inr (q 13 c)))))))))))))
def own_spec (k : Int32) (vo : Value) (mo : Int32) : Prop := (f3_0 k = if 0 < mo then (1 : Int32) else 0) ∧ (0 < mo → ¬ vo = .null ∧ ¬ mo < 1) ∧ (¬ 0 < mo → mo = 0)
theorem own_law (i0 : Int32) (wo0 wo1 wo2 wo3 wo4 wo5 wo6 wo7 wo8 wo9 wo10 wo11 wo12 wo13 : Addr) (vo : Value) (mo : Int32) (h : own_spec ((i0 &&& (2147483647 : Int32)) % (14 : Int32)) vo mo) : f0_0 i0 wo0 wo1 wo2 wo3 wo4 wo5 wo6 wo7 wo8 wo9 wo10 wo11 wo12 wo13 vo mo = 1 := by
  obtain ⟨h1, h2, h3⟩ := h
  unfold f0_0
  rw [h1]
  unfold f2_0 f4_0 f5_0
  by_cases hm : 0 < mo
  · obtain ⟨q1, q2⟩ := h2 hm
    simp [hm, q1, q2]
  · simp [hm, h3 hm]

set_option maxRecDepth 65536 in
set_option maxHeartbeats 40000000 in
theorem comes_1 {Post : Tables → Env → Array Value → State → Outcome → State → Prop} (hpost : ∀ tb e args s v u, (limb_1_1.after args s (.returned v) u = true ∧ limb_1_2.after args s (.returned v) u = true ∧ True) → FrameEnd s (.returned v) u (Jvm.fieldLocs frame_1_writes args s ++ Jvm.arrayLocs frame_1_arrays args s ++ Jvm.staticLocs frame_1_statics s) 0 0 → Post tb e args s (.returned v) u) :
    ArmFor flags0 classFile x code maxLocals ret World_1 tables_1 room_1 Calls_1 rest_1 Pre_1 Post := by
  intro l hfl _ _ p e ha hc hk s m args below hf hA hF happ hP
  obtain ⟨hcalls, hrest, hpre⟩ := hP
  obtain ⟨-, -, -, hnamed, -, -, -, hat⟩ := (Spec.applies_iff hf).mp happ
  obtain ⟨hg, hn⟩ := and_e (Cond.before_iff.mp (show (Jvm.Cond.and given_1 narrow_1).before args s = true from hpre))
  obtain ⟨g1, g2⟩ := and_e hg
  obtain ⟨w0, rfl⟩ : ∃ w0 : Value, args = #[w0] := by
    have hs : args.size = 1 := by simpa [Cond.value, given_1] using g1
    obtain ⟨L⟩ := args
    match L, hs with
    | [w0], _ => exact ⟨w0, rfl⟩
  have hw := fun d (hd : d ∈ tables_1) => atoms_spec (ws := Jvm.Cond.code x code maxLocals ret :: tables_1) hat d (List.mem_cons_of_mem _ hd)
  have hfit : Fit s := fun {y c} hc i hi => by
    obtain ⟨ha, rfl⟩ := Array.getElem?_eq_some_iff.mp hc
    have q := List.all_eq_true.mp ((Array.all_eq_true_iff_forall_mem.mp hF) _ (Array.getElem_mem ha)) i (List.mem_range.mpr hi)
    simpa [Array.getElem?_eq_getElem hi] using q
  obtain ⟨i0, ei0⟩ := is_v g2
  obtain rfl : w0 = (.int i0) := Option.some.inj ei0
  obtain ⟨n1, n2⟩ := and_e hn
  obtain ⟨w3, e4⟩ := exa_v n1
  have S5 : Sta s s.heap "com/example/rollforth/rollforth/cli/Option" "ACCOUNTS" "Lcom/example/rollforth/rollforth/cli/Option;" (.ref w3) := Sta.start e4 (Or.inr ⟨(hw _ (List.mem_of_getElem? (i := 6) rfl)), (hw _ (List.mem_of_getElem? (i := 7) rfl))⟩)
  have E6 : Exa s s.heap w3 "com/example/rollforth/rollforth/cli/Option" := Exa.start e4 n1
  obtain ⟨n7, n8⟩ := and_e n2
  have e9 := eqv_i (Term.int_eval (99999999 : Int32)) n7
  have F10 : Fld s s.heap w3 "com/example/rollforth/rollforth/cli/Option" "most" "I" (.int (99999999 : Int32)) := Fld.start ((fld_at e4).symm.trans e9)
  obtain ⟨n11, n12⟩ := and_e n8
  obtain ⟨w13, e14⟩ := exa_v n11
  have F15 : Fld s s.heap w3 "com/example/rollforth/rollforth/cli/Option" "value" "Ljava/lang/String;" (.ref w13) := Fld.start ((fld_at e4).symm.trans e14)
  have E16 : Exa s s.heap w13 "java/lang/String" := Exa.start e14 n11
  obtain ⟨n17, n18⟩ := and_e n12
  obtain ⟨w19, e20⟩ := exa_v n17
  have S21 : Sta s s.heap "com/example/rollforth/rollforth/cli/Option" "BACKUP_TO" "Lcom/example/rollforth/rollforth/cli/Option;" (.ref w19) := Sta.start e20 (Or.inr ⟨(hw _ (List.mem_of_getElem? (i := 6) rfl)), (hw _ (List.mem_of_getElem? (i := 31) rfl))⟩)
  have E22 : Exa s s.heap w19 "com/example/rollforth/rollforth/cli/Option" := Exa.start e20 n17
  obtain ⟨n23, n24⟩ := and_e n18
  have e25 := eqv_i (Term.int_eval (0 : Int32)) n23
  have F26 : Fld s s.heap w19 "com/example/rollforth/rollforth/cli/Option" "most" "I" (.int (0 : Int32)) := Fld.start ((fld_at e20).symm.trans e25)
  obtain ⟨n27, n28⟩ := and_e n24
  obtain ⟨w29, e30⟩ := exa_v n27
  have F31 : Fld s s.heap w19 "com/example/rollforth/rollforth/cli/Option" "value" "Ljava/lang/String;" (.ref w29) := Fld.start ((fld_at e20).symm.trans e30)
  have E32 : Exa s s.heap w29 "java/lang/String" := Exa.start e30 n27
  obtain ⟨n33, n34⟩ := and_e n28
  obtain ⟨w35, e36⟩ := exa_v n33
  have S37 : Sta s s.heap "com/example/rollforth/rollforth/cli/Option" "SECONDS" "Lcom/example/rollforth/rollforth/cli/Option;" (.ref w35) := Sta.start e36 (Or.inr ⟨(hw _ (List.mem_of_getElem? (i := 6) rfl)), (hw _ (List.mem_of_getElem? (i := 33) rfl))⟩)
  have E38 : Exa s s.heap w35 "com/example/rollforth/rollforth/cli/Option" := Exa.start e36 n33
  obtain ⟨n39, n40⟩ := and_e n34
  have e41 := eqv_i (Term.int_eval (2147483647 : Int32)) n39
  have F42 : Fld s s.heap w35 "com/example/rollforth/rollforth/cli/Option" "most" "I" (.int (2147483647 : Int32)) := Fld.start ((fld_at e36).symm.trans e41)
  obtain ⟨n43, n44⟩ := and_e n40
  have e45 := own_eqR e14 n43
  have F46 : Fld s s.heap w35 "com/example/rollforth/rollforth/cli/Option" "value" "Ljava/lang/String;" (.ref w13) := Fld.start ((fld_at e36).symm.trans e45)
  obtain ⟨n47, n48⟩ := and_e n44
  obtain ⟨w49, e50⟩ := exa_v n47
  have S51 : Sta s s.heap "com/example/rollforth/rollforth/cli/Option" "STATS" "Lcom/example/rollforth/rollforth/cli/Option;" (.ref w49) := Sta.start e50 (Or.inr ⟨(hw _ (List.mem_of_getElem? (i := 6) rfl)), (hw _ (List.mem_of_getElem? (i := 35) rfl))⟩)
  have E52 : Exa s s.heap w49 "com/example/rollforth/rollforth/cli/Option" := Exa.start e50 n47
  obtain ⟨n53, n54⟩ := and_e n48
  have e55 := eqv_i (Term.int_eval (0 : Int32)) n53
  have F56 : Fld s s.heap w49 "com/example/rollforth/rollforth/cli/Option" "most" "I" (.int (0 : Int32)) := Fld.start ((fld_at e50).symm.trans e55)
  obtain ⟨n57, n58⟩ := and_e n54
  have e59 := null_v n57
  have F60 : Fld s s.heap w49 "com/example/rollforth/rollforth/cli/Option" "value" "Ljava/lang/String;" .null := Fld.start ((fld_at e50).symm.trans e59)
  obtain ⟨n61, n62⟩ := and_e n58
  obtain ⟨w63, e64⟩ := exa_v n61
  have S65 : Sta s s.heap "com/example/rollforth/rollforth/cli/Option" "BATCH" "Lcom/example/rollforth/rollforth/cli/Option;" (.ref w63) := Sta.start e64 (Or.inr ⟨(hw _ (List.mem_of_getElem? (i := 6) rfl)), (hw _ (List.mem_of_getElem? (i := 37) rfl))⟩)
  have E66 : Exa s s.heap w63 "com/example/rollforth/rollforth/cli/Option" := Exa.start e64 n61
  obtain ⟨n67, n68⟩ := and_e n62
  have e69 := eqv_i (Term.int_eval (2147483647 : Int32)) n67
  have F70 : Fld s s.heap w63 "com/example/rollforth/rollforth/cli/Option" "most" "I" (.int (2147483647 : Int32)) := Fld.start ((fld_at e64).symm.trans e69)
  obtain ⟨n71, n72⟩ := and_e n68
  have e73 := own_eqR e14 n71
  have F74 : Fld s s.heap w63 "com/example/rollforth/rollforth/cli/Option" "value" "Ljava/lang/String;" (.ref w13) := Fld.start ((fld_at e64).symm.trans e73)
  obtain ⟨n75, n76⟩ := and_e n72
  obtain ⟨w77, e78⟩ := exa_v n75
  have S79 : Sta s s.heap "com/example/rollforth/rollforth/cli/Option" "CLIENTS" "Lcom/example/rollforth/rollforth/cli/Option;" (.ref w77) := Sta.start e78 (Or.inr ⟨(hw _ (List.mem_of_getElem? (i := 6) rfl)), (hw _ (List.mem_of_getElem? (i := 39) rfl))⟩)
  have E80 : Exa s s.heap w77 "com/example/rollforth/rollforth/cli/Option" := Exa.start e78 n75
  obtain ⟨n81, n82⟩ := and_e n76
  have e83 := eqv_i (Term.int_eval (1024 : Int32)) n81
  have F84 : Fld s s.heap w77 "com/example/rollforth/rollforth/cli/Option" "most" "I" (.int (1024 : Int32)) := Fld.start ((fld_at e78).symm.trans e83)
  obtain ⟨n85, n86⟩ := and_e n82
  have e87 := own_eqR e14 n85
  have F88 : Fld s s.heap w77 "com/example/rollforth/rollforth/cli/Option" "value" "Ljava/lang/String;" (.ref w13) := Fld.start ((fld_at e78).symm.trans e87)
  obtain ⟨n89, n90⟩ := and_e n86
  obtain ⟨w91, e92⟩ := exa_v n89
  have S93 : Sta s s.heap "com/example/rollforth/rollforth/cli/Option" "BACKUP_AT" "Lcom/example/rollforth/rollforth/cli/Option;" (.ref w91) := Sta.start e92 (Or.inr ⟨(hw _ (List.mem_of_getElem? (i := 6) rfl)), (hw _ (List.mem_of_getElem? (i := 41) rfl))⟩)
  have E94 : Exa s s.heap w91 "com/example/rollforth/rollforth/cli/Option" := Exa.start e92 n89
  obtain ⟨n95, n96⟩ := and_e n90
  have e97 := eqv_i (Term.int_eval (2147483647 : Int32)) n95
  have F98 : Fld s s.heap w91 "com/example/rollforth/rollforth/cli/Option" "most" "I" (.int (2147483647 : Int32)) := Fld.start ((fld_at e92).symm.trans e97)
  obtain ⟨n99, n100⟩ := and_e n96
  have e101 := own_eqR e14 n99
  have F102 : Fld s s.heap w91 "com/example/rollforth/rollforth/cli/Option" "value" "Ljava/lang/String;" (.ref w13) := Fld.start ((fld_at e92).symm.trans e101)
  obtain ⟨n103, n104⟩ := and_e n100
  obtain ⟨w105, e106⟩ := exa_v n103
  have S107 : Sta s s.heap "com/example/rollforth/rollforth/cli/Option" "LOG_FILE_BYTES" "Lcom/example/rollforth/rollforth/cli/Option;" (.ref w105) := Sta.start e106 (Or.inr ⟨(hw _ (List.mem_of_getElem? (i := 6) rfl)), (hw _ (List.mem_of_getElem? (i := 43) rfl))⟩)
  have E108 : Exa s s.heap w105 "com/example/rollforth/rollforth/cli/Option" := Exa.start e106 n103
  obtain ⟨n109, n110⟩ := and_e n104
  have e111 := eqv_i (Term.int_eval (2147483647 : Int32)) n109
  have F112 : Fld s s.heap w105 "com/example/rollforth/rollforth/cli/Option" "most" "I" (.int (2147483647 : Int32)) := Fld.start ((fld_at e106).symm.trans e111)
  obtain ⟨n113, n114⟩ := and_e n110
  have e115 := own_eqR e14 n113
  have F116 : Fld s s.heap w105 "com/example/rollforth/rollforth/cli/Option" "value" "Ljava/lang/String;" (.ref w13) := Fld.start ((fld_at e106).symm.trans e115)
  obtain ⟨n117, n118⟩ := and_e n114
  obtain ⟨w119, e120⟩ := exa_v n117
  have S121 : Sta s s.heap "com/example/rollforth/rollforth/cli/Option" "INIT" "Lcom/example/rollforth/rollforth/cli/Option;" (.ref w119) := Sta.start e120 (Or.inr ⟨(hw _ (List.mem_of_getElem? (i := 6) rfl)), (hw _ (List.mem_of_getElem? (i := 45) rfl))⟩)
  have E122 : Exa s s.heap w119 "com/example/rollforth/rollforth/cli/Option" := Exa.start e120 n117
  obtain ⟨n123, n124⟩ := and_e n118
  have e125 := eqv_i (Term.int_eval (0 : Int32)) n123
  have F126 : Fld s s.heap w119 "com/example/rollforth/rollforth/cli/Option" "most" "I" (.int (0 : Int32)) := Fld.start ((fld_at e120).symm.trans e125)
  obtain ⟨n127, n128⟩ := and_e n124
  have e129 := null_v n127
  have F130 : Fld s s.heap w119 "com/example/rollforth/rollforth/cli/Option" "value" "Ljava/lang/String;" .null := Fld.start ((fld_at e120).symm.trans e129)
  obtain ⟨n131, n132⟩ := and_e n128
  obtain ⟨w133, e134⟩ := exa_v n131
  have S135 : Sta s s.heap "com/example/rollforth/rollforth/cli/Option" "DELETE_ARCHIVED" "Lcom/example/rollforth/rollforth/cli/Option;" (.ref w133) := Sta.start e134 (Or.inr ⟨(hw _ (List.mem_of_getElem? (i := 6) rfl)), (hw _ (List.mem_of_getElem? (i := 47) rfl))⟩)
  have E136 : Exa s s.heap w133 "com/example/rollforth/rollforth/cli/Option" := Exa.start e134 n131
  obtain ⟨n137, n138⟩ := and_e n132
  have e139 := eqv_i (Term.int_eval (0 : Int32)) n137
  have F140 : Fld s s.heap w133 "com/example/rollforth/rollforth/cli/Option" "most" "I" (.int (0 : Int32)) := Fld.start ((fld_at e134).symm.trans e139)
  obtain ⟨n141, n142⟩ := and_e n138
  have e143 := null_v n141
  have F144 : Fld s s.heap w133 "com/example/rollforth/rollforth/cli/Option" "value" "Ljava/lang/String;" .null := Fld.start ((fld_at e134).symm.trans e143)
  obtain ⟨n145, n146⟩ := and_e n142
  obtain ⟨w147, e148⟩ := exa_v n145
  have S149 : Sta s s.heap "com/example/rollforth/rollforth/cli/Option" "ACK" "Lcom/example/rollforth/rollforth/cli/Option;" (.ref w147) := Sta.start e148 (Or.inr ⟨(hw _ (List.mem_of_getElem? (i := 6) rfl)), (hw _ (List.mem_of_getElem? (i := 49) rfl))⟩)
  have E150 : Exa s s.heap w147 "com/example/rollforth/rollforth/cli/Option" := Exa.start e148 n145
  obtain ⟨n151, n152⟩ := and_e n146
  have e153 := eqv_i (Term.int_eval (0 : Int32)) n151
  have F154 : Fld s s.heap w147 "com/example/rollforth/rollforth/cli/Option" "most" "I" (.int (0 : Int32)) := Fld.start ((fld_at e148).symm.trans e153)
  obtain ⟨n155, n156⟩ := and_e n152
  have e157 := null_v n155
  have F158 : Fld s s.heap w147 "com/example/rollforth/rollforth/cli/Option" "value" "Ljava/lang/String;" .null := Fld.start ((fld_at e148).symm.trans e157)
  obtain ⟨n159, n160⟩ := and_e n156
  obtain ⟨w161, e162⟩ := exa_v n159
  have S163 : Sta s s.heap "com/example/rollforth/rollforth/cli/Option" "FROM" "Lcom/example/rollforth/rollforth/cli/Option;" (.ref w161) := Sta.start e162 (Or.inr ⟨(hw _ (List.mem_of_getElem? (i := 6) rfl)), (hw _ (List.mem_of_getElem? (i := 51) rfl))⟩)
  have E164 : Exa s s.heap w161 "com/example/rollforth/rollforth/cli/Option" := Exa.start e162 n159
  obtain ⟨n165, n166⟩ := and_e n160
  have e167 := eqv_i (Term.int_eval (0 : Int32)) n165
  have F168 : Fld s s.heap w161 "com/example/rollforth/rollforth/cli/Option" "most" "I" (.int (0 : Int32)) := Fld.start ((fld_at e162).symm.trans e167)
  obtain ⟨n169, n170⟩ := and_e n166
  obtain ⟨w171, e172⟩ := exa_v n169
  have F173 : Fld s s.heap w161 "com/example/rollforth/rollforth/cli/Option" "value" "Ljava/lang/String;" (.ref w171) := Fld.start ((fld_at e162).symm.trans e172)
  have E174 : Exa s s.heap w171 "java/lang/String" := Exa.start e172 n169
  obtain ⟨n175, n176⟩ := and_e n170
  obtain ⟨w177, e178⟩ := exa_v n175
  have S179 : Sta s s.heap "com/example/rollforth/rollforth/cli/Option" "CACHE_PAGES" "Lcom/example/rollforth/rollforth/cli/Option;" (.ref w177) := Sta.start e178 (Or.inr ⟨(hw _ (List.mem_of_getElem? (i := 6) rfl)), (hw _ (List.mem_of_getElem? (i := 53) rfl))⟩)
  have E180 : Exa s s.heap w177 "com/example/rollforth/rollforth/cli/Option" := Exa.start e178 n175
  obtain ⟨n181, n182⟩ := and_e n176
  have e183 := eqv_i (Term.int_eval (2147483647 : Int32)) n181
  have F184 : Fld s s.heap w177 "com/example/rollforth/rollforth/cli/Option" "most" "I" (.int (2147483647 : Int32)) := Fld.start ((fld_at e178).symm.trans e183)
  obtain ⟨n185, n186⟩ := and_e n182
  have e187 := own_eqR e14 n185
  have F188 : Fld s s.heap w177 "com/example/rollforth/rollforth/cli/Option" "value" "Ljava/lang/String;" (.ref w13) := Fld.start ((fld_at e178).symm.trans e187)
  obtain ⟨n189, n190⟩ := and_e n186
  obtain ⟨w191, e192⟩ := exa_v n189
  have S193 : Sta s s.heap "com/example/rollforth/rollforth/cli/Option" "CHECKPOINT_BYTES" "Lcom/example/rollforth/rollforth/cli/Option;" (.ref w191) := Sta.start e192 (Or.inr ⟨(hw _ (List.mem_of_getElem? (i := 6) rfl)), (hw _ (List.mem_of_getElem? (i := 55) rfl))⟩)
  have E194 : Exa s s.heap w191 "com/example/rollforth/rollforth/cli/Option" := Exa.start e192 n189
  obtain ⟨n195, n196⟩ := and_e n190
  have e197 := eqv_i (Term.int_eval (2147483647 : Int32)) n195
  have F198 : Fld s s.heap w191 "com/example/rollforth/rollforth/cli/Option" "most" "I" (.int (2147483647 : Int32)) := Fld.start ((fld_at e192).symm.trans e197)
  have e199 := own_eqR e14 n196
  have F200 : Fld s s.heap w191 "com/example/rollforth/rollforth/cli/Option" "value" "Ljava/lang/String;" (.ref w13) := Fld.start ((fld_at e192).symm.trans e199)
  obtain ⟨vo, mo, Eo, Fv, Fm, hvo, hsp⟩ : ∃ (vo : Value) (mo : Int32), Exa s s.heap (f1_0 ((i0 &&& (2147483647 : Int32)) % (14 : Int32)) w3 w147 w91 w19 w63 w177 w191 w77 w133 w161 w119 w105 w35 w49) "com/example/rollforth/rollforth/cli/Option" ∧ Fld s s.heap (f1_0 ((i0 &&& (2147483647 : Int32)) % (14 : Int32)) w3 w147 w91 w19 w63 w177 w191 w77 w133 w161 w119 w105 w35 w49) "com/example/rollforth/rollforth/cli/Option" "value" "Ljava/lang/String;" vo ∧ Fld s s.heap (f1_0 ((i0 &&& (2147483647 : Int32)) % (14 : Int32)) w3 w147 w91 w19 w63 w177 w191 w77 w133 w161 w119 w105 w35 w49) "com/example/rollforth/rollforth/cli/Option" "most" "I" (.int mo) ∧ vo.isRef = true ∧ own_spec ((i0 &&& (2147483647 : Int32)) % (14 : Int32)) vo mo := by
    rcases own_k14 i0 with h | h | h | h | h | h | h | h | h | h | h | h | h | h
    · rw [h]; exact ⟨(.ref w13), (99999999 : Int32), E6, F15, F10, rfl, (by unfold own_spec; exact ⟨(by decide), (fun q => (by first | (exact absurd q (by decide)) | (exact ⟨(fun r => (by cases r)), (by decide)⟩))), (fun q => (by first | rfl | (exact absurd (by decide) q)))⟩)⟩
    · rw [h]; exact ⟨.null, (0 : Int32), E150, F158, F154, rfl, (by unfold own_spec; exact ⟨(by decide), (fun q => (by first | (exact absurd q (by decide)) | (exact ⟨(fun r => (by cases r)), (by decide)⟩))), (fun q => (by first | rfl | (exact absurd (by decide) q)))⟩)⟩
    · rw [h]; exact ⟨(.ref w13), (2147483647 : Int32), E94, F102, F98, rfl, (by unfold own_spec; exact ⟨(by decide), (fun q => (by first | (exact absurd q (by decide)) | (exact ⟨(fun r => (by cases r)), (by decide)⟩))), (fun q => (by first | rfl | (exact absurd (by decide) q)))⟩)⟩
    · rw [h]; exact ⟨(.ref w29), (0 : Int32), E22, F31, F26, rfl, (by unfold own_spec; exact ⟨(by decide), (fun q => (by first | (exact absurd q (by decide)) | (exact ⟨(fun r => (by cases r)), (by decide)⟩))), (fun q => (by first | rfl | (exact absurd (by decide) q)))⟩)⟩
    · rw [h]; exact ⟨(.ref w13), (2147483647 : Int32), E66, F74, F70, rfl, (by unfold own_spec; exact ⟨(by decide), (fun q => (by first | (exact absurd q (by decide)) | (exact ⟨(fun r => (by cases r)), (by decide)⟩))), (fun q => (by first | rfl | (exact absurd (by decide) q)))⟩)⟩
    · rw [h]; exact ⟨(.ref w13), (2147483647 : Int32), E180, F188, F184, rfl, (by unfold own_spec; exact ⟨(by decide), (fun q => (by first | (exact absurd q (by decide)) | (exact ⟨(fun r => (by cases r)), (by decide)⟩))), (fun q => (by first | rfl | (exact absurd (by decide) q)))⟩)⟩
    · rw [h]; exact ⟨(.ref w13), (2147483647 : Int32), E194, F200, F198, rfl, (by unfold own_spec; exact ⟨(by decide), (fun q => (by first | (exact absurd q (by decide)) | (exact ⟨(fun r => (by cases r)), (by decide)⟩))), (fun q => (by first | rfl | (exact absurd (by decide) q)))⟩)⟩
    · rw [h]; exact ⟨(.ref w13), (1024 : Int32), E80, F88, F84, rfl, (by unfold own_spec; exact ⟨(by decide), (fun q => (by first | (exact absurd q (by decide)) | (exact ⟨(fun r => (by cases r)), (by decide)⟩))), (fun q => (by first | rfl | (exact absurd (by decide) q)))⟩)⟩
    · rw [h]; exact ⟨.null, (0 : Int32), E136, F144, F140, rfl, (by unfold own_spec; exact ⟨(by decide), (fun q => (by first | (exact absurd q (by decide)) | (exact ⟨(fun r => (by cases r)), (by decide)⟩))), (fun q => (by first | rfl | (exact absurd (by decide) q)))⟩)⟩
    · rw [h]; exact ⟨(.ref w171), (0 : Int32), E164, F173, F168, rfl, (by unfold own_spec; exact ⟨(by decide), (fun q => (by first | (exact absurd q (by decide)) | (exact ⟨(fun r => (by cases r)), (by decide)⟩))), (fun q => (by first | rfl | (exact absurd (by decide) q)))⟩)⟩
    · rw [h]; exact ⟨.null, (0 : Int32), E122, F130, F126, rfl, (by unfold own_spec; exact ⟨(by decide), (fun q => (by first | (exact absurd q (by decide)) | (exact ⟨(fun r => (by cases r)), (by decide)⟩))), (fun q => (by first | rfl | (exact absurd (by decide) q)))⟩)⟩
    · rw [h]; exact ⟨(.ref w13), (2147483647 : Int32), E108, F116, F112, rfl, (by unfold own_spec; exact ⟨(by decide), (fun q => (by first | (exact absurd q (by decide)) | (exact ⟨(fun r => (by cases r)), (by decide)⟩))), (fun q => (by first | rfl | (exact absurd (by decide) q)))⟩)⟩
    · rw [h]; exact ⟨(.ref w13), (2147483647 : Int32), E38, F46, F42, rfl, (by unfold own_spec; exact ⟨(by decide), (fun q => (by first | (exact absurd q (by decide)) | (exact ⟨(fun r => (by cases r)), (by decide)⟩))), (fun q => (by first | rfl | (exact absurd (by decide) q)))⟩)⟩
    · rw [h]; exact ⟨.null, (0 : Int32), E52, F60, F56, rfl, (by unfold own_spec; exact ⟨(by decide), (fun q => (by first | (exact absurd q (by decide)) | (exact ⟨(fun r => (by cases r)), (by decide)⟩))), (fun q => (by first | rfl | (exact absurd (by decide) q)))⟩)⟩
  obtain ⟨n, o, h1, h2, h3, _, L, rfl, ⟨rfl, N, -⟩, hq⟩ := rm0 l s _ hw tables_1 i0 w3 w147 w91 w19 w63 w177 w191 w77 w133 w161 w119 w105 w35 w49 vo mo s.heap s.heap.size (Nat.le_refl _) S5 S149 S93 S21 S65 S179 S193 S79 S135 S163 S121 S107 S37 S51 Eo Fv Fm hvo p e ha hc hk s m _ below hf ((Spec.applies_iff_loose hf).mp happ).1 ⟨rfl, State.Warmed39.refl s, rfl⟩ trivial
  refine ⟨n, _, h1, h2, h3, hpost _ _ _ _ _ _ ⟨Cond.after_iff.mpr rfl, Cond.after_iff.mpr (eq_i res_at (Term.int_eval (1)) (congrArg Value.int (own_law i0 w3 w147 w91 w19 w63 w177 w191 w77 w133 w161 w119 w105 w35 w49 vo mo hsp))), trivial⟩ ⟨hq.1, hq.2.1, (hq.2.2.sift fun y hy => Or.inr (N y hy)).mono (by decide) (by decide)⟩⟩
theorem main_1_1 : Claimed_1_1 := comes_1 fun _ _ _ _ _ _ h hF => ⟨h.1, hF⟩
theorem main_1_2 : Claimed_1_2 := comes_1 fun _ _ _ _ _ _ h hF => ⟨h.2.1, hF⟩
end Jvm.Pilot.@@N@@
namespace Jvm.Pilot.@@N@@
open Jvm Jvm.ClassFile Sem Op Lib Jvm.Free Jvm.Stand Jvm.Pilot.@@N@@.Jvm.D
/-! MADE BY PROGRAM (witnessworld.py) out of the Statement's table words and the real class files: 15 classes; the members and pool entries that the words name. The judged class is class 1, her method 3. -/
namespace start1
open Jvm.ClassFile
def u (s : String) : CpInfo := .utf8 (stringToUtf16 s)
/-- a pool by its gaps: so many unusable entries, then the entry; so many at the end -/
def gap : Nat → List CpInfo → List CpInfo
  | 0, r => r
  | n + 1, r => .unusable :: gap n r
def poolList (es : List (Nat × CpInfo)) (last : Nat) : List CpInfo := es.foldr (fun e r => gap e.1 (e.2 :: r)) (gap last [])
def pool (es : List (Nat × CpInfo)) (last : Nat) : Array CpInfo := ⟨poolList es last⟩
def fileOf (pool : Array CpInfo) (this : Nat) (attrs : Array Attribute := #[]) (ms : Array MethodInfo := #[]) (fl : Nat := 33) (sup : Nat := 0) (ifs : Array Nat := #[]) (fds : Array FieldInfo := #[]) : ClassFile where
  minorVersion := 0
  majorVersion := 65
  constantPool := pool
  accessFlags := fl
  thisClass := this
  superClass := sup
  interfaces := ifs
  fields := fds
  methods := ms
  attributes := attrs
def plain (name : String) (sup : Option ClassId) : Class where
  name := name
  kind := .ordinary
  loader := none
  accessFlags := 33
  super := sup
  interfaces := #[]
  cf := none
  fields := #[]
  methods := #[]
  instanceTypes := #[]
  staticTypes := #[]
  resolved := #[]
  callSites := []
  init := .initialized
  statics := none
  mirror := none

def pool0 : Array CpInfo := pool [(5, u "<init>"), (0, u "()V"), (1, .class_ 10), (1, u "java/lang/Object")] 113

def k0m0 : Method := { name := "<init>", desc := "()V", sig := { parameters := [], returnType := none }, accessFlags := 1, code := none }
/-- java/lang/Object -/
def k0 : Class := { plain "java/lang/Object" none with
  accessFlags := 33
  interfaces := #[]
  cf := some (fileOf pool0 8 #[] #[{ accessFlags := 1, nameIndex := 5, descriptorIndex := 6, attributes := #[] }] 33 0 #[] #[])
  fields := #[]
  methods := #[k0m0]
  instanceTypes := #[]
  staticTypes := #[]
  resolved := Array.replicate 124 none
  statics := none }

def pool1 : Array CpInfo := pool [(2, .class_ 4), (1, u "java/lang/Object"), (0, u "<init>"), (0, u "()V"), (0, .fieldref 8 9), (0, .class_ 10), (0, .nameAndType 11 12), (0, u "com/example/rollforth/rollforth/cli/Option"), (0, u "ACCOUNTS"), (0, u "Lcom/example/rollforth/rollforth/cli/Option;"), (0, .fieldref 8 14), (0, .nameAndType 15 12), (0, u "ACK"), (0, .fieldref 8 17), (0, .nameAndType 18 12), (0, u "BACKUP_AT"), (0, .fieldref 8 20), (0, .nameAndType 21 12), (0, u "BACKUP_TO"), (0, .fieldref 8 23), (0, .nameAndType 24 12), (0, u "BATCH"), (0, .fieldref 8 26), (0, .nameAndType 27 12), (0, u "CACHE_PAGES"), (0, .fieldref 8 29), (0, .nameAndType 30 12), (0, u "CHECKPOINT_BYTES"), (0, .fieldref 8 32), (0, .nameAndType 33 12), (0, u "CLIENTS"), (0, .fieldref 8 35), (0, .nameAndType 36 12), (0, u "DELETE_ARCHIVED"), (0, .fieldref 8 38), (0, .nameAndType 39 12), (0, u "FROM"), (0, .fieldref 8 41), (0, .nameAndType 42 12), (0, u "INIT"), (0, .fieldref 8 44), (0, .nameAndType 45 12), (0, u "LOG_FILE_BYTES"), (0, .fieldref 8 47), (0, .nameAndType 48 12), (0, u "SECONDS"), (0, .fieldref 8 50), (0, .nameAndType 51 12), (0, u "STATS"), (0, .integer 2147483647), (0, .methodref 54 55), (0, .class_ 56), (0, .nameAndType 57 58), (0, u "com/example/rollforth/rollforth/cli/OptionTakesNumberPinLaw"), (0, u "pick"), (0, u "(I)Lcom/example/rollforth/rollforth/cli/Option;"), (0, .methodref 8 60), (0, .nameAndType 61 62), (0, u "takesNumber"), (0, u "()Z"), (0, .methodref 54 64), (0, .nameAndType 65 66), (0, u "expected"), (0, u "(I)Z"), (0, .methodref 8 68), (0, .nameAndType 69 62), (0, u "takesValue"), (0, .methodref 8 71), (0, .nameAndType 72 73), (0, u "most"), (0, u "()I"), (3, u "law")] 2

def k1m0 : Method := { name := "<init>", desc := "()V", sig := { parameters := [], returnType := none }, accessFlags := 2, code := none }
def k1c1 : Code := { maxStack := 2, maxLocals := 1, code := method_2_code, exceptionTable := #[], attributes := #[] }
def k1m1 : Method := { name := "pick", desc := "(I)Lcom/example/rollforth/rollforth/cli/Option;", sig := { parameters := [.int], returnType := some (.object "com/example/rollforth/rollforth/cli/Option") }, accessFlags := 10, code := some k1c1 }
def k1c2 : Code := { maxStack := 2, maxLocals := 1, code := method_3_code, exceptionTable := #[], attributes := #[] }
def k1m2 : Method := { name := "expected", desc := "(I)Z", sig := { parameters := [.int], returnType := some .boolean }, accessFlags := 10, code := some k1c2 }
def k1c3 : Code := { maxStack := 2, maxLocals := 6, code := code, exceptionTable := #[], attributes := #[] }
def k1m3 : Method := { name := "law", desc := "(I)Z", sig := { parameters := [.int], returnType := some .boolean }, accessFlags := 9, code := some k1c3 }
/-- com/example/rollforth/rollforth/cli/OptionTakesNumberPinLaw -/
def k1 : Class := { plain "com/example/rollforth/rollforth/cli/OptionTakesNumberPinLaw" (some 0) with
  accessFlags := 49
  interfaces := #[]
  cf := some (fileOf pool1 54 #[] #[{ accessFlags := 2, nameIndex := 5, descriptorIndex := 6, attributes := #[] }, { accessFlags := 10, nameIndex := 57, descriptorIndex := 58, attributes := #[] }, { accessFlags := 10, nameIndex := 65, descriptorIndex := 66, attributes := #[] }, { accessFlags := 9, nameIndex := 77, descriptorIndex := 66, attributes := #[] }] 49 2 #[] #[])
  fields := #[]
  methods := #[k1m0, k1m1, k1m2, k1m3]
  instanceTypes := #[]
  staticTypes := #[]
  resolved := Array.replicate 80 none
  statics := none }

def pool2 : Array CpInfo := pool [(1, .class_ 2), (0, u "java/lang/constant/Constable"), (0, .class_ 4), (0, u "java/lang/Object")] 6

/-- java/lang/constant/Constable -/
def k2 : Class := { plain "java/lang/constant/Constable" (some 0) with
  accessFlags := 1537
  interfaces := #[]
  cf := some (fileOf pool2 1 #[] #[] 1537 3 #[] #[])
  fields := #[]
  methods := #[]
  instanceTypes := #[]
  staticTypes := #[]
  resolved := Array.replicate 11 none
  statics := none }

def pool3 : Array CpInfo := pool [(1, .class_ 2), (0, u "java/lang/Comparable"), (0, .class_ 4), (0, u "java/lang/Object")] 7

/-- java/lang/Comparable -/
def k3 : Class := { plain "java/lang/Comparable" (some 0) with
  accessFlags := 1537
  interfaces := #[]
  cf := some (fileOf pool3 1 #[] #[] 1537 3 #[] #[])
  fields := #[]
  methods := #[]
  instanceTypes := #[]
  staticTypes := #[]
  resolved := Array.replicate 12 none
  statics := none }

def pool4 : Array CpInfo := pool [(1, .class_ 2), (0, u "java/io/Serializable"), (0, .class_ 4), (0, u "java/lang/Object")] 2

/-- java/io/Serializable -/
def k4 : Class := { plain "java/io/Serializable" (some 0) with
  accessFlags := 1537
  interfaces := #[]
  cf := some (fileOf pool4 1 #[] #[] 1537 3 #[] #[])
  fields := #[]
  methods := #[]
  instanceTypes := #[]
  staticTypes := #[]
  resolved := Array.replicate 7 none
  statics := none }

def pool5 : Array CpInfo := pool [(2, .class_ 4), (1, u "java/lang/Enum"), (0, u "name"), (0, u "Ljava/lang/String;"), (2, u "ordinal"), (0, u "I"), (1, .class_ 14), (1, u "java/lang/Object"), (4, u "hash"), (86, .class_ 108), (1, u "java/lang/Enum$EnumDesc"), (2, .class_ 112), (0, u "java/lang/constant/Constable"), (0, .class_ 114), (0, u "java/lang/Comparable"), (0, .class_ 116), (0, u "java/io/Serializable")] 87

/-- java/lang/Enum -/
def k5 : Class := { plain "java/lang/Enum" (some 0) with
  accessFlags := 1057
  interfaces := #[2, 3, 4]
  cf := some (fileOf pool5 2 #[.nestMembers #[106]] #[] 1057 12 #[111, 113, 115] #[{ accessFlags := 18, nameIndex := 5, descriptorIndex := 6, attributes := #[] }, { accessFlags := 18, nameIndex := 9, descriptorIndex := 10, attributes := #[] }, { accessFlags := 2, nameIndex := 19, descriptorIndex := 10, attributes := #[] }])
  fields := #[{ name := "name", type := (.object "java/lang/String"), accessFlags := 18, slot := 0, constantValue := 0 }, { name := "ordinal", type := .int, accessFlags := 18, slot := 1, constantValue := 0 }, { name := "hash", type := .int, accessFlags := 2, slot := 2, constantValue := 0 }]
  methods := #[]
  instanceTypes := #[(.object "java/lang/String"), .int, .int]
  staticTypes := #[]
  resolved := Array.replicate 204 none
  statics := none }

def pool6 : Array CpInfo := pool [(1, .class_ 2), (0, u "com/example/rollforth/rollforth/cli/Option"), (2, u "ACCOUNTS"), (0, u "Lcom/example/rollforth/rollforth/cli/Option;"), (2, u "ACK"), (2, u "BACKUP_AT"), (2, u "BACKUP_TO"), (2, u "BATCH"), (2, u "CACHE_PAGES"), (2, u "CHECKPOINT_BYTES"), (2, u "CLIENTS"), (2, u "DELETE_ARCHIVED"), (2, u "FROM"), (2, u "INIT"), (2, u "LOG_FILE_BYTES"), (2, u "SECONDS"), (2, u "STATS"), (2, u "$VALUES"), (0, u "[Lcom/example/rollforth/rollforth/cli/Option;"), (6, .class_ 58), (1, u "java/lang/Enum"), (13, u "flag"), (0, u "Ljava/lang/String;"), (0, .fieldref 1 75), (0, .nameAndType 76 73), (0, u "value"), (0, .fieldref 1 78), (0, .nameAndType 79 80), (0, u "most"), (0, u "I"), (2, u "meaning"), (8, u "STORE"), (0, u "Ljava/util/List;"), (16, u "takesValue"), (0, u "()Z"), (131, u "takesNumber"), (0, u "()I")] 21

def k6c0 : Code := { maxStack := 1, maxLocals := 1, code := prog_38_method_9_code, exceptionTable := #[], attributes := #[] }
def k6m0 : Method := { name := "takesValue", desc := "()Z", sig := { parameters := [], returnType := some .boolean }, accessFlags := 0, code := some k6c0 }
def k6c1 : Code := { maxStack := 1, maxLocals := 1, code := prog_38_method_10_code, exceptionTable := #[], attributes := #[] }
def k6m1 : Method := { name := "takesNumber", desc := "()Z", sig := { parameters := [], returnType := some .boolean }, accessFlags := 0, code := some k6c1 }
def k6c2 : Code := { maxStack := 1, maxLocals := 1, code := prog_38_method_11_code, exceptionTable := #[], attributes := #[] }
def k6m2 : Method := { name := "most", desc := "()I", sig := { parameters := [], returnType := some .int }, accessFlags := 0, code := some k6c2 }
/-- com/example/rollforth/rollforth/cli/Option -/
def k6 : Class := { plain "com/example/rollforth/rollforth/cli/Option" (some 5) with
  accessFlags := 16432
  interfaces := #[]
  cf := some (fileOf pool6 1 #[] #[{ accessFlags := 0, nameIndex := 110, descriptorIndex := 111, attributes := #[] }, { accessFlags := 0, nameIndex := 243, descriptorIndex := 111, attributes := #[] }, { accessFlags := 0, nameIndex := 79, descriptorIndex := 244, attributes := #[] }] 16432 56 #[] #[{ accessFlags := 16409, nameIndex := 5, descriptorIndex := 6, attributes := #[] }, { accessFlags := 16409, nameIndex := 9, descriptorIndex := 6, attributes := #[] }, { accessFlags := 16409, nameIndex := 12, descriptorIndex := 6, attributes := #[] }, { accessFlags := 16409, nameIndex := 15, descriptorIndex := 6, attributes := #[] }, { accessFlags := 16409, nameIndex := 18, descriptorIndex := 6, attributes := #[] }, { accessFlags := 16409, nameIndex := 21, descriptorIndex := 6, attributes := #[] }, { accessFlags := 16409, nameIndex := 24, descriptorIndex := 6, attributes := #[] }, { accessFlags := 16409, nameIndex := 27, descriptorIndex := 6, attributes := #[] }, { accessFlags := 16409, nameIndex := 30, descriptorIndex := 6, attributes := #[] }, { accessFlags := 16409, nameIndex := 33, descriptorIndex := 6, attributes := #[] }, { accessFlags := 16409, nameIndex := 36, descriptorIndex := 6, attributes := #[] }, { accessFlags := 16409, nameIndex := 39, descriptorIndex := 6, attributes := #[] }, { accessFlags := 16409, nameIndex := 42, descriptorIndex := 6, attributes := #[] }, { accessFlags := 16409, nameIndex := 45, descriptorIndex := 6, attributes := #[] }, { accessFlags := 26, nameIndex := 92, descriptorIndex := 93, attributes := #[] }, { accessFlags := 18, nameIndex := 72, descriptorIndex := 73, attributes := #[] }, { accessFlags := 18, nameIndex := 76, descriptorIndex := 73, attributes := #[] }, { accessFlags := 18, nameIndex := 79, descriptorIndex := 80, attributes := #[] }, { accessFlags := 18, nameIndex := 83, descriptorIndex := 73, attributes := #[] }, { accessFlags := 4122, nameIndex := 48, descriptorIndex := 49, attributes := #[] }])
  fields := #[{ name := "ACCOUNTS", type := (.object "com/example/rollforth/rollforth/cli/Option"), accessFlags := 16409, slot := 0, constantValue := 0 }, { name := "ACK", type := (.object "com/example/rollforth/rollforth/cli/Option"), accessFlags := 16409, slot := 1, constantValue := 0 }, { name := "BACKUP_AT", type := (.object "com/example/rollforth/rollforth/cli/Option"), accessFlags := 16409, slot := 2, constantValue := 0 }, { name := "BACKUP_TO", type := (.object "com/example/rollforth/rollforth/cli/Option"), accessFlags := 16409, slot := 3, constantValue := 0 }, { name := "BATCH", type := (.object "com/example/rollforth/rollforth/cli/Option"), accessFlags := 16409, slot := 4, constantValue := 0 }, { name := "CACHE_PAGES", type := (.object "com/example/rollforth/rollforth/cli/Option"), accessFlags := 16409, slot := 5, constantValue := 0 }, { name := "CHECKPOINT_BYTES", type := (.object "com/example/rollforth/rollforth/cli/Option"), accessFlags := 16409, slot := 6, constantValue := 0 }, { name := "CLIENTS", type := (.object "com/example/rollforth/rollforth/cli/Option"), accessFlags := 16409, slot := 7, constantValue := 0 }, { name := "DELETE_ARCHIVED", type := (.object "com/example/rollforth/rollforth/cli/Option"), accessFlags := 16409, slot := 8, constantValue := 0 }, { name := "FROM", type := (.object "com/example/rollforth/rollforth/cli/Option"), accessFlags := 16409, slot := 9, constantValue := 0 }, { name := "INIT", type := (.object "com/example/rollforth/rollforth/cli/Option"), accessFlags := 16409, slot := 10, constantValue := 0 }, { name := "LOG_FILE_BYTES", type := (.object "com/example/rollforth/rollforth/cli/Option"), accessFlags := 16409, slot := 11, constantValue := 0 }, { name := "SECONDS", type := (.object "com/example/rollforth/rollforth/cli/Option"), accessFlags := 16409, slot := 12, constantValue := 0 }, { name := "STATS", type := (.object "com/example/rollforth/rollforth/cli/Option"), accessFlags := 16409, slot := 13, constantValue := 0 }, { name := "STORE", type := (.object "java/util/List"), accessFlags := 26, slot := 14, constantValue := 0 }, { name := "flag", type := (.object "java/lang/String"), accessFlags := 18, slot := 3, constantValue := 0 }, { name := "value", type := (.object "java/lang/String"), accessFlags := 18, slot := 4, constantValue := 0 }, { name := "most", type := .int, accessFlags := 18, slot := 5, constantValue := 0 }, { name := "meaning", type := (.object "java/lang/String"), accessFlags := 18, slot := 6, constantValue := 0 }, { name := "$VALUES", type := (.array (.object "com/example/rollforth/rollforth/cli/Option")), accessFlags := 4122, slot := 15, constantValue := 0 }]
  methods := #[k6m0, k6m1, k6m2]
  instanceTypes := #[(.object "java/lang/String"), .int, .int, (.object "java/lang/String"), (.object "java/lang/String"), .int, (.object "java/lang/String")]
  staticTypes := #[(.object "com/example/rollforth/rollforth/cli/Option"), (.object "com/example/rollforth/rollforth/cli/Option"), (.object "com/example/rollforth/rollforth/cli/Option"), (.object "com/example/rollforth/rollforth/cli/Option"), (.object "com/example/rollforth/rollforth/cli/Option"), (.object "com/example/rollforth/rollforth/cli/Option"), (.object "com/example/rollforth/rollforth/cli/Option"), (.object "com/example/rollforth/rollforth/cli/Option"), (.object "com/example/rollforth/rollforth/cli/Option"), (.object "com/example/rollforth/rollforth/cli/Option"), (.object "com/example/rollforth/rollforth/cli/Option"), (.object "com/example/rollforth/rollforth/cli/Option"), (.object "com/example/rollforth/rollforth/cli/Option"), (.object "com/example/rollforth/rollforth/cli/Option"), (.object "java/util/List"), (.array (.object "com/example/rollforth/rollforth/cli/Option"))]
  resolved := Array.replicate 266 none
  statics := some 0 }

def pool7 : Array CpInfo := pool [(2, .class_ 4), (1, u "java/lang/CharSequence"), (42, .class_ 48), (0, u "java/lang/CharSequence$1CodePointIterator"), (10, .class_ 60), (0, u "java/lang/CharSequence$1CharIterator"), (5, .class_ 67), (0, u "java/lang/Object")] 63

/-- java/lang/CharSequence -/
def k7 : Class := { plain "java/lang/CharSequence" (some 0) with
  accessFlags := 1537
  interfaces := #[]
  cf := some (fileOf pool7 2 #[.nestMembers #[47, 59]] #[] 1537 66 #[] #[])
  fields := #[]
  methods := #[]
  instanceTypes := #[]
  staticTypes := #[]
  resolved := Array.replicate 131 none
  statics := none }

def pool8 : Array CpInfo := pool [(1, .class_ 2), (0, u "java/lang/constant/ConstantDesc"), (0, .class_ 4), (0, u "java/lang/Object")] 32

/-- java/lang/constant/ConstantDesc -/
def k8 : Class := { plain "java/lang/constant/ConstantDesc" (some 0) with
  accessFlags := 1537
  interfaces := #[]
  cf := some (fileOf pool8 1 #[] #[] 1537 3 #[] #[])
  fields := #[]
  methods := #[]
  instanceTypes := #[]
  staticTypes := #[]
  resolved := Array.replicate 37 none
  statics := none }

def pool9 : Array CpInfo := pool [(2, .class_ 4), (1, u "java/lang/Object"), (0, u "<init>"), (0, u "()V"), (3, .class_ 12), (1, u "java/lang/String"), (0, u "value"), (0, u "[B"), (2, u "coder"), (0, u "B"), (2, u "hash"), (0, u "I"), (2, u "hashIsZero"), (0, u "Z"), (13, u "COMPACT_STRINGS"), (534, .class_ 576), (0, u "java/lang/CharSequence"), (22, u "CASE_INSENSITIVE_ORDER"), (0, u "Ljava/util/Comparator;"), (500, u "serialPersistentFields"), (0, u "[Ljava/io/ObjectStreamField;"), (0, .class_ 1104), (0, u "java/lang/String$CaseInsensitiveComparator"), (1, .class_ 1107), (0, u "java/io/Serializable"), (0, .class_ 1109), (0, u "java/lang/Comparable"), (0, .class_ 1111), (0, u "java/lang/constant/Constable"), (0, .class_ 1113), (0, u "java/lang/constant/ConstantDesc"), (2, u "serialVersionUID"), (0, u "J"), (3, u "REPL"), (0, u "C"), (2, u "LATIN1"), (1, u "UTF16")] 323

def k9m0 : Method := { name := "<init>", desc := "()V", sig := { parameters := [], returnType := none }, accessFlags := 1, code := none }
/-- java/lang/String -/
def k9 : Class := { plain "java/lang/String" (some 0) with
  accessFlags := 49
  interfaces := #[4, 3, 7, 2, 8]
  cf := some (fileOf pool9 10 #[.nestMembers #[1103]] #[{ accessFlags := 1, nameIndex := 5, descriptorIndex := 6, attributes := #[] }] 49 2 #[1106, 1108, 575, 1110, 1112] #[{ accessFlags := 18, nameIndex := 13, descriptorIndex := 14, attributes := #[] }, { accessFlags := 18, nameIndex := 17, descriptorIndex := 18, attributes := #[] }, { accessFlags := 2, nameIndex := 21, descriptorIndex := 22, attributes := #[] }, { accessFlags := 2, nameIndex := 25, descriptorIndex := 26, attributes := #[] }, { accessFlags := 26, nameIndex := 1116, descriptorIndex := 1117, attributes := #[] }, { accessFlags := 24, nameIndex := 40, descriptorIndex := 26, attributes := #[] }, { accessFlags := 26, nameIndex := 1101, descriptorIndex := 1102, attributes := #[] }, { accessFlags := 26, nameIndex := 1121, descriptorIndex := 1122, attributes := #[] }, { accessFlags := 25, nameIndex := 599, descriptorIndex := 600, attributes := #[] }, { accessFlags := 24, nameIndex := 1125, descriptorIndex := 18, attributes := #[] }, { accessFlags := 24, nameIndex := 1127, descriptorIndex := 18, attributes := #[] }])
  fields := #[{ name := "value", type := (.array .byte), accessFlags := 18, slot := 0, constantValue := 0 }, { name := "coder", type := .byte, accessFlags := 18, slot := 1, constantValue := 0 }, { name := "hash", type := .int, accessFlags := 2, slot := 2, constantValue := 0 }, { name := "hashIsZero", type := .boolean, accessFlags := 2, slot := 3, constantValue := 0 }, { name := "serialVersionUID", type := .long, accessFlags := 26, slot := 0, constantValue := 0 }, { name := "COMPACT_STRINGS", type := .boolean, accessFlags := 24, slot := 1, constantValue := 0 }, { name := "serialPersistentFields", type := (.array (.object "java/io/ObjectStreamField")), accessFlags := 26, slot := 2, constantValue := 0 }, { name := "REPL", type := .char, accessFlags := 26, slot := 3, constantValue := 0 }, { name := "CASE_INSENSITIVE_ORDER", type := (.object "java/util/Comparator"), accessFlags := 25, slot := 4, constantValue := 0 }, { name := "LATIN1", type := .byte, accessFlags := 24, slot := 5, constantValue := 0 }, { name := "UTF16", type := .byte, accessFlags := 24, slot := 6, constantValue := 0 }]
  methods := #[k9m0]
  instanceTypes := #[(.array .byte), .byte, .int, .boolean]
  staticTypes := #[.long, .boolean, (.array (.object "java/io/ObjectStreamField")), .char, (.object "java/util/Comparator"), .byte, .byte]
  resolved := Array.replicate 1451 none
  statics := none }

def pool10 : Array CpInfo := pool [(1, u "java/lang/Cloneable"), (0, .class_ 1), (0, u "java/lang/Object"), (0, .class_ 3)] 3

/-- java/lang/Cloneable -/
def k10 : Class := { plain "java/lang/Cloneable" (some 0) with
  accessFlags := 1537
  interfaces := #[]
  cf := some (fileOf pool10 2 #[] #[] 1537 4 #[] #[])
  fields := #[]
  methods := #[]
  instanceTypes := #[]
  staticTypes := #[]
  resolved := Array.replicate 8 none
  statics := none }

/-- the primitive byte -/
def k11 : Class := { plain "byte" none with kind := .primitive 'B', accessFlags := 0x411 }
/-- [B -/
def k12 : Class := { plain "[B" (some 0) with kind := .array 11 .byte, interfaces := #[10, 4], accessFlags := 1041 }

/-- the primitive int -/
def k13 : Class := { plain "int" none with kind := .primitive 'I', accessFlags := 0x411 }
/-- [I -/
def k14 : Class := { plain "[I" (some 0) with kind := .array 13 .int, interfaces := #[10, 4], accessFlags := 1041 }

def heap : Heap := #[{ cls := 6, slots := #[.ref 2, .ref 3, .ref 4, .ref 5, .ref 6, .ref 7, .ref 8, .ref 9, .ref 10, .ref 11, .ref 12, .ref 13, .ref 14, .ref 15, .null, .null], vm := .statics 6 },
  { cls := 9, slots := #[.null, .int 0, .int 0, .int 0], vm := .none },
  { cls := 6, slots := #[.null, .int 0, .int 0, .null, .ref 1, .int 99999999, .null], vm := .none },
  { cls := 6, slots := #[.null, .int 1, .int 0, .null, .null, .int 0, .null], vm := .none },
  { cls := 6, slots := #[.null, .int 2, .int 0, .null, .ref 1, .int 2147483647, .null], vm := .none },
  { cls := 6, slots := #[.null, .int 3, .int 0, .null, .ref 1, .int 0, .null], vm := .none },
  { cls := 6, slots := #[.null, .int 4, .int 0, .null, .ref 1, .int 2147483647, .null], vm := .none },
  { cls := 6, slots := #[.null, .int 5, .int 0, .null, .ref 1, .int 2147483647, .null], vm := .none },
  { cls := 6, slots := #[.null, .int 6, .int 0, .null, .ref 1, .int 2147483647, .null], vm := .none },
  { cls := 6, slots := #[.null, .int 7, .int 0, .null, .ref 1, .int 1024, .null], vm := .none },
  { cls := 6, slots := #[.null, .int 8, .int 0, .null, .null, .int 0, .null], vm := .none },
  { cls := 6, slots := #[.null, .int 9, .int 0, .null, .ref 1, .int 0, .null], vm := .none },
  { cls := 6, slots := #[.null, .int 10, .int 0, .null, .null, .int 0, .null], vm := .none },
  { cls := 6, slots := #[.null, .int 11, .int 0, .null, .ref 1, .int 2147483647, .null], vm := .none },
  { cls := 6, slots := #[.null, .int 12, .int 0, .null, .ref 1, .int 2147483647, .null], vm := .none },
  { cls := 6, slots := #[.null, .int 13, .int 0, .null, .null, .int 0, .null], vm := .none }]
def classes : Array Class := #[k0, k1, k2, k3, k4, k5, k6, k7, k8, k9, k10, k11, k12, k13, k14]
def interned : List (Array UInt16 × Addr) := []
def slotsUsed : Nat := 118
def theMethod : MethodId := ⟨1, 3⟩
def args0 : Array Value := #[.int 5]
def aboutOver (below : List Frame) : State where
  vm := { classes := classes, interned := interned.toArray }
  heap := heap
  slotsUsed := slotsUsed
  threads := #[{ frames := .invoking theMethod args0 :: below }]
def below0 : List Frame := [.native { method := ⟨0, 0⟩, args := #[] }]
def about1 : State := aboutOver below0
def p0 : Program := .bare "" "" ""
def e0 : Env := launch0.env 0 0 0
theorem w_frames : about1.frames = Frame.invoking theMethod args0 :: below0 := rfl
set_option maxRecDepth 65536 in
theorem w_args : argsFit about1.vm theMethod args0 = true := by decide +kernel
set_option maxRecDepth 65536 in
theorem w_heap : heapFits about1 = true := by decide +kernel
set_option maxRecDepth 65536 in
theorem w_runnable : about1.curStatus? = some .runnable := by decide +kernel
set_option maxRecDepth 65536 in
theorem w_alone : about1.alone = true := by decide +kernel
set_option maxRecDepth 65536 in
theorem w_named : about1.methodNamed? x = some theMethod := by decide +kernel
set_option maxRecDepth 65536 in
theorem w_hears : about1.hears theMethod below0 = true := by decide +kernel
set_option maxRecDepth 65536 in
theorem w_ripe : about1.ripe theMethod args0 below0 = true := by decide +kernel
theorem w_running : about1.status = .running := rfl
set_option maxRecDepth 65536 in
theorem w_room : about1.hasRoom e0.platform room_1 = true :=
  launch0.hasRoom_least _ room_1 (by decide +kernel) (by decide +kernel) (by decide +kernel) (by decide +kernel) (by decide +kernel) (by decide +kernel)
theorem allAtoms_all (ts : List Jvm.Cond) (a : Array Jvm.Value) (st : Jvm.State) : (allAtoms ts).before a st = ts.all (fun c => c.before a st) := by
  induction ts with
  | nil => rfl
  | cons c t ih =>
    show (Jvm.Cond.and c (allAtoms t)).before a st = _
    rw [Jvm.Cond.before_and, ih, List.all_cons]
def words1 : List Jvm.Cond := Jvm.Cond.code x code maxLocals ret :: tables_1
/-- a 'code' word, met by the world's own term for the bytes: nothing is compared byte by byte -/
theorem code_word {y : MethodName} {bytes : ByteArray} {mx : Nat} {rt : Option FieldType} {a : Array Value} {s : State} {m : MethodId} {meth : Method} {c : Code} (h1 : s.methodNamed? y = some m) (h2 : s.vm.method? m = some meth) (h3 : meth.code = some c) (h4 : c.code = bytes)
    (h5 : (c.maxLocals == mx && c.exceptionTable.isEmpty && decide (c.maxStack ≤ mostOperands) && decide (meth.sig.returnType = rt) && !meth.locks && decide (parseMethodDescriptor y.desc = some meth.sig)) = true) : (Jvm.Cond.code y bytes mx rt).before a s = true := by
  simp only [Bool.and_eq_true, beq_iff_eq, Bool.not_eq_true', decide_eq_true_eq] at h5
  obtain ⟨⟨⟨⟨⟨g1, g2⟩, g3⟩, g4⟩, g5⟩, g6⟩ := h5
  simp [Cond.before, Cond.holds, Cond.value, h1, h2, h3, h4, g1, g2, g3, g4, g5, g6]
def isCode : Jvm.Cond → Bool
  | .code _ _ _ _ => true
  | _ => false
theorem all_split {L : List Jvm.Cond} {P : Jvm.Cond → Bool} (h1 : L.all (fun c => isCode c || P c) = true) (h2 : ∀ c ∈ L.filter isCode, P c = true) : L.all P = true := by
  refine List.all_eq_true.mpr fun c hc => ?_
  have h := List.all_eq_true.mp h1 c hc
  rcases Bool.eq_false_or_eq_true (isCode c) with hi | hi
  · exact h2 c (List.mem_filter.mpr ⟨hc, hi⟩)
  · simpa [hi] using h
set_option maxRecDepth 65536 in
theorem w_c0 : (Jvm.Cond.code x code maxLocals ret).before args0 about1 = true := code_word (m := ⟨1, 3⟩) (meth := k1m3) (c := k1c3) (by decide +kernel) rfl rfl rfl (by decide +kernel)
set_option maxRecDepth 65536 in
theorem w_c1 : (Jvm.Cond.code ({ cls := "com/example/rollforth/rollforth/cli/OptionTakesNumberPinLaw", name := "pick", desc := "(I)Lcom/example/rollforth/rollforth/cli/Option;" } : Jvm.MethodName) method_2_code (1 : Nat) (Option.some (Jvm.ClassFile.FieldType.object "com/example/rollforth/rollforth/cli/Option"))).before args0 about1 = true := code_word (m := ⟨1, 1⟩) (meth := k1m1) (c := k1c1) (by decide +kernel) rfl rfl rfl (by decide +kernel)
set_option maxRecDepth 65536 in
theorem w_c2 : (Jvm.Cond.code ({ cls := "com/example/rollforth/rollforth/cli/Option", name := "takesNumber", desc := "()Z" } : Jvm.MethodName) prog_38_method_10_code (1 : Nat) (Option.some Jvm.ClassFile.FieldType.boolean)).before args0 about1 = true := code_word (m := ⟨6, 1⟩) (meth := k6m1) (c := k6c1) (by decide +kernel) rfl rfl rfl (by decide +kernel)
set_option maxRecDepth 65536 in
theorem w_c3 : (Jvm.Cond.code ({ cls := "com/example/rollforth/rollforth/cli/OptionTakesNumberPinLaw", name := "expected", desc := "(I)Z" } : Jvm.MethodName) method_3_code (1 : Nat) (Option.some Jvm.ClassFile.FieldType.boolean)).before args0 about1 = true := code_word (m := ⟨1, 2⟩) (meth := k1m2) (c := k1c2) (by decide +kernel) rfl rfl rfl (by decide +kernel)
set_option maxRecDepth 65536 in
theorem w_c4 : (Jvm.Cond.code ({ cls := "com/example/rollforth/rollforth/cli/Option", name := "takesValue", desc := "()Z" } : Jvm.MethodName) prog_38_method_9_code (1 : Nat) (Option.some Jvm.ClassFile.FieldType.boolean)).before args0 about1 = true := code_word (m := ⟨6, 0⟩) (meth := k6m0) (c := k6c0) (by decide +kernel) rfl rfl rfl (by decide +kernel)
set_option maxRecDepth 65536 in
theorem w_c5 : (Jvm.Cond.code ({ cls := "com/example/rollforth/rollforth/cli/Option", name := "most", desc := "()I" } : Jvm.MethodName) prog_38_method_11_code (1 : Nat) (Option.some Jvm.ClassFile.FieldType.int)).before args0 about1 = true := code_word (m := ⟨6, 2⟩) (meth := k6m2) (c := k6c2) (by decide +kernel) rfl rfl rfl (by decide +kernel)
def codes1 : List Jvm.Cond := [Jvm.Cond.code x code maxLocals ret, Jvm.Cond.code ({ cls := "com/example/rollforth/rollforth/cli/OptionTakesNumberPinLaw", name := "pick", desc := "(I)Lcom/example/rollforth/rollforth/cli/Option;" } : Jvm.MethodName) method_2_code (1 : Nat) (Option.some (Jvm.ClassFile.FieldType.object "com/example/rollforth/rollforth/cli/Option")), Jvm.Cond.code ({ cls := "com/example/rollforth/rollforth/cli/Option", name := "takesNumber", desc := "()Z" } : Jvm.MethodName) prog_38_method_10_code (1 : Nat) (Option.some Jvm.ClassFile.FieldType.boolean), Jvm.Cond.code ({ cls := "com/example/rollforth/rollforth/cli/OptionTakesNumberPinLaw", name := "expected", desc := "(I)Z" } : Jvm.MethodName) method_3_code (1 : Nat) (Option.some Jvm.ClassFile.FieldType.boolean), Jvm.Cond.code ({ cls := "com/example/rollforth/rollforth/cli/Option", name := "takesValue", desc := "()Z" } : Jvm.MethodName) prog_38_method_9_code (1 : Nat) (Option.some Jvm.ClassFile.FieldType.boolean), Jvm.Cond.code ({ cls := "com/example/rollforth/rollforth/cli/Option", name := "most", desc := "()I" } : Jvm.MethodName) prog_38_method_11_code (1 : Nat) (Option.some Jvm.ClassFile.FieldType.int)]
set_option maxRecDepth 65536 in
theorem codes_eq : words1.filter isCode = codes1 := rfl
theorem w_codes : ∀ c ∈ words1.filter isCode, c.before args0 about1 = true := by
  rw [codes_eq]
  intro c hc
  simp only [codes1, List.mem_cons, List.not_mem_nil, or_false] at hc
  rcases hc with rfl | rfl | rfl | rfl | rfl | rfl
  · exact w_c0
  · exact w_c1
  · exact w_c2
  · exact w_c3
  · exact w_c4
  · exact w_c5
set_option maxRecDepth 65536 in
theorem w_t1 : (words1.take 24).all (fun c => isCode c || c.before args0 about1) = true := by decide +kernel
set_option maxRecDepth 65536 in
theorem w_t2 : ((words1.drop 24).take 24).all (fun c => isCode c || c.before args0 about1) = true := by decide +kernel
set_option maxRecDepth 65536 in
theorem w_t3 : ((words1.drop 24).drop 24).all (fun c => isCode c || c.before args0 about1) = true := by decide +kernel
theorem w_tables : (allAtoms (Jvm.Cond.code x code maxLocals ret :: tables_1)).before args0 about1 = true := by
  rw [allAtoms_all]
  show words1.all (fun c => c.before args0 about1) = true
  refine all_split ?_ w_codes
  rw [← List.take_append_drop 24 words1, List.all_append, w_t1, ← List.take_append_drop 24 (words1.drop 24), List.all_append, w_t2, w_t3]
  rfl
set_option maxRecDepth 65536 in
theorem w_case : (Jvm.Cond.and given_1 narrow_1).before args0 about1 = true := by decide +kernel
theorem w_applies : (headSpec (Jvm.Cond.code x code maxLocals ret :: tables_1) room_1).applies x e0.platform about1 = true :=
  (Spec.applies_iff w_frames).mpr ⟨w_running, w_runnable, w_alone, w_named, w_hears, w_ripe, w_room, w_tables⟩
theorem atStart : AtStart classFile x code maxLocals ret World_1 tables_1 room_1 Calls_1 rest_1 Pre_1 launch0 p0 e0 about1 theMethod args0 below0 :=
  ⟨lists_1, trivial, launch0.admits_env _ _ _, launch0.least_env, fairChoices_fair.cas, fairChoices_fair.clock, w_frames, w_args, w_heap, w_applies, trivial, trivial, w_case⟩
end start1
theorem witness_1 : WitnessClaimed_1 := ⟨start1.p0, start1.e0, start1.about1, start1.theMethod, start1.args0, start1.below0, start1.atStart⟩
end Jvm.Pilot.@@N@@
