import JvmDerived
import JvmDerived.Pilot.@@N@@Statement
import JvmDerived.Pilot.@@N@@Code
set_option linter.unusedVariables false
set_option linter.unusedSimpArgs false
namespace Jvm.Pilot.@@N@@
open Jvm Jvm.ClassFile Sem Op Lib Jvm.Free Jvm.Stand Jvm.LawKit Jvm.RoadKit Bundle Jvm.Pilot.@@N@@.Jvm.D
/-! own words: where a body stands (own_C), how it ends (own_Ends), one step ahead of that (own_step), the returns -/
def own_C (cls : String) (code : ByteArray) (ml : Nat) (rt : Option FieldType) (nm : String) (p : Program) (s : State) (m : MethodId) (meth : Method) (c : Code) (Z : State) (a0 : Array Value) : Prop :=
  p.tables.exec = Jvm.exec ∧ Z.Warmed39 s.vm ∧ (∀ d ∈ tables_1, d.before a0 Z = true) ∧ c.code = code ∧ c.maxLocals = ml ∧ s.vm.findClass cls = some m.cls ∧ meth.sig.returnType = rt ∧ meth.locks = false ∧ meth.name = nm
def own_Q (n0 : Nat) (h0 : Heap) (w : Option Value) (v : Option Value) (h : Heap) (L : List Loc) : Prop := v = w ∧ Fr n0 L ∧ h = h0
def own_QL (n0 : Nat) (w : Option Value) (v : Option Value) (h : Heap) (L : List Loc) : Prop := v = w ∧ Fr n0 L ∧ True
def own_QR (n0 : Nat) (h0 : Heap) (v : Option Value) (h : Heap) (L : List Loc) : Prop := ∃ b : Addr, v = some (.ref b) ∧ Fr n0 L ∧ Keep h0 h []
def own_Ends (p : Program) (e : Env) (below : List Frame) (s : State) (kc ks : Nat) (Q : Option Value → Heap → List Loc → Prop) (T : State) (g : JFrame) : Prop :=
  ∃ s₂ o, Steps p.tables e below (T.setTop g) s₂ ∧ s₂.status = .running ∧ Ended s₂ below o ∧ ∃ v L, o = .returned v ∧ Q v s₂.heap L ∧ FrameEnd s o s₂ L kc ks
theorem own_step {p : Program} {e : Env} {below : List Frame} {s : State} {kc ks : Nat} {Q : Option Value → Heap → List Loc → Prop} {T T' : State} {g g' : JFrame}
    (st : ∀ target, Steps p.tables e below (T'.setTop g') target → Steps p.tables e below (T.setTop g) target) (h : own_Ends p e below s kc ks Q T' g') : own_Ends p e below s kc ks Q T g := by
  obtain ⟨s₂, o, h1, r⟩ := h
  exact ⟨s₂, o, st _ h1, r⟩
theorem own_mono {p : Program} {e : Env} {below : List Frame} {s : State} {kc ks : Nat} {Q Q' : Option Value → Heap → List Loc → Prop} {T : State} {g : JFrame} (h : own_Ends p e below s kc ks Q T g) (hq : ∀ v h L, Q v h L → Q' v h L) : own_Ends p e below s kc ks Q' T g := by
  obtain ⟨s₂, o, h1, h2, h3, v, L, h4, h5, h6⟩ := h
  exact ⟨s₂, o, h1, h2, h3, v, L, h4, hq _ _ _ h5, h6⟩
theorem own_nn {v : Value} (h : v.isRef = true) (q : ¬ v = .null) : ∃ y, v = .ref y := (ref_cases h).resolve_left q
theorem own_eqR {Z : State} {args : Array Value} {X F : Term} {idx : List Nat} {y : Addr} (hF : F.eval args Z none idx Z = some (.ref y)) (h : (Cond.eq X F).value args Z none Z idx = some true) : X.eval args Z none idx Z = some (.ref y) := by
  obtain ⟨x, y', e1, e2, k1, k2⟩ := cmp_v (Or.inl h)
  cases hF.symm.trans e2
  have hx : x.isRef = true := k2.2
  have := gotT (eq_R e1 hF hx rfl) h
  exact e1.trans (congrArg some this)
section OwnRet
variable {p : Program} {l : Launch} {e : Env} {R : Room} {s : State} {m : MethodId} {args : Array Value} {below : List Frame} {meth : Method} {c : Code} {T : State} {locs : List Loc} {cells slots : Nat} {kc ks : Nat} {Q : Option Value → Heap → List Loc → Prop}
theorem own_retO (X : Stand p l e R s m args below meth c T locs cells slots) (hx : p.tables.exec = Jvm.exec) {t : FieldType} (hret : meth.sig.returnType = some t) (hlk : meth.locks = false) {pc : Nat} {Ls : Array Slot} {w : Value} {i : Instr} {rest : List Value} (hn : narrow t w = w)
    (hi : (i = .ireturn ∧ (t = .int ∨ t = .boolean ∨ t = .byte ∨ t = .char ∨ t = .short) ∧ ∃ z, w = .int z) ∨ (i = .lreturn ∧ t = .long ∧ ∃ z, w = .long z) ∨ (i = .dreturn ∧ t = .double ∧ ∃ z, w = .double z) ∨ (i = .freturn ∧ t = .float ∧ ∃ z, w = .float z) ∨ (i = .areturn ∧ t.isReference = true ∧ w.isRef = true))
    (hd : decode c.code pc = .ok (i, 1)) (hc : cells ≤ kc) (hs : slots ≤ ks) (hQ : Q (some w) T.heap locs) : own_Ends p e below s kc ks Q T (mkF m pc Ls (w :: rest)) := by
  obtain ⟨fs, hr, hrun, hended, hW, hsame⟩ := X.leave (v := some w) (fun h => by rw [hret] at h; cases h) hlk
  exact ⟨_, _, retOut X hx hret hn hi hd hr, hrun, hended, _, _, rfl, hQ, ⟨_, rfl⟩, hW, hsame.mono hc hs⟩
theorem own_retI (X : Stand p l e R s m args below meth c T locs cells slots) (hx : p.tables.exec = Jvm.exec) (hret : meth.sig.returnType = some .int) (hlk : meth.locks = false) {pc : Nat} {Ls : Array Slot} {z : Int32} {rest : List Value}
    (hd : decode c.code pc = .ok (.ireturn, 1)) (hc : cells ≤ kc) (hs : slots ≤ ks) (hQ : Q (some (.int z)) T.heap locs) : own_Ends p e below s kc ks Q T (mkF m pc Ls (.int z :: rest)) :=
  own_retO X hx hret hlk rfl (Or.inl ⟨rfl, Or.inl rfl, z, rfl⟩) hd hc hs hQ
theorem own_retJ (X : Stand p l e R s m args below meth c T locs cells slots) (hx : p.tables.exec = Jvm.exec) (hret : meth.sig.returnType = some .long) (hlk : meth.locks = false) {pc : Nat} {Ls : Array Slot} {z : Int64} {rest : List Value}
    (hd : decode c.code pc = .ok (.lreturn, 1)) (hc : cells ≤ kc) (hs : slots ≤ ks) (hQ : Q (some (.long z)) T.heap locs) : own_Ends p e below s kc ks Q T (mkF m pc Ls (.long z :: rest)) :=
  own_retO X hx hret hlk rfl (Or.inr (Or.inl ⟨rfl, rfl, z, rfl⟩)) hd hc hs hQ
theorem own_retR (X : Stand p l e R s m args below meth c T locs cells slots) (hx : p.tables.exec = Jvm.exec) {t : FieldType} (hret : meth.sig.returnType = some t) (hlk : meth.locks = false) {pc : Nat} {Ls : Array Slot} {w : Value} {rest : List Value}
    (hd : decode c.code pc = .ok (.areturn, 1)) (hc : cells ≤ kc) (hs : slots ≤ ks) (ht : t.isReference = true) (hw : w.isRef = true) (hQ : Q (some w) T.heap locs) : own_Ends p e below s kc ks Q T (mkF m pc Ls (w :: rest)) :=
  own_retO X hx hret hlk (by cases t <;> first | rfl | cases ht) (Or.inr (Or.inr (Or.inr (Or.inr ⟨rfl, ht, hw⟩)))) hd hc hs hQ
theorem own_retN (X : Stand p l e R s m args below meth c T locs cells slots) {t : FieldType} (hx : p.tables.exec = Jvm.exec) (hret : meth.sig.returnType = some t) (hlk : meth.locks = false) {pc : Nat} {Ls : Array Slot} {z : Int32} {rest : List Value}
    (hd : decode c.code pc = .ok (.ireturn, 1)) (hc : cells ≤ kc) (hs : slots ≤ ks) (ht : t = .boolean ∨ t = .byte ∨ t = .char ∨ t = .short) (hQ : Q (some (.int (nar t z))) T.heap locs) : own_Ends p e below s kc ks Q T (mkF m pc Ls (.int z :: rest)) := by
  obtain ⟨fs, hr, hrun, hended, hW, hsame⟩ := X.leave (v := some (.int (nar t z))) (fun h => by rw [hret] at h; cases h) hlk
  exact ⟨_, _, retN X hx hret ht hd hr, hrun, hended, _, _, rfl, hQ, ⟨_, rfl⟩, hW, hsame.mono hc hs⟩
theorem own_retV (X : Stand p l e R s m args below meth c T locs cells slots) (hx : p.tables.exec = Jvm.exec) (hret : meth.sig.returnType = none) (hlk : meth.locks = false) {pc : Nat} {Ls : Array Slot}
    (hd : decode c.code pc = .ok (.return_, 1)) (hc : cells ≤ kc) (hs : slots ≤ ks) (hQ : Q none T.heap locs) : own_Ends p e below s kc ks Q T (mkF m pc Ls []) := by
  obtain ⟨fs, hr, hrun, hended, hW, hsame⟩ := X.leave (v := none) (fun _ => rfl) hlk
  exact ⟨_, _, X.returnOut hx hret hd hr, hrun, hended, _, _, rfl, hQ, ⟨_, rfl⟩, hW, hsame.mono hc hs⟩
end OwnRet
/-! the same for a body that may load String constants (the wide frame) -/
def own_EndsW (p : Program) (e : Env) (below : List Frame) (s : State) (kc ks : Nat) (Q : Option Value → Heap → List Loc → Prop) (T : State) (g : JFrame) : Prop :=
  ∃ s₂ o, Steps p.tables e below (T.setTop g) s₂ ∧ s₂.status = .running ∧ Ended s₂ below o ∧ ∃ v L, o = .returned v ∧ Q v s₂.heap L ∧ ReturnedEndW s o s₂ L kc ks
theorem own_stepW {p : Program} {e : Env} {below : List Frame} {s : State} {kc ks : Nat} {Q : Option Value → Heap → List Loc → Prop} {T T' : State} {g g' : JFrame}
    (st : ∀ target, Steps p.tables e below (T'.setTop g') target → Steps p.tables e below (T.setTop g) target) (h : own_EndsW p e below s kc ks Q T' g') : own_EndsW p e below s kc ks Q T g := by
  obtain ⟨s₂, o, h1, r⟩ := h
  exact ⟨s₂, o, st _ h1, r⟩
section OwnRetW
variable {p : Program} {l : Launch} {e : Env} {R : Room} {s : State} {vm0 : Vm} {k0 : Nat} {m : MethodId} {args : Array Value} {below : List Frame} {meth : Method} {c : Code} {T : State} {locs : List Loc} {cells slots : Nat} {kc ks : Nat} {Q : Option Value → Heap → List Loc → Prop}
theorem own_retOW (X : Stand p l e R (s.setVm vm0) m args below meth c T locs cells slots) (hS : s.Since vm0 k0) (hk : k0 ≤ T.heap.size) (hx : p.tables.exec = Jvm.exec) {t : FieldType} (hret : meth.sig.returnType = some t) (hlk : meth.locks = false) {pc : Nat} {Ls : Array Slot} {w : Value} {i : Instr} {rest : List Value} (hn : narrow t w = w)
    (hi : (i = .ireturn ∧ (t = .int ∨ t = .boolean ∨ t = .byte ∨ t = .char ∨ t = .short) ∧ ∃ z, w = .int z) ∨ (i = .lreturn ∧ t = .long ∧ ∃ z, w = .long z) ∨ (i = .dreturn ∧ t = .double ∧ ∃ z, w = .double z) ∨ (i = .freturn ∧ t = .float ∧ ∃ z, w = .float z) ∨ (i = .areturn ∧ t.isReference = true ∧ w.isRef = true))
    (hd : decode c.code pc = .ok (i, 1)) (hc : cells ≤ kc) (hs : slots ≤ ks) (hQ : Q (some w) T.heap locs) : own_EndsW p e below s kc ks Q T (mkF m pc Ls (w :: rest)) := by
  obtain ⟨fs, hr, hrun, hended, e1, e2, e3, e4⟩ := X.leaveW hS hk (v := some w) (fun h => by rw [hret] at h; cases h) hlk
  exact ⟨_, _, retOut X hx hret hn hi hd hr, hrun, hended, _, _, rfl, hQ, e1, e2, e3, e4.mono hc hs⟩
theorem own_retRW (X : Stand p l e R (s.setVm vm0) m args below meth c T locs cells slots) (hS : s.Since vm0 k0) (hk : k0 ≤ T.heap.size) (hx : p.tables.exec = Jvm.exec) {t : FieldType} (hret : meth.sig.returnType = some t) (hlk : meth.locks = false) {pc : Nat} {Ls : Array Slot} {w : Value} {rest : List Value}
    (hd : decode c.code pc = .ok (.areturn, 1)) (hc : cells ≤ kc) (hs : slots ≤ ks) (ht : t.isReference = true) (hw : w.isRef = true) (hQ : Q (some w) T.heap locs) : own_EndsW p e below s kc ks Q T (mkF m pc Ls (w :: rest)) :=
  own_retOW X hS hk hx hret hlk (by cases t <;> first | rfl | cases ht) (Or.inr (Or.inr (Or.inr (Or.inr ⟨rfl, ht, hw⟩)))) hd hc hs hQ
theorem own_retNW (X : Stand p l e R (s.setVm vm0) m args below meth c T locs cells slots) (hS : s.Since vm0 k0) (hk : k0 ≤ T.heap.size) {t : FieldType} (hx : p.tables.exec = Jvm.exec) (hret : meth.sig.returnType = some t) (hlk : meth.locks = false) {pc : Nat} {Ls : Array Slot} {z : Int32} {rest : List Value}
    (hd : decode c.code pc = .ok (.ireturn, 1)) (hc : cells ≤ kc) (hs : slots ≤ ks) (ht : t = .boolean ∨ t = .byte ∨ t = .char ∨ t = .short) (hQ : Q (some (.int (nar t z))) T.heap locs) : own_EndsW p e below s kc ks Q T (mkF m pc Ls (.int z :: rest)) := by
  obtain ⟨fs, hr, hrun, hended, e1, e2, e3, e4⟩ := X.leaveW hS hk (v := some (.int (nar t z))) (fun h => by rw [hret] at h; cases h) hlk
  exact ⟨_, _, retN X hx hret ht hd hr, hrun, hended, _, _, rfl, hQ, e1, e2, e3, e4.mono hc hs⟩
end OwnRetW

theorem pn_0 : plainName "java/lang/Record" = true := by first | (simp [plainName, overriddenIn]; done) | decide +kernel
theorem pn_1 : plainName "java/lang/Long" = true := by first | (simp [plainName, overriddenIn]; done) | decide +kernel
theorem pn_2 : plainName "com/example/rollforth/rollforth/log/LogInstantCompareToPinLaw" = true := by first | (simp [plainName, overriddenIn]; done) | decide +kernel
theorem pd_0 : parseMethodDescriptor "()V" = some ⟨[], none⟩ := by decide +kernel
theorem pn_3 : plainName "com/example/rollforth/rollforth/log/LogInstant" = true := by first | (simp [plainName, overriddenIn]; done) | decide +kernel
theorem pd_1 : parseMethodDescriptor "(JJ)I" = some ⟨[.long, .long], some .int⟩ := by decide +kernel
theorem pd_2 : parseMethodDescriptor "(JJ)V" = some ⟨[.long, .long], none⟩ := by decide +kernel
theorem pd_3 : parseMethodDescriptor "(Lcom/example/rollforth/rollforth/log/LogInstant;)I" = some ⟨[(.object "com/example/rollforth/rollforth/log/LogInstant")], some .int⟩ := by decide +kernel
theorem pd_4 : parseMethodDescriptor "(I)I" = some ⟨[.int], some .int⟩ := by decide +kernel
theorem d2_0 : decode jdk_30_method_1_code 0 = .ok (.aload_n 0, 1) := by decide +kernel
theorem d2_1 : decode jdk_30_method_1_code 1 = .ok (.invokespecial 1, 3) := by decide +kernel
theorem d2_4 : decode jdk_30_method_1_code 4 = .ok (.return_, 1) := by decide +kernel
set_option maxRecDepth 65536 in
set_option maxHeartbeats 40000000 in
theorem b2_0 {p : Program} {l : Launch} {e : Env} {s : State} {m : MethodId} {args : Array Value} {below : List Frame} {meth : Method} {c : Code} {Z : State} {a0 : Array Value} {h0 : Heap} {n0 : Nat} (C : own_C "java/lang/Record" jdk_30_method_1_code 1 none "<init>" p s m meth c Z a0) (Z0 : n0 ≤ h0.size) {T0 : State} {locs : List Loc} (X0 : Stand p l e ({ frames := 1, cells := 0, slots := 0, locals := 12 } : Room) s m args below meth c T0 locs 0 0) (e0 : T0.heap = h0) (N0 : Fr n0 locs) (o0 : Addr) :
    own_Ends p e below s ({ frames := 1, cells := 0, slots := 0, locals := 12 } : Room).cells ({ frames := 1, cells := 0, slots := 0, locals := 12 } : Room).slots (own_Q n0 h0 none) T0 (mkF m 0 #[.val (.ref o0)] []) := by
  obtain ⟨hx, hZ, hw, hby, hml, hown, hret, hlk, hnm⟩ := C
  have C : own_C "java/lang/Record" jdk_30_method_1_code 1 none "<init>" p s m meth c Z a0 := ⟨hx, hZ, hw, hby, hml, hown, hret, hlk, hnm⟩
  refine own_step (fun _ => XS.aloadN X0.here hx rfl (hb hby d2_0) rfl rfl) ?_
  show own_Ends p e below s _ _ _ T0 (mkF m 1 #[.val (.ref o0)] [(.ref o0)])
  obtain ⟨T2, X2, e2, st2⟩ := initO X0 hx hZ hown (hw _ (List.mem_of_getElem? (i := 12) rfl)) (hw _ (List.mem_of_getElem? (i := 13) rfl)) (hw _ (List.mem_of_getElem? (i := 14) rfl)) e0 (g := (mkF m 1 #[.val (.ref o0)] [(.ref o0)])) rfl (by rw [hml]; rfl) rfl (hb hby d2_1) (by decide) (W := 0) (by show 2 * 0 + _ ≤ _; exact Nat.le_of_eq rfl) (by decide)
  refine own_step st2 ?_
  show own_Ends p e below s _ _ _ T2 (mkF m 4 #[.val (.ref o0)] [])
  exact own_retV X2 hx hret hlk (hb hby d2_4) (by decide) (by decide) ⟨rfl, N0, e2⟩
theorem ef_rm2 (m : MethodId) (o0 : Addr) : entryFrame m #[(.ref o0)] 1 = mkF m 0 #[.val (.ref o0)] [] := by first | (simp [entryFrame, mkF, argsToLocals, Value.category]; done) | rfl
set_option maxRecDepth 65536 in
set_option maxHeartbeats 40000000 in
theorem rm2 (l : Launch) (Z : State) (a0 : Array Value) (hw : ∀ d ∈ tables_1, d.before a0 Z = true) (ws : List Jvm.Cond) (o0 : Addr) (h0 : Heap) (n0 : Nat) (Z0 : n0 ≤ h0.size) :
    MetFree l (⟨"java/lang/Record", "<init>", "()V"⟩ : MethodName) (head1 (Jvm.Cond.code (⟨"java/lang/Record", "<init>", "()V"⟩ : MethodName) jdk_30_method_1_code 1 none :: ws) ({ frames := 1, cells := 0, slots := 0, locals := 12 } : Room)) (fun a U => a = #[(.ref o0)] ∧ Z.Warmed39 U.vm ∧ U.heap = h0) (fun _ _ _ _ _ => True) (fun _ U o U' => ∃ v L, o = .returned v ∧ (own_Q n0 h0 none) v U'.heap L ∧ FrameEnd U o U' L ({ frames := 1, cells := 0, slots := 0, locals := 12 } : Room).cells ({ frames := 1, cells := 0, slots := 0, locals := 12 } : Room).slots) := by
  refine MetFree.of_bodySF (plainFor_of_name pn_0) hisR ?_
  intro p e s m args below meth c s₁ Bd hml0 hP hK
  obtain ⟨rfl, hZ, hh⟩ := hP
  have X0 : Stand p l e ({ frames := 1, cells := 0, slots := 0, locals := 12 } : Room) s m #[(.ref o0)] below meth c s₁ [] 0 0 := Stand.of_body Bd
  have e0 : s₁.heap = h0 := by rw [← hh, Bd.state]; rfl
  have C : own_C "java/lang/Record" jdk_30_method_1_code 1 none "<init>" p s m meth c Z a0 := ⟨Bd.exec, hZ, hw, Bd.bytes, hml0, findClass_of_methodNamed Bd.named, Bd.returns, Bd.notSynchronized, (name_of_methodNamed Bd.named Bd.method).1⟩
  have r := b2_0 C Z0 X0 e0 (Fr.nil n0) o0
  rw [ef_rm2 m o0]
  exact r
theorem d5_0 : decode jdk_35_method_42_code 0 = .ok (.lload_n 0, 1) := by decide +kernel
theorem d5_1 : decode jdk_35_method_42_code 1 = .ok (.lload_n 2, 1) := by decide +kernel
theorem d5_2 : decode jdk_35_method_42_code 2 = .ok (.lcmp, 1) := by decide +kernel
theorem d5_3 : decode jdk_35_method_42_code 3 = .ok (.ifCond .ge 7, 3) := by decide +kernel
theorem d5_6 : decode jdk_35_method_42_code 6 = .ok (.iconst (-1), 1) := by decide +kernel
theorem d5_7 : decode jdk_35_method_42_code 7 = .ok (.goto 14, 3) := by decide +kernel
theorem d5_10 : decode jdk_35_method_42_code 10 = .ok (.lload_n 0, 1) := by decide +kernel
theorem d5_11 : decode jdk_35_method_42_code 11 = .ok (.lload_n 2, 1) := by decide +kernel
theorem d5_12 : decode jdk_35_method_42_code 12 = .ok (.lcmp, 1) := by decide +kernel
theorem d5_13 : decode jdk_35_method_42_code 13 = .ok (.ifCond .ne 7, 3) := by decide +kernel
theorem d5_16 : decode jdk_35_method_42_code 16 = .ok (.iconst 0, 1) := by decide +kernel
theorem d5_17 : decode jdk_35_method_42_code 17 = .ok (.goto 4, 3) := by decide +kernel
theorem d5_20 : decode jdk_35_method_42_code 20 = .ok (.iconst 1, 1) := by decide +kernel
theorem d5_21 : decode jdk_35_method_42_code 21 = .ok (.ireturn, 1) := by decide +kernel
def f5_0 (j0 : Int64) (j1 : Int64) : Int32 := (if j0 < j1 then (-1 : Int32) else (if j0 = j1 then (0 : Int32) else (1 : Int32)))
set_option maxRecDepth 65536 in
set_option maxHeartbeats 40000000 in
theorem b5_0 {p : Program} {l : Launch} {e : Env} {s : State} {m : MethodId} {args : Array Value} {below : List Frame} {meth : Method} {c : Code} {Z : State} {a0 : Array Value} {h0 : Heap} {n0 : Nat} (C : own_C "java/lang/Long" jdk_35_method_42_code 4 (some .int) "compare" p s m meth c Z a0) (Z0 : n0 ≤ h0.size) {T0 : State} {locs : List Loc} (X0 : Stand p l e ({ frames := 0, cells := 0, slots := 0, locals := 0 } : Room) s m args below meth c T0 locs 0 0) (e0 : T0.heap = h0) (N0 : Fr n0 locs) (j0 : Int64) (j1 : Int64) (W : Int32) (hv : W = f5_0 j0 j1) :
    own_Ends p e below s ({ frames := 0, cells := 0, slots := 0, locals := 0 } : Room).cells ({ frames := 0, cells := 0, slots := 0, locals := 0 } : Room).slots (own_Q n0 h0 (some (.int W))) T0 (mkF m 0 #[.val (.long j0), .second, .val (.long j1), .second] []) := by
  obtain ⟨hx, hZ, hw, hby, hml, hown, hret, hlk, hnm⟩ := C
  have C : own_C "java/lang/Long" jdk_35_method_42_code 4 (some .int) "compare" p s m meth c Z a0 := ⟨hx, hZ, hw, hby, hml, hown, hret, hlk, hnm⟩
  unfold f5_0 at hv
  refine own_step (fun _ => XS.lloadN X0.here hx rfl (hb hby d5_0) rfl) ?_
  show own_Ends p e below s _ _ _ T0 (mkF m 1 #[.val (.long j0), .second, .val (.long j1), .second] [(.long j0)])
  refine own_step (fun _ => XS.lloadN X0.here hx rfl (hb hby d5_1) rfl) ?_
  show own_Ends p e below s _ _ _ T0 (mkF m 2 #[.val (.long j0), .second, .val (.long j1), .second] [(.long j1), (.long j0)])
  refine own_step (fun _ => XS.lcmp X0.here hx rfl (hb hby d5_2) rfl) ?_
  show own_Ends p e below s _ _ _ T0 (mkF m 3 #[.val (.long j0), .second, .val (.long j1), .second] [(.int (lcmpW j0 j1))])
  by_cases hc3 : j0 < j1
  · have hv_t := hv.trans (if_pos hc3)
    refine own_step (fun _ => XS.ifNo X0.here hx rfl (hb hby d5_3) rfl ((if0 _ _).trans (tlt ((lw_lt _ _).mpr hc3)).2.1)) ?_
    show own_Ends p e below s _ _ _ T0 (mkF m 6 #[.val (.long j0), .second, .val (.long j1), .second] [])
    refine own_step (fun _ => XS.iconst X0.here hx rfl (hb hby d5_6)) ?_
    show own_Ends p e below s _ _ _ T0 (mkF m 7 #[.val (.long j0), .second, .val (.long j1), .second] [(.int (-1 : Int32))])
    refine own_step (fun _ => XS.goto X0.here hx rfl (pc0 := 7) (pc' := 21) rfl (hb hby d5_7) (by decide) (by decide)) ?_
    show own_Ends p e below s _ _ _ T0 (mkF m 21 #[.val (.long j0), .second, .val (.long j1), .second] [(.int (-1 : Int32))])
    exact own_retI X0 hx hret hlk (hb hby d5_21) (by decide) (by decide) ⟨congrArg (fun z => some (Value.int z)) hv_t.symm, N0, e0⟩
  · have hv_f := hv.trans (if_neg hc3)
    refine own_step (fun _ => XS.ifYes X0.here hx rfl (pc0 := 3) (pc' := 10) rfl (hb hby d5_3) rfl ((if0 _ _).trans (flt (fun q => hc3 ((lw_lt _ _).mp q))).2.1) (by decide) (by decide)) ?_
    show own_Ends p e below s _ _ _ T0 (mkF m 10 #[.val (.long j0), .second, .val (.long j1), .second] [])
    refine own_step (fun _ => XS.lloadN X0.here hx rfl (hb hby d5_10) rfl) ?_
    show own_Ends p e below s _ _ _ T0 (mkF m 11 #[.val (.long j0), .second, .val (.long j1), .second] [(.long j0)])
    refine own_step (fun _ => XS.lloadN X0.here hx rfl (hb hby d5_11) rfl) ?_
    show own_Ends p e below s _ _ _ T0 (mkF m 12 #[.val (.long j0), .second, .val (.long j1), .second] [(.long j1), (.long j0)])
    refine own_step (fun _ => XS.lcmp X0.here hx rfl (hb hby d5_12) rfl) ?_
    show own_Ends p e below s _ _ _ T0 (mkF m 13 #[.val (.long j0), .second, .val (.long j1), .second] [(.int (lcmpW j0 j1))])
    by_cases hc13 : j0 = j1
    · have hv_f_t := hv_f.trans (if_pos hc13)
      refine own_step (fun _ => XS.ifNo X0.here hx rfl (hb hby d5_13) rfl ((if0 _ _).trans (teq ((lw_eq _ _).mpr hc13)).2)) ?_
      show own_Ends p e below s _ _ _ T0 (mkF m 16 #[.val (.long j0), .second, .val (.long j1), .second] [])
      refine own_step (fun _ => XS.iconst X0.here hx rfl (hb hby d5_16)) ?_
      show own_Ends p e below s _ _ _ T0 (mkF m 17 #[.val (.long j0), .second, .val (.long j1), .second] [(.int (0 : Int32))])
      refine own_step (fun _ => XS.goto X0.here hx rfl (pc0 := 17) (pc' := 21) rfl (hb hby d5_17) (by decide) (by decide)) ?_
      show own_Ends p e below s _ _ _ T0 (mkF m 21 #[.val (.long j0), .second, .val (.long j1), .second] [(.int (0 : Int32))])
      exact own_retI X0 hx hret hlk (hb hby d5_21) (by decide) (by decide) ⟨congrArg (fun z => some (Value.int z)) hv_f_t.symm, N0, e0⟩
    · have hv_f_f := hv_f.trans (if_neg hc13)
      refine own_step (fun _ => XS.ifYes X0.here hx rfl (pc0 := 13) (pc' := 20) rfl (hb hby d5_13) rfl ((if0 _ _).trans (feq (fun q => hc13 ((lw_eq _ _).mp q))).2) (by decide) (by decide)) ?_
      show own_Ends p e below s _ _ _ T0 (mkF m 20 #[.val (.long j0), .second, .val (.long j1), .second] [])
      refine own_step (fun _ => XS.iconst X0.here hx rfl (hb hby d5_20)) ?_
      show own_Ends p e below s _ _ _ T0 (mkF m 21 #[.val (.long j0), .second, .val (.long j1), .second] [(.int (1 : Int32))])
      exact own_retI X0 hx hret hlk (hb hby d5_21) (by decide) (by decide) ⟨congrArg (fun z => some (Value.int z)) hv_f_f.symm, N0, e0⟩
theorem ef_rm5 (m : MethodId) (j0 : Int64) (j1 : Int64) : entryFrame m #[(.long j0), (.long j1)] 4 = mkF m 0 #[.val (.long j0), .second, .val (.long j1), .second] [] := by first | (simp [entryFrame, mkF, argsToLocals, Value.category]; done) | rfl
set_option maxRecDepth 65536 in
set_option maxHeartbeats 40000000 in
theorem rm5 (l : Launch) (Z : State) (a0 : Array Value) (hw : ∀ d ∈ tables_1, d.before a0 Z = true) (ws : List Jvm.Cond) (j0 : Int64) (j1 : Int64) (h0 : Heap) (n0 : Nat) (Z0 : n0 ≤ h0.size) :
    MetFree l (⟨"java/lang/Long", "compare", "(JJ)I"⟩ : MethodName) (head1 (Jvm.Cond.code (⟨"java/lang/Long", "compare", "(JJ)I"⟩ : MethodName) jdk_35_method_42_code 4 (some .int) :: ws) ({ frames := 0, cells := 0, slots := 0, locals := 0 } : Room)) (fun a U => a = #[(.long j0), (.long j1)] ∧ Z.Warmed39 U.vm ∧ U.heap = h0) (fun _ _ _ _ _ => True) (fun _ U o U' => ∃ v L, o = .returned v ∧ (own_Q n0 h0 (some (.int (f5_0 j0 j1)))) v U'.heap L ∧ FrameEnd U o U' L ({ frames := 0, cells := 0, slots := 0, locals := 0 } : Room).cells ({ frames := 0, cells := 0, slots := 0, locals := 0 } : Room).slots) := by
  refine MetFree.of_bodySF (plainFor_of_name pn_1) hisR ?_
  intro p e s m args below meth c s₁ Bd hml0 hP hK
  obtain ⟨rfl, hZ, hh⟩ := hP
  have X0 : Stand p l e ({ frames := 0, cells := 0, slots := 0, locals := 0 } : Room) s m #[(.long j0), (.long j1)] below meth c s₁ [] 0 0 := Stand.of_body Bd
  have e0 : s₁.heap = h0 := by rw [← hh, Bd.state]; rfl
  have C : own_C "java/lang/Long" jdk_35_method_42_code 4 (some .int) "compare" p s m meth c Z a0 := ⟨Bd.exec, hZ, hw, Bd.bytes, hml0, findClass_of_methodNamed Bd.named, Bd.returns, Bd.notSynchronized, (name_of_methodNamed Bd.named Bd.method).1⟩
  have r := b5_0 C Z0 X0 e0 (Fr.nil n0) j0 j1 _ rfl
  rw [ef_rm5 m j0 j1]
  exact r
theorem d6_0 : decode method_2_code 0 = .ok (.iload_n 0, 1) := by decide +kernel
theorem d6_1 : decode method_2_code 1 = .ok (.ifCond .ge 5, 3) := by decide +kernel
theorem d6_4 : decode method_2_code 4 = .ok (.iconst (-1), 1) := by decide +kernel
theorem d6_5 : decode method_2_code 5 = .ok (.ireturn, 1) := by decide +kernel
theorem d6_6 : decode method_2_code 6 = .ok (.iload_n 0, 1) := by decide +kernel
theorem d6_7 : decode method_2_code 7 = .ok (.ifCond .le 5, 3) := by decide +kernel
theorem d6_10 : decode method_2_code 10 = .ok (.iconst 1, 1) := by decide +kernel
theorem d6_11 : decode method_2_code 11 = .ok (.ireturn, 1) := by decide +kernel
theorem d6_12 : decode method_2_code 12 = .ok (.iconst 0, 1) := by decide +kernel
theorem d6_13 : decode method_2_code 13 = .ok (.ireturn, 1) := by decide +kernel
def f6_0 (i0 : Int32) : Int32 := (if i0 < (0 : Int32) then (-1 : Int32) else (if (0 : Int32) < i0 then (1 : Int32) else (0 : Int32)))
set_option maxRecDepth 65536 in
set_option maxHeartbeats 40000000 in
theorem b6_0 {p : Program} {l : Launch} {e : Env} {s : State} {m : MethodId} {args : Array Value} {below : List Frame} {meth : Method} {c : Code} {Z : State} {a0 : Array Value} {h0 : Heap} {n0 : Nat} (C : own_C "com/example/rollforth/rollforth/log/LogInstantCompareToPinLaw" method_2_code 1 (some .int) "sign" p s m meth c Z a0) (Z0 : n0 ≤ h0.size) {T0 : State} {locs : List Loc} (X0 : Stand p l e ({ frames := 0, cells := 0, slots := 0, locals := 0 } : Room) s m args below meth c T0 locs 0 0) (e0 : T0.heap = h0) (N0 : Fr n0 locs) (i0 : Int32) (W : Int32) (hv : W = f6_0 i0) :
    own_Ends p e below s ({ frames := 0, cells := 0, slots := 0, locals := 0 } : Room).cells ({ frames := 0, cells := 0, slots := 0, locals := 0 } : Room).slots (own_Q n0 h0 (some (.int W))) T0 (mkF m 0 #[.val (.int i0)] []) := by
  obtain ⟨hx, hZ, hw, hby, hml, hown, hret, hlk, hnm⟩ := C
  have C : own_C "com/example/rollforth/rollforth/log/LogInstantCompareToPinLaw" method_2_code 1 (some .int) "sign" p s m meth c Z a0 := ⟨hx, hZ, hw, hby, hml, hown, hret, hlk, hnm⟩
  unfold f6_0 at hv
  refine own_step (fun _ => XS.iloadN X0.here hx rfl (hb hby d6_0) rfl) ?_
  show own_Ends p e below s _ _ _ T0 (mkF m 1 #[.val (.int i0)] [(.int i0)])
  by_cases hc1 : i0 < (0 : Int32)
  · have hv_t := hv.trans (if_pos hc1)
    refine own_step (fun _ => XS.ifNo X0.here hx rfl (hb hby d6_1) rfl ((if0 _ _).trans (tlt hc1).2.1)) ?_
    show own_Ends p e below s _ _ _ T0 (mkF m 4 #[.val (.int i0)] [])
    refine own_step (fun _ => XS.iconst X0.here hx rfl (hb hby d6_4)) ?_
    show own_Ends p e below s _ _ _ T0 (mkF m 5 #[.val (.int i0)] [(.int (-1 : Int32))])
    exact own_retI X0 hx hret hlk (hb hby d6_5) (by decide) (by decide) ⟨congrArg (fun z => some (Value.int z)) hv_t.symm, N0, e0⟩
  · have hv_f := hv.trans (if_neg hc1)
    refine own_step (fun _ => XS.ifYes X0.here hx rfl (pc0 := 1) (pc' := 6) rfl (hb hby d6_1) rfl ((if0 _ _).trans (flt hc1).2.1) (by decide) (by decide)) ?_
    show own_Ends p e below s _ _ _ T0 (mkF m 6 #[.val (.int i0)] [])
    refine own_step (fun _ => XS.iloadN X0.here hx rfl (hb hby d6_6) rfl) ?_
    show own_Ends p e below s _ _ _ T0 (mkF m 7 #[.val (.int i0)] [(.int i0)])
    by_cases hc7 : (0 : Int32) < i0
    · have hv_f_t := hv_f.trans (if_pos hc7)
      refine own_step (fun _ => XS.ifNo X0.here hx rfl (hb hby d6_7) rfl ((if0 _ _).trans (tlt hc7).2.2.2)) ?_
      show own_Ends p e below s _ _ _ T0 (mkF m 10 #[.val (.int i0)] [])
      refine own_step (fun _ => XS.iconst X0.here hx rfl (hb hby d6_10)) ?_
      show own_Ends p e below s _ _ _ T0 (mkF m 11 #[.val (.int i0)] [(.int (1 : Int32))])
      exact own_retI X0 hx hret hlk (hb hby d6_11) (by decide) (by decide) ⟨congrArg (fun z => some (Value.int z)) hv_f_t.symm, N0, e0⟩
    · have hv_f_f := hv_f.trans (if_neg hc7)
      refine own_step (fun _ => XS.ifYes X0.here hx rfl (pc0 := 7) (pc' := 12) rfl (hb hby d6_7) rfl ((if0 _ _).trans (flt hc7).2.2.2) (by decide) (by decide)) ?_
      show own_Ends p e below s _ _ _ T0 (mkF m 12 #[.val (.int i0)] [])
      refine own_step (fun _ => XS.iconst X0.here hx rfl (hb hby d6_12)) ?_
      show own_Ends p e below s _ _ _ T0 (mkF m 13 #[.val (.int i0)] [(.int (0 : Int32))])
      exact own_retI X0 hx hret hlk (hb hby d6_13) (by decide) (by decide) ⟨congrArg (fun z => some (Value.int z)) hv_f_f.symm, N0, e0⟩
theorem ef_rm6 (m : MethodId) (i0 : Int32) : entryFrame m #[(.int i0)] 1 = mkF m 0 #[.val (.int i0)] [] := by first | (simp [entryFrame, mkF, argsToLocals, Value.category]; done) | rfl
set_option maxRecDepth 65536 in
set_option maxHeartbeats 40000000 in
theorem rm6 (l : Launch) (Z : State) (a0 : Array Value) (hw : ∀ d ∈ tables_1, d.before a0 Z = true) (ws : List Jvm.Cond) (i0 : Int32) (h0 : Heap) (n0 : Nat) (Z0 : n0 ≤ h0.size) :
    MetFree l (⟨"com/example/rollforth/rollforth/log/LogInstantCompareToPinLaw", "sign", "(I)I"⟩ : MethodName) (head1 (Jvm.Cond.code (⟨"com/example/rollforth/rollforth/log/LogInstantCompareToPinLaw", "sign", "(I)I"⟩ : MethodName) method_2_code 1 (some .int) :: ws) ({ frames := 0, cells := 0, slots := 0, locals := 0 } : Room)) (fun a U => a = #[(.int i0)] ∧ Z.Warmed39 U.vm ∧ U.heap = h0) (fun _ _ _ _ _ => True) (fun _ U o U' => ∃ v L, o = .returned v ∧ (own_Q n0 h0 (some (.int (f6_0 i0)))) v U'.heap L ∧ FrameEnd U o U' L ({ frames := 0, cells := 0, slots := 0, locals := 0 } : Room).cells ({ frames := 0, cells := 0, slots := 0, locals := 0 } : Room).slots) := by
  refine MetFree.of_bodySF (plainFor_of_name pn_2) hisR ?_
  intro p e s m args below meth c s₁ Bd hml0 hP hK
  obtain ⟨rfl, hZ, hh⟩ := hP
  have X0 : Stand p l e ({ frames := 0, cells := 0, slots := 0, locals := 0 } : Room) s m #[(.int i0)] below meth c s₁ [] 0 0 := Stand.of_body Bd
  have e0 : s₁.heap = h0 := by rw [← hh, Bd.state]; rfl
  have C : own_C "com/example/rollforth/rollforth/log/LogInstantCompareToPinLaw" method_2_code 1 (some .int) "sign" p s m meth c Z a0 := ⟨Bd.exec, hZ, hw, Bd.bytes, hml0, findClass_of_methodNamed Bd.named, Bd.returns, Bd.notSynchronized, (name_of_methodNamed Bd.named Bd.method).1⟩
  have r := b6_0 C Z0 X0 e0 (Fr.nil n0) i0 _ rfl
  rw [ef_rm6 m i0]
  exact r
def own_Q1 (Z : State) (n0 : Nat) (h0 : Heap) (o0 : Addr) (j1 j2 : Int64) (v : Option Value) (h : Heap) (L : List Loc) : Prop :=
  v = none ∧ Fr n0 L ∧ Keep h0 h [o0] ∧ Exa Z h o0 "com/example/rollforth/rollforth/log/LogInstant" ∧ Fld Z h o0 "com/example/rollforth/rollforth/log/LogInstant" "file" "J" (.long j1) ∧ Fld Z h o0 "com/example/rollforth/rollforth/log/LogInstant" "offset" "J" (.long j2)
def own_cmp (x1 x2 y1 y2 : Int64) : Int32 := if f5_0 x1 y1 = 0 then f5_0 x2 y2 else f5_0 x1 y1
theorem own_nn63 (x : Int64) : ¬ (x &&& (9223372036854775807 : Int64)) < 0 := by
  have h1 : (x &&& (9223372036854775807 : Int64)).toBitVec.toNat = x.toBitVec.toNat % 2 ^ 63 := by
    show (x.toBitVec &&& (9223372036854775807 : Int64).toBitVec).toNat = _
    rw [BitVec.toNat_and, show (9223372036854775807 : Int64).toBitVec.toNat = 2 ^ 63 - 1 from by decide, Nat.and_two_pow_sub_one_eq_mod]
  have h3 : x.toBitVec.toNat % 2 ^ 63 < 2 ^ 63 := Nat.mod_lt _ (Nat.two_pow_pos 63)
  rw [Int64.lt_iff_toInt_lt]
  show ¬ (x &&& (9223372036854775807 : Int64)).toBitVec.toInt < 0
  rw [BitVec.toInt_eq_toNat_cond, h1, if_pos (by omega)]; omega

theorem d1_0 : decode prog_53_method_1_code 0 = .ok (.aload_n 0, 1) := by decide +kernel
theorem d1_1 : decode prog_53_method_1_code 1 = .ok (.invokespecial 1, 3) := by decide +kernel
theorem d1_4 : decode prog_53_method_1_code 4 = .ok (.lload_n 1, 1) := by decide +kernel
theorem d1_5 : decode prog_53_method_1_code 5 = .ok (.lconst 0, 1) := by decide +kernel
theorem d1_6 : decode prog_53_method_1_code 6 = .ok (.lcmp, 1) := by decide +kernel
theorem d1_7 : decode prog_53_method_1_code 7 = .ok (.ifCond .lt 9, 3) := by decide +kernel
theorem d1_10 : decode prog_53_method_1_code 10 = .ok (.lload_n 3, 1) := by decide +kernel
theorem d1_11 : decode prog_53_method_1_code 11 = .ok (.lconst 0, 1) := by decide +kernel
theorem d1_12 : decode prog_53_method_1_code 12 = .ok (.lcmp, 1) := by decide +kernel
theorem d1_13 : decode prog_53_method_1_code 13 = .ok (.ifCond .ge 18, 3) := by decide +kernel
theorem d1_31 : decode prog_53_method_1_code 31 = .ok (.aload_n 0, 1) := by decide +kernel
theorem d1_32 : decode prog_53_method_1_code 32 = .ok (.lload_n 1, 1) := by decide +kernel
theorem d1_33 : decode prog_53_method_1_code 33 = .ok (.putfield 16, 3) := by decide +kernel
theorem d1_36 : decode prog_53_method_1_code 36 = .ok (.aload_n 0, 1) := by decide +kernel
theorem d1_37 : decode prog_53_method_1_code 37 = .ok (.lload_n 3, 1) := by decide +kernel
theorem d1_38 : decode prog_53_method_1_code 38 = .ok (.putfield 22, 3) := by decide +kernel
theorem d1_41 : decode prog_53_method_1_code 41 = .ok (.return_, 1) := by decide +kernel
set_option maxRecDepth 65536 in
set_option maxHeartbeats 40000000 in
theorem b1_0 {p : Program} {l : Launch} {e : Env} {s : State} {m : MethodId} {args : Array Value} {below : List Frame} {meth : Method} {c : Code} {Z : State} {a0 : Array Value} {h0 : Heap} {n0 : Nat} (C : own_C "com/example/rollforth/rollforth/log/LogInstant" prog_53_method_1_code 5 none "<init>" p s m meth c Z a0) (Z0 : n0 ≤ h0.size) {T0 : State} {locs : List Loc} (X0 : Stand p l e ({ frames := 2, cells := 0, slots := 0, locals := 24 } : Room) s m args below meth c T0 locs 0 0) (e0 : T0.heap = h0) (N0 : Fr n0 locs) (o0 : Addr) (j1 : Int64) (j2 : Int64) (Eo : Exa Z h0 o0 "com/example/rollforth/rollforth/log/LogInstant") (Ff : Fld Z h0 o0 "com/example/rollforth/rollforth/log/LogInstant" "file" "J" (.long 0)) (Fo : Fld Z h0 o0 "com/example/rollforth/rollforth/log/LogInstant" "offset" "J" (.long 0)) (g_o0 : n0 ≤ o0) (h1 : ¬ j1 < 0) (h2 : ¬ j2 < 0) :
    own_Ends p e below s ({ frames := 2, cells := 0, slots := 0, locals := 24 } : Room).cells ({ frames := 2, cells := 0, slots := 0, locals := 24 } : Room).slots (own_Q1 Z n0 h0 o0 j1 j2) T0 (mkF m 0 #[.val (.ref o0), .val (.long j1), .second, .val (.long j2), .second] []) := by
  obtain ⟨hx, hZ, hw, hby, hml, hown, hret, hlk, hnm⟩ := C
  have C : own_C "com/example/rollforth/rollforth/log/LogInstant" prog_53_method_1_code 5 none "<init>" p s m meth c Z a0 := ⟨hx, hZ, hw, hby, hml, hown, hret, hlk, hnm⟩
  refine own_step (fun _ => XS.aloadN X0.here hx rfl (hb hby d1_0) rfl rfl) ?_
  show own_Ends p e below s _ _ _ T0 (mkF m 1 #[.val (.ref o0), .val (.long j1), .second, .val (.long j2), .second] [(.ref o0)])
  obtain ⟨_, _, ⟨T4, L4, k4, n4⟩, -, X4, ⟨Lc4, hQ4, l4, y4, z4⟩, st4⟩ := X0.specialBack hx (y := (⟨"java/lang/Record", "<init>", "()V"⟩ : MethodName)) rfl hown (mvT hZ (hw _ (List.mem_of_getElem? (i := 7) rfl))) (mvT hZ (hw _ (List.mem_of_getElem? (i := 8) rfl))) (mvT hZ (hw _ (List.mem_of_getElem? (i := 11) rfl))) (by decide) (backOf (W := 0) (rm2 l Z a0 hw [] o0 h0 n0 Z0) hZ (hw _ (List.mem_of_getElem? (i := 11) rfl)) (hw _ (List.mem_of_getElem? (i := 10) rfl)) (by decide) (by decide)) (g := (mkF m 1 #[.val (.ref o0), .val (.long j1), .second, .val (.long j2), .second] [(.ref o0)])) rfl (by rw [hml]; rfl) (Steps.refl _) (a := o0) (argsL := []) (rest := []) (lenOf pd_0 rfl) rfl (by show 2 * 0 + _ ≤ _; exact Nat.le_of_eq rfl) (hb hby d1_1) (fun _ _ => ⟨rfl, e0, (by decide : 0 + 0 ≤ _), (by decide : 0 + 0 ≤ _)⟩)
  dsimp only [Pt.U, Pt.locs, Pt.cells, Pt.slots] at X4 l4 y4 z4 st4 hQ4
  subst l4 y4 z4
  obtain ⟨rfl, N4q, hh4⟩ := hQ4
  have N4 := Fr.app N0 N4q
  refine own_step (fun _ => st4.trans) ?_
  show own_Ends p e below s _ _ _ T4 (mkF m 4 #[.val (.ref o0), .val (.long j1), .second, .val (.long j2), .second] [])
  refine own_step (fun _ => XS.lloadN X4.here hx rfl (hb hby d1_4) rfl) ?_
  show own_Ends p e below s _ _ _ T4 (mkF m 5 #[.val (.ref o0), .val (.long j1), .second, .val (.long j2), .second] [(.long j1)])
  refine own_step (fun _ => XS.lconst X4.here hx rfl (hb hby d1_5)) ?_
  show own_Ends p e below s _ _ _ T4 (mkF m 6 #[.val (.ref o0), .val (.long j1), .second, .val (.long j2), .second] [(.long (0 : Int64)), (.long j1)])
  refine own_step (fun _ => XS.lcmp X4.here hx rfl (hb hby d1_6) rfl) ?_
  show own_Ends p e below s _ _ _ T4 (mkF m 7 #[.val (.ref o0), .val (.long j1), .second, .val (.long j2), .second] [(.int (lcmpW j1 (0 : Int64)))])
  refine own_step (fun _ => XS.ifNo X4.here hx rfl (hb hby d1_7) rfl ((if0 _ _).trans (flt (fun q => (show ¬ (j1 < (0 : Int64)) from h1) ((lw_lt _ _).mp q))).1)) ?_
  show own_Ends p e below s _ _ _ T4 (mkF m 10 #[.val (.ref o0), .val (.long j1), .second, .val (.long j2), .second] [])
  refine own_step (fun _ => XS.lloadN X4.here hx rfl (hb hby d1_10) rfl) ?_
  show own_Ends p e below s _ _ _ T4 (mkF m 11 #[.val (.ref o0), .val (.long j1), .second, .val (.long j2), .second] [(.long j2)])
  refine own_step (fun _ => XS.lconst X4.here hx rfl (hb hby d1_11)) ?_
  show own_Ends p e below s _ _ _ T4 (mkF m 12 #[.val (.ref o0), .val (.long j1), .second, .val (.long j2), .second] [(.long (0 : Int64)), (.long j2)])
  refine own_step (fun _ => XS.lcmp X4.here hx rfl (hb hby d1_12) rfl) ?_
  show own_Ends p e below s _ _ _ T4 (mkF m 13 #[.val (.ref o0), .val (.long j1), .second, .val (.long j2), .second] [(.int (lcmpW j2 (0 : Int64)))])
  refine own_step (fun _ => XS.ifYes X4.here hx rfl (pc0 := 13) (pc' := 31) rfl (hb hby d1_13) rfl ((if0 _ _).trans (flt (fun q => (show ¬ (j2 < (0 : Int64)) from h2) ((lw_lt _ _).mp q))).2.1) (by decide) (by decide)) ?_
  show own_Ends p e below s _ _ _ T4 (mkF m 31 #[.val (.ref o0), .val (.long j1), .second, .val (.long j2), .second] [])
  refine own_step (fun _ => XS.aloadN X4.here hx rfl (hb hby d1_31) rfl rfl) ?_
  show own_Ends p e below s _ _ _ T4 (mkF m 32 #[.val (.ref o0), .val (.long j1), .second, .val (.long j2), .second] [(.ref o0)])
  refine own_step (fun _ => XS.lloadN X4.here hx rfl (hb hby d1_32) rfl) ?_
  show own_Ends p e below s _ _ _ T4 (mkF m 33 #[.val (.ref o0), .val (.long j1), .second, .val (.long j2), .second] [(.long j1), (.ref o0)])
  obtain ⟨T5, h5, X5, e5, W5, st5⟩ := putF X4 hx hZ hown (host := "") (Or.inl (hw _ (List.mem_of_getElem? (i := 15) rfl))) Via.refl hh4 Ff Eo (Or.inr ⟨(hw _ (List.mem_of_getElem? (i := 16) rfl)), rfl, hnm⟩) (hw _ (List.mem_of_getElem? (i := 2) rfl)) (ty := .long) (by decide) rfl rfl (g := (mkF m 33 #[.val (.ref o0), .val (.long j1), .second, .val (.long j2), .second] [(.long j1), (.ref o0)])) rfl rfl (hb hby d1_33)
  have Fw5 := Ff.same W5
  have K5 : Keep h0 h5 [o0] := (Keep.refl h0 [o0]).wr W5 (Or.inl (List.mem_of_getElem? (i := 0) rfl))
  have Zs5 : n0 ≤ h5.size := (by rw [W5.size]; exact Z0)
  have N5 := Fr.snoc X5 N4 g_o0
  refine own_step st5 ?_
  show own_Ends p e below s _ _ _ T5 (mkF m 36 #[.val (.ref o0), .val (.long j1), .second, .val (.long j2), .second] [])
  refine own_step (fun _ => XS.aloadN X5.here hx rfl (hb hby d1_36) rfl rfl) ?_
  show own_Ends p e below s _ _ _ T5 (mkF m 37 #[.val (.ref o0), .val (.long j1), .second, .val (.long j2), .second] [(.ref o0)])
  refine own_step (fun _ => XS.lloadN X5.here hx rfl (hb hby d1_37) rfl) ?_
  show own_Ends p e below s _ _ _ T5 (mkF m 38 #[.val (.ref o0), .val (.long j1), .second, .val (.long j2), .second] [(.long j2), (.ref o0)])
  obtain ⟨T6, h6, X6, e6, W6, st6⟩ := putF X5 hx hZ hown (host := "") (Or.inl (hw _ (List.mem_of_getElem? (i := 17) rfl))) Via.refl e5 (Fo.other W5 (Or.inr (slot_ne (Or.inr (hw _ (List.mem_of_getElem? (i := 18) rfl))) (Or.inr (hw _ (List.mem_of_getElem? (i := 16) rfl))) (by decide) (t := .long) (t' := .long) (by decide) (by decide)))) (Eo.wr W5) (Or.inr ⟨(hw _ (List.mem_of_getElem? (i := 18) rfl)), rfl, hnm⟩) (hw _ (List.mem_of_getElem? (i := 2) rfl)) (ty := .long) (by decide) rfl rfl (g := (mkF m 38 #[.val (.ref o0), .val (.long j1), .second, .val (.long j2), .second] [(.long j2), (.ref o0)])) rfl rfl (hb hby d1_38)
  have Fw6 := (Fo.other W5 (Or.inr (slot_ne (Or.inr (hw _ (List.mem_of_getElem? (i := 18) rfl))) (Or.inr (hw _ (List.mem_of_getElem? (i := 16) rfl))) (by decide) (t := .long) (t' := .long) (by decide) (by decide)))).same W6
  have K6 : Keep h0 h6 [o0] := K5.wr W6 (Or.inl (List.mem_of_getElem? (i := 0) rfl))
  have Zs6 : n0 ≤ h6.size := (by rw [W6.size]; exact Zs5)
  have N6 := Fr.snoc X6 N5 g_o0
  refine own_step st6 ?_
  show own_Ends p e below s _ _ _ T6 (mkF m 41 #[.val (.ref o0), .val (.long j1), .second, .val (.long j2), .second] [])
  exact own_retV X6 hx hret hlk (hb hby d1_41) (by decide) (by decide) ⟨rfl, N6, (show _ from by rw [e6]; exact K6), (show _ from by rw [e6]; exact ((Eo.wr W5).wr W6)), (show _ from by rw [e6]; exact (Fw5.other W6 (Or.inr (slot_ne (Or.inr (hw _ (List.mem_of_getElem? (i := 16) rfl))) (Or.inr (hw _ (List.mem_of_getElem? (i := 18) rfl))) (by decide) (t := .long) (t' := .long) (by decide) (by decide))))), (show _ from by rw [e6]; exact Fw6)⟩
theorem ef_rm1 (m : MethodId) (o0 : Addr) (j1 : Int64) (j2 : Int64) : entryFrame m #[(.ref o0), (.long j1), (.long j2)] 5 = mkF m 0 #[.val (.ref o0), .val (.long j1), .second, .val (.long j2), .second] [] := by first | (simp [entryFrame, mkF, argsToLocals, Value.category]; done) | rfl
set_option maxRecDepth 65536 in
set_option maxHeartbeats 40000000 in
theorem rm1 (l : Launch) (Z : State) (a0 : Array Value) (hw : ∀ d ∈ tables_1, d.before a0 Z = true) (ws : List Jvm.Cond) (o0 : Addr) (j1 : Int64) (j2 : Int64) (h0 : Heap) (n0 : Nat) (Z0 : n0 ≤ h0.size) (Eo : Exa Z h0 o0 "com/example/rollforth/rollforth/log/LogInstant") (Ff : Fld Z h0 o0 "com/example/rollforth/rollforth/log/LogInstant" "file" "J" (.long 0)) (Fo : Fld Z h0 o0 "com/example/rollforth/rollforth/log/LogInstant" "offset" "J" (.long 0)) (g_o0 : n0 ≤ o0) (h1 : ¬ j1 < 0) (h2 : ¬ j2 < 0) :
    MetFree l (⟨"com/example/rollforth/rollforth/log/LogInstant", "<init>", "(JJ)V"⟩ : MethodName) (head1 (Jvm.Cond.code (⟨"com/example/rollforth/rollforth/log/LogInstant", "<init>", "(JJ)V"⟩ : MethodName) prog_53_method_1_code 5 none :: ws) ({ frames := 2, cells := 0, slots := 0, locals := 24 } : Room)) (fun a U => a = #[(.ref o0), (.long j1), (.long j2)] ∧ Z.Warmed39 U.vm ∧ U.heap = h0) (fun _ _ _ _ _ => True) (fun _ U o U' => ∃ v L, o = .returned v ∧ (own_Q1 Z n0 h0 o0 j1 j2) v U'.heap L ∧ FrameEnd U o U' L ({ frames := 2, cells := 0, slots := 0, locals := 24 } : Room).cells ({ frames := 2, cells := 0, slots := 0, locals := 24 } : Room).slots) := by
  refine MetFree.of_bodySF (plainFor_of_name pn_3) hisR ?_
  intro p e s m args below meth c s₁ Bd hml0 hP hK
  obtain ⟨rfl, hZ, hh⟩ := hP
  have X0 : Stand p l e ({ frames := 2, cells := 0, slots := 0, locals := 24 } : Room) s m #[(.ref o0), (.long j1), (.long j2)] below meth c s₁ [] 0 0 := Stand.of_body Bd
  have e0 : s₁.heap = h0 := by rw [← hh, Bd.state]; rfl
  have C : own_C "com/example/rollforth/rollforth/log/LogInstant" prog_53_method_1_code 5 none "<init>" p s m meth c Z a0 := ⟨Bd.exec, hZ, hw, Bd.bytes, hml0, findClass_of_methodNamed Bd.named, Bd.returns, Bd.notSynchronized, (name_of_methodNamed Bd.named Bd.method).1⟩
  have r := b1_0 C Z0 X0 e0 (Fr.nil n0) o0 j1 j2 Eo Ff Fo g_o0 h1 h2
  rw [ef_rm1 m o0 j1 j2]
  exact r
theorem d4_0 : decode prog_53_method_2_code 0 = .ok (.aload_n 0, 1) := by decide +kernel
theorem d4_1 : decode prog_53_method_2_code 1 = .ok (.getfield 16, 3) := by decide +kernel
theorem d4_4 : decode prog_53_method_2_code 4 = .ok (.aload_n 1, 1) := by decide +kernel
theorem d4_5 : decode prog_53_method_2_code 5 = .ok (.getfield 16, 3) := by decide +kernel
theorem d4_8 : decode prog_53_method_2_code 8 = .ok (.invokestatic 25, 3) := by decide +kernel
theorem d4_11 : decode prog_53_method_2_code 11 = .ok (.istore_n 2, 1) := by decide +kernel
theorem d4_12 : decode prog_53_method_2_code 12 = .ok (.iload_n 2, 1) := by decide +kernel
theorem d4_13 : decode prog_53_method_2_code 13 = .ok (.ifCond .eq 7, 3) := by decide +kernel
theorem d4_16 : decode prog_53_method_2_code 16 = .ok (.iload_n 2, 1) := by decide +kernel
theorem d4_17 : decode prog_53_method_2_code 17 = .ok (.goto 14, 3) := by decide +kernel
theorem d4_20 : decode prog_53_method_2_code 20 = .ok (.aload_n 0, 1) := by decide +kernel
theorem d4_21 : decode prog_53_method_2_code 21 = .ok (.getfield 22, 3) := by decide +kernel
theorem d4_24 : decode prog_53_method_2_code 24 = .ok (.aload_n 1, 1) := by decide +kernel
theorem d4_25 : decode prog_53_method_2_code 25 = .ok (.getfield 22, 3) := by decide +kernel
theorem d4_28 : decode prog_53_method_2_code 28 = .ok (.invokestatic 25, 3) := by decide +kernel
theorem d4_31 : decode prog_53_method_2_code 31 = .ok (.ireturn, 1) := by decide +kernel
def f4_0 (o0 : Addr) (o1 : Addr) (x1 : Int64) (x2 : Int64) (y1 : Int64) (y2 : Int64) : Int32 := (if (f5_0 x1 y1) = (0 : Int32) then (f5_0 x2 y2) else (f5_0 x1 y1))
set_option maxRecDepth 65536 in
set_option maxHeartbeats 40000000 in
theorem b4_0 {p : Program} {l : Launch} {e : Env} {s : State} {m : MethodId} {args : Array Value} {below : List Frame} {meth : Method} {c : Code} {Z : State} {a0 : Array Value} {h0 : Heap} {n0 : Nat} (C : own_C "com/example/rollforth/rollforth/log/LogInstant" prog_53_method_2_code 3 (some .int) "compareTo" p s m meth c Z a0) (Z0 : n0 ≤ h0.size) {T0 : State} {locs : List Loc} (X0 : Stand p l e ({ frames := 1, cells := 0, slots := 0, locals := 15 } : Room) s m args below meth c T0 locs 0 0) (e0 : T0.heap = h0) (N0 : Fr n0 locs) (o0 : Addr) (o1 : Addr) (x1 : Int64) (x2 : Int64) (y1 : Int64) (y2 : Int64) (F1 : Fld Z h0 o0 "com/example/rollforth/rollforth/log/LogInstant" "file" "J" (.long x1)) (F2 : Fld Z h0 o0 "com/example/rollforth/rollforth/log/LogInstant" "offset" "J" (.long x2)) (G1 : Fld Z h0 o1 "com/example/rollforth/rollforth/log/LogInstant" "file" "J" (.long y1)) (G2 : Fld Z h0 o1 "com/example/rollforth/rollforth/log/LogInstant" "offset" "J" (.long y2)) (W : Int32) (hv : W = f4_0 o0 o1 x1 x2 y1 y2) :
    own_Ends p e below s ({ frames := 1, cells := 0, slots := 0, locals := 15 } : Room).cells ({ frames := 1, cells := 0, slots := 0, locals := 15 } : Room).slots (own_Q n0 h0 (some (.int W))) T0 (mkF m 0 #[.val (.ref o0), .val (.ref o1), .unset] []) := by
  obtain ⟨hx, hZ, hw, hby, hml, hown, hret, hlk, hnm⟩ := C
  have C : own_C "com/example/rollforth/rollforth/log/LogInstant" prog_53_method_2_code 3 (some .int) "compareTo" p s m meth c Z a0 := ⟨hx, hZ, hw, hby, hml, hown, hret, hlk, hnm⟩
  unfold f4_0 at hv
  refine own_step (fun _ => XS.aloadN X0.here hx rfl (hb hby d4_0) rfl rfl) ?_
  show own_Ends p e below s _ _ _ T0 (mkF m 1 #[.val (.ref o0), .val (.ref o1), .unset] [(.ref o0)])
  obtain ⟨T7, X7, e7, st7⟩ := getF X0 hx hZ hown (host := "") (Or.inl (hw _ (List.mem_of_getElem? (i := 15) rfl))) Via.refl e0 F1 (g := (mkF m 1 #[.val (.ref o0), .val (.ref o1), .unset] [(.ref o0)])) rfl rfl (hb hby d4_1)
  refine own_step st7 ?_
  show own_Ends p e below s _ _ _ T7 (mkF m 4 #[.val (.ref o0), .val (.ref o1), .unset] [(.long x1)])
  refine own_step (fun _ => XS.aloadN X7.here hx rfl (hb hby d4_4) rfl rfl) ?_
  show own_Ends p e below s _ _ _ T7 (mkF m 5 #[.val (.ref o0), .val (.ref o1), .unset] [(.ref o1), (.long x1)])
  obtain ⟨T8, X8, e8, st8⟩ := getF X7 hx hZ hown (host := "") (Or.inl (hw _ (List.mem_of_getElem? (i := 15) rfl))) Via.refl e7 G1 (g := (mkF m 5 #[.val (.ref o0), .val (.ref o1), .unset] [(.ref o1), (.long x1)])) rfl rfl (hb hby d4_5)
  refine own_step st8 ?_
  show own_Ends p e below s _ _ _ T8 (mkF m 8 #[.val (.ref o0), .val (.ref o1), .unset] [(.long y1), (.long x1)])
  obtain ⟨_, _, ⟨T9, L9, k9, n9⟩, -, X9, ⟨Lc9, hQ9, l9, y9, z9⟩, st9⟩ := Jvm.LawKit.callS X8 hx (y := (⟨"java/lang/Long", "compare", "(JJ)I"⟩ : MethodName)) hown (mvT hZ (hw _ (List.mem_of_getElem? (i := 24) rfl))) (mvT hZ (hw _ (List.mem_of_getElem? (i := 25) rfl))) (mvT hZ (hw _ (List.mem_of_getElem? (i := 26) rfl))) (mvT hZ (hw _ (List.mem_of_getElem? (i := 27) rfl))) (by decide) (backOf (W := 0) (rm5 l Z a0 hw [] x1 y1 h0 n0 Z0) hZ (hw _ (List.mem_of_getElem? (i := 27) rfl)) (hw _ (List.mem_of_getElem? (i := 26) rfl)) (by decide) (by decide)) (g := (mkF m 8 #[.val (.ref o0), .val (.ref o1), .unset] [(.long y1), (.long x1)])) rfl (by rw [hml]; rfl) (argsL := [(.long x1), (.long y1)]) (rest := []) (lenOf pd_1 rfl) rfl (by show 2 * 0 + _ ≤ _; exact Nat.le_of_eq rfl) (hb hby d4_8) (fun _ _ => ⟨rfl, e8, (by decide : 0 + 0 ≤ _), (by decide : 0 + 0 ≤ _)⟩)
  dsimp only [Pt.U, Pt.locs, Pt.cells, Pt.slots] at X9 l9 y9 z9 st9 hQ9
  subst l9 y9 z9
  obtain ⟨rfl, N9q, hh9⟩ := hQ9
  have N9 := Fr.app N0 N9q
  refine own_step st9 ?_
  show own_Ends p e below s _ _ _ T9 (mkF m 11 #[.val (.ref o0), .val (.ref o1), .unset] [(.int (f5_0 x1 y1))])
  refine own_step (fun _ => XS.istoreN X9.here hx rfl (hb hby d4_11) rfl (l' := #[.val (.ref o0), .val (.ref o1), .val (.int (f5_0 x1 y1))]) rfl) ?_
  show own_Ends p e below s _ _ _ T9 (mkF m 12 #[.val (.ref o0), .val (.ref o1), .val (.int (f5_0 x1 y1))] [])
  refine own_step (fun _ => XS.iloadN X9.here hx rfl (hb hby d4_12) rfl) ?_
  show own_Ends p e below s _ _ _ T9 (mkF m 13 #[.val (.ref o0), .val (.ref o1), .val (.int (f5_0 x1 y1))] [(.int (f5_0 x1 y1))])
  by_cases hc13 : (f5_0 x1 y1) = (0 : Int32)
  · have hv_t := hv.trans (if_pos hc13)
    refine own_step (fun _ => XS.ifYes X9.here hx rfl (pc0 := 13) (pc' := 20) rfl (hb hby d4_13) rfl ((if0 _ _).trans (teq hc13).1) (by decide) (by decide)) ?_
    show own_Ends p e below s _ _ _ T9 (mkF m 20 #[.val (.ref o0), .val (.ref o1), .val (.int (f5_0 x1 y1))] [])
    refine own_step (fun _ => XS.aloadN X9.here hx rfl (hb hby d4_20) rfl rfl) ?_
    show own_Ends p e below s _ _ _ T9 (mkF m 21 #[.val (.ref o0), .val (.ref o1), .val (.int (f5_0 x1 y1))] [(.ref o0)])
    obtain ⟨T10, X10, e10, st10⟩ := getF X9 hx hZ hown (host := "") (Or.inl (hw _ (List.mem_of_getElem? (i := 17) rfl))) Via.refl hh9 F2 (g := (mkF m 21 #[.val (.ref o0), .val (.ref o1), .val (.int (f5_0 x1 y1))] [(.ref o0)])) rfl rfl (hb hby d4_21)
    refine own_step st10 ?_
    show own_Ends p e below s _ _ _ T10 (mkF m 24 #[.val (.ref o0), .val (.ref o1), .val (.int (f5_0 x1 y1))] [(.long x2)])
    refine own_step (fun _ => XS.aloadN X10.here hx rfl (hb hby d4_24) rfl rfl) ?_
    show own_Ends p e below s _ _ _ T10 (mkF m 25 #[.val (.ref o0), .val (.ref o1), .val (.int (f5_0 x1 y1))] [(.ref o1), (.long x2)])
    obtain ⟨T11, X11, e11, st11⟩ := getF X10 hx hZ hown (host := "") (Or.inl (hw _ (List.mem_of_getElem? (i := 17) rfl))) Via.refl e10 G2 (g := (mkF m 25 #[.val (.ref o0), .val (.ref o1), .val (.int (f5_0 x1 y1))] [(.ref o1), (.long x2)])) rfl rfl (hb hby d4_25)
    refine own_step st11 ?_
    show own_Ends p e below s _ _ _ T11 (mkF m 28 #[.val (.ref o0), .val (.ref o1), .val (.int (f5_0 x1 y1))] [(.long y2), (.long x2)])
    obtain ⟨_, _, ⟨T12, L12, k12, n12⟩, -, X12, ⟨Lc12, hQ12, l12, y12, z12⟩, st12⟩ := Jvm.LawKit.callS X11 hx (y := (⟨"java/lang/Long", "compare", "(JJ)I"⟩ : MethodName)) hown (mvT hZ (hw _ (List.mem_of_getElem? (i := 24) rfl))) (mvT hZ (hw _ (List.mem_of_getElem? (i := 25) rfl))) (mvT hZ (hw _ (List.mem_of_getElem? (i := 26) rfl))) (mvT hZ (hw _ (List.mem_of_getElem? (i := 27) rfl))) (by decide) (backOf (W := 0) (rm5 l Z a0 hw [] x2 y2 h0 n0 Z0) hZ (hw _ (List.mem_of_getElem? (i := 27) rfl)) (hw _ (List.mem_of_getElem? (i := 26) rfl)) (by decide) (by decide)) (g := (mkF m 28 #[.val (.ref o0), .val (.ref o1), .val (.int (f5_0 x1 y1))] [(.long y2), (.long x2)])) rfl (by rw [hml]; rfl) (argsL := [(.long x2), (.long y2)]) (rest := []) (lenOf pd_1 rfl) rfl (by show 2 * 0 + _ ≤ _; exact Nat.le_of_eq rfl) (hb hby d4_28) (fun _ _ => ⟨rfl, e11, (by decide : 0 + 0 ≤ _), (by decide : 0 + 0 ≤ _)⟩)
    dsimp only [Pt.U, Pt.locs, Pt.cells, Pt.slots] at X12 l12 y12 z12 st12 hQ12
    subst l12 y12 z12
    obtain ⟨rfl, N12q, hh12⟩ := hQ12
    have N12 := Fr.app N9 N12q
    refine own_step st12 ?_
    show own_Ends p e below s _ _ _ T12 (mkF m 31 #[.val (.ref o0), .val (.ref o1), .val (.int (f5_0 x1 y1))] [(.int (f5_0 x2 y2))])
    exact own_retI X12 hx hret hlk (hb hby d4_31) (by decide) (by decide) ⟨congrArg (fun z => some (Value.int z)) hv_t.symm, N12, hh12⟩
  · have hv_f := hv.trans (if_neg hc13)
    refine own_step (fun _ => XS.ifNo X9.here hx rfl (hb hby d4_13) rfl ((if0 _ _).trans (feq hc13).1)) ?_
    show own_Ends p e below s _ _ _ T9 (mkF m 16 #[.val (.ref o0), .val (.ref o1), .val (.int (f5_0 x1 y1))] [])
    refine own_step (fun _ => XS.iloadN X9.here hx rfl (hb hby d4_16) rfl) ?_
    show own_Ends p e below s _ _ _ T9 (mkF m 17 #[.val (.ref o0), .val (.ref o1), .val (.int (f5_0 x1 y1))] [(.int (f5_0 x1 y1))])
    refine own_step (fun _ => XS.goto X9.here hx rfl (pc0 := 17) (pc' := 31) rfl (hb hby d4_17) (by decide) (by decide)) ?_
    show own_Ends p e below s _ _ _ T9 (mkF m 31 #[.val (.ref o0), .val (.ref o1), .val (.int (f5_0 x1 y1))] [(.int (f5_0 x1 y1))])
    exact own_retI X9 hx hret hlk (hb hby d4_31) (by decide) (by decide) ⟨congrArg (fun z => some (Value.int z)) hv_f.symm, N9, hh9⟩
theorem ef_rm4 (m : MethodId) (o0 : Addr) (o1 : Addr) : entryFrame m #[(.ref o0), (.ref o1)] 3 = mkF m 0 #[.val (.ref o0), .val (.ref o1), .unset] [] := by first | (simp [entryFrame, mkF, argsToLocals, Value.category]; done) | rfl
set_option maxRecDepth 65536 in
set_option maxHeartbeats 40000000 in
theorem rm4 (l : Launch) (Z : State) (a0 : Array Value) (hw : ∀ d ∈ tables_1, d.before a0 Z = true) (ws : List Jvm.Cond) (o0 : Addr) (o1 : Addr) (x1 : Int64) (x2 : Int64) (y1 : Int64) (y2 : Int64) (h0 : Heap) (n0 : Nat) (Z0 : n0 ≤ h0.size) (F1 : Fld Z h0 o0 "com/example/rollforth/rollforth/log/LogInstant" "file" "J" (.long x1)) (F2 : Fld Z h0 o0 "com/example/rollforth/rollforth/log/LogInstant" "offset" "J" (.long x2)) (G1 : Fld Z h0 o1 "com/example/rollforth/rollforth/log/LogInstant" "file" "J" (.long y1)) (G2 : Fld Z h0 o1 "com/example/rollforth/rollforth/log/LogInstant" "offset" "J" (.long y2)) :
    MetFree l (⟨"com/example/rollforth/rollforth/log/LogInstant", "compareTo", "(Lcom/example/rollforth/rollforth/log/LogInstant;)I"⟩ : MethodName) (head1 (Jvm.Cond.code (⟨"com/example/rollforth/rollforth/log/LogInstant", "compareTo", "(Lcom/example/rollforth/rollforth/log/LogInstant;)I"⟩ : MethodName) prog_53_method_2_code 3 (some .int) :: ws) ({ frames := 1, cells := 0, slots := 0, locals := 15 } : Room)) (fun a U => a = #[(.ref o0), (.ref o1)] ∧ Z.Warmed39 U.vm ∧ U.heap = h0) (fun _ _ _ _ _ => True) (fun _ U o U' => ∃ v L, o = .returned v ∧ (own_Q n0 h0 (some (.int (f4_0 o0 o1 x1 x2 y1 y2)))) v U'.heap L ∧ FrameEnd U o U' L ({ frames := 1, cells := 0, slots := 0, locals := 15 } : Room).cells ({ frames := 1, cells := 0, slots := 0, locals := 15 } : Room).slots) := by
  refine MetFree.of_bodySF (plainFor_of_name pn_3) hisR ?_
  intro p e s m args below meth c s₁ Bd hml0 hP hK
  obtain ⟨rfl, hZ, hh⟩ := hP
  have X0 : Stand p l e ({ frames := 1, cells := 0, slots := 0, locals := 15 } : Room) s m #[(.ref o0), (.ref o1)] below meth c s₁ [] 0 0 := Stand.of_body Bd
  have e0 : s₁.heap = h0 := by rw [← hh, Bd.state]; rfl
  have C : own_C "com/example/rollforth/rollforth/log/LogInstant" prog_53_method_2_code 3 (some .int) "compareTo" p s m meth c Z a0 := ⟨Bd.exec, hZ, hw, Bd.bytes, hml0, findClass_of_methodNamed Bd.named, Bd.returns, Bd.notSynchronized, (name_of_methodNamed Bd.named Bd.method).1⟩
  have r := b4_0 C Z0 X0 e0 (Fr.nil n0) o0 o1 x1 x2 y1 y2 F1 F2 G1 G2 _ rfl
  rw [ef_rm4 m o0 o1]
  exact r
def f0_52 (j0 : Int64) (j1 : Int64) (j2 : Int64) (j3 : Int64) (i4 : Int32) (js0_32 : Int64) (js0_52 : Int64) : Int32 := (if (j0 &&& (9223372036854775807 : Int64)) < js0_32 then (if (f6_0 (own_cmp (j0 &&& (9223372036854775807 : Int64)) (j1 &&& (9223372036854775807 : Int64)) js0_32 js0_52)) = (-1 : Int32) then (if (f6_0 (own_cmp js0_32 js0_52 (j0 &&& (9223372036854775807 : Int64)) (j1 &&& (9223372036854775807 : Int64)))) = (-(-1 : Int32)) then (1 : Int32) else (0 : Int32)) else (0 : Int32)) else (if js0_32 < (j0 &&& (9223372036854775807 : Int64)) then (if (f6_0 (own_cmp (j0 &&& (9223372036854775807 : Int64)) (j1 &&& (9223372036854775807 : Int64)) js0_32 js0_52)) = (1 : Int32) then (if (f6_0 (own_cmp js0_32 js0_52 (j0 &&& (9223372036854775807 : Int64)) (j1 &&& (9223372036854775807 : Int64)))) = (-(1 : Int32)) then (1 : Int32) else (0 : Int32)) else (0 : Int32)) else (if (j1 &&& (9223372036854775807 : Int64)) < js0_52 then (if (f6_0 (own_cmp (j0 &&& (9223372036854775807 : Int64)) (j1 &&& (9223372036854775807 : Int64)) js0_32 js0_52)) = (-1 : Int32) then (if (f6_0 (own_cmp js0_32 js0_52 (j0 &&& (9223372036854775807 : Int64)) (j1 &&& (9223372036854775807 : Int64)))) = (-(-1 : Int32)) then (1 : Int32) else (0 : Int32)) else (0 : Int32)) else (if js0_52 < (j1 &&& (9223372036854775807 : Int64)) then (if (f6_0 (own_cmp (j0 &&& (9223372036854775807 : Int64)) (j1 &&& (9223372036854775807 : Int64)) js0_32 js0_52)) = (1 : Int32) then (if (f6_0 (own_cmp js0_32 js0_52 (j0 &&& (9223372036854775807 : Int64)) (j1 &&& (9223372036854775807 : Int64)))) = (-(1 : Int32)) then (1 : Int32) else (0 : Int32)) else (0 : Int32)) else (if (f6_0 (own_cmp (j0 &&& (9223372036854775807 : Int64)) (j1 &&& (9223372036854775807 : Int64)) js0_32 js0_52)) = (0 : Int32) then (if (f6_0 (own_cmp js0_32 js0_52 (j0 &&& (9223372036854775807 : Int64)) (j1 &&& (9223372036854775807 : Int64)))) = (-(0 : Int32)) then (1 : Int32) else (0 : Int32)) else (0 : Int32))))))
set_option maxRecDepth 65536 in
set_option maxHeartbeats 40000000 in
theorem b0_52 {p : Program} {l : Launch} {e : Env} {s : State} {m : MethodId} {args : Array Value} {below : List Frame} {meth : Method} {c : Code} {Z : State} {a0 : Array Value} {h0 : Heap} {n0 : Nat} (C : own_C "com/example/rollforth/rollforth/log/LogInstantCompareToPinLaw" code maxLocals ret x.name p s m meth c Z a0) (Z0 : n0 ≤ h0.size) {T0 : State} {locs : List Loc} (X0 : Stand p l e room_1 s m args below meth c T0 locs 0 0) (e0 : T0.heap = h0) (N0 : Fr n0 locs) (j0 : Int64) (j1 : Int64) (j2 : Int64) (j3 : Int64) (i4 : Int32) (js0_32 : Int64) (js0_52 : Int64) (hn32 : ¬ js0_32 < 0) (hn52 : ¬ js0_52 < 0) (W : Int32) (hv : W = f0_52 j0 j1 j2 j3 i4 js0_32 js0_52) :
    own_Ends p e below s room_1.cells room_1.slots (own_QL n0 (some (.int W))) T0 (mkF m 52 #[.val (.long j0), .second, .val (.long j1), .second, .val (.long j2), .second, .val (.long j3), .second, .val (.int i4), .val (.long (j0 &&& (9223372036854775807 : Int64))), .second, .val (.long (j1 &&& (9223372036854775807 : Int64))), .second, .val (.long js0_32), .second, .unset, .unset, .unset, .unset, .unset, .unset, .unset] [(.long js0_52)]) := by
  obtain ⟨hx, hZ, hw, hby, hml, hown, hret, hlk, hnm⟩ := C
  have C : own_C "com/example/rollforth/rollforth/log/LogInstantCompareToPinLaw" code maxLocals ret x.name p s m meth c Z a0 := ⟨hx, hZ, hw, hby, hml, hown, hret, hlk, hnm⟩
  unfold f0_52 at hv
  refine own_step (fun _ => XS.lstore X0.here hx rfl (hb hby at_52) rfl (l' := #[.val (.long j0), .second, .val (.long j1), .second, .val (.long j2), .second, .val (.long j3), .second, .val (.int i4), .val (.long (j0 &&& (9223372036854775807 : Int64))), .second, .val (.long (j1 &&& (9223372036854775807 : Int64))), .second, .val (.long js0_32), .second, .val (.long js0_52), .second, .unset, .unset, .unset, .unset, .unset]) rfl) ?_
  show own_Ends p e below s _ _ _ T0 (mkF m 54 #[.val (.long j0), .second, .val (.long j1), .second, .val (.long j2), .second, .val (.long j3), .second, .val (.int i4), .val (.long (j0 &&& (9223372036854775807 : Int64))), .second, .val (.long (j1 &&& (9223372036854775807 : Int64))), .second, .val (.long js0_32), .second, .val (.long js0_52), .second, .unset, .unset, .unset, .unset, .unset] [])
  obtain ⟨T49, h49, X49, e49, E49, A49, D49, U49, st49⟩ := newO X0 hx hZ hown (hw _ (List.mem_of_getElem? (i := 1) rfl)) (hw _ (List.mem_of_getElem? (i := 2) rfl)) (hw _ (List.mem_of_getElem? (i := 3) rfl)) e0 (g := (mkF m 54 #[.val (.long j0), .second, .val (.long j1), .second, .val (.long j2), .second, .val (.long j3), .second, .val (.int i4), .val (.long (j0 &&& (9223372036854775807 : Int64))), .second, .val (.long (j1 &&& (9223372036854775807 : Int64))), .second, .val (.long js0_32), .second, .val (.long js0_52), .second, .unset, .unset, .unset, .unset, .unset] [])) rfl (hb hby at_54) (by decide) (by decide)
  obtain ⟨b49, g49⟩ : ∃ z, z = h0.size := ⟨_, rfl⟩
  rw [← g49] at A49 D49 U49 st49
  have g_b49 : n0 ≤ b49 := Nat.le_trans Z0 (Nat.le_of_eq g49.symm)
  have Zs49 : n0 ≤ h49.size := Nat.le_trans Z0 E49.1
  have F49_file : Fld Z h49 b49 "com/example/rollforth/rollforth/log/LogInstant" "file" "J" (.long (0 : Int64)) := D49 (Or.inr (hw _ (List.mem_of_getElem? (i := 16) rfl))) (ty := .long) (by decide)
  have F49_offset : Fld Z h49 b49 "com/example/rollforth/rollforth/log/LogInstant" "offset" "J" (.long (0 : Int64)) := D49 (Or.inr (hw _ (List.mem_of_getElem? (i := 18) rfl))) (ty := .long) (by decide)
  refine own_step st49 ?_
  show own_Ends p e below s _ _ _ T49 (mkF m 57 #[.val (.long j0), .second, .val (.long j1), .second, .val (.long j2), .second, .val (.long j3), .second, .val (.int i4), .val (.long (j0 &&& (9223372036854775807 : Int64))), .second, .val (.long (j1 &&& (9223372036854775807 : Int64))), .second, .val (.long js0_32), .second, .val (.long js0_52), .second, .unset, .unset, .unset, .unset, .unset] [(.ref b49)])
  refine own_step (fun _ => XS.dup X49.here hx rfl (hb hby at_57) rfl rfl) ?_
  show own_Ends p e below s _ _ _ T49 (mkF m 58 #[.val (.long j0), .second, .val (.long j1), .second, .val (.long j2), .second, .val (.long j3), .second, .val (.int i4), .val (.long (j0 &&& (9223372036854775807 : Int64))), .second, .val (.long (j1 &&& (9223372036854775807 : Int64))), .second, .val (.long js0_32), .second, .val (.long js0_52), .second, .unset, .unset, .unset, .unset, .unset] [(.ref b49), (.ref b49)])
  refine own_step (fun _ => XS.lload X49.here hx rfl (hb hby at_58) rfl) ?_
  show own_Ends p e below s _ _ _ T49 (mkF m 60 #[.val (.long j0), .second, .val (.long j1), .second, .val (.long j2), .second, .val (.long j3), .second, .val (.int i4), .val (.long (j0 &&& (9223372036854775807 : Int64))), .second, .val (.long (j1 &&& (9223372036854775807 : Int64))), .second, .val (.long js0_32), .second, .val (.long js0_52), .second, .unset, .unset, .unset, .unset, .unset] [(.long (j0 &&& (9223372036854775807 : Int64))), (.ref b49), (.ref b49)])
  refine own_step (fun _ => XS.lload X49.here hx rfl (hb hby at_60) rfl) ?_
  show own_Ends p e below s _ _ _ T49 (mkF m 62 #[.val (.long j0), .second, .val (.long j1), .second, .val (.long j2), .second, .val (.long j3), .second, .val (.int i4), .val (.long (j0 &&& (9223372036854775807 : Int64))), .second, .val (.long (j1 &&& (9223372036854775807 : Int64))), .second, .val (.long js0_32), .second, .val (.long js0_52), .second, .unset, .unset, .unset, .unset, .unset] [(.long (j1 &&& (9223372036854775807 : Int64))), (.long (j0 &&& (9223372036854775807 : Int64))), (.ref b49), (.ref b49)])
  obtain ⟨_, _, ⟨T50, L50, k50, n50⟩, -, X50, ⟨Lc50, hQ50, l50, y50, z50⟩, st50⟩ := X49.specialBack hx (y := (⟨"com/example/rollforth/rollforth/log/LogInstant", "<init>", "(JJ)V"⟩ : MethodName)) rfl hown (mvT hZ (hw _ (List.mem_of_getElem? (i := 4) rfl))) (mvT hZ (hw _ (List.mem_of_getElem? (i := 5) rfl))) (mvT hZ (hw _ (List.mem_of_getElem? (i := 6) rfl))) (by decide) (backOf (W := 1) (rm1 l Z a0 hw [] b49 (j0 &&& (9223372036854775807 : Int64)) (j1 &&& (9223372036854775807 : Int64)) h49 n0 Zs49 A49 F49_file F49_offset g_b49 (own_nn63 _) (own_nn63 _)) hZ (hw _ (List.mem_of_getElem? (i := 6) rfl)) (hw _ (List.mem_of_getElem? (i := 3) rfl)) (by decide) (by decide)) (g := (mkF m 62 #[.val (.long j0), .second, .val (.long j1), .second, .val (.long j2), .second, .val (.long j3), .second, .val (.int i4), .val (.long (j0 &&& (9223372036854775807 : Int64))), .second, .val (.long (j1 &&& (9223372036854775807 : Int64))), .second, .val (.long js0_32), .second, .val (.long js0_52), .second, .unset, .unset, .unset, .unset, .unset] [(.long (j1 &&& (9223372036854775807 : Int64))), (.long (j0 &&& (9223372036854775807 : Int64))), (.ref b49), (.ref b49)])) rfl (by rw [hml]; rfl) (Steps.refl _) (a := b49) (argsL := [(.long (j0 &&& (9223372036854775807 : Int64))), (.long (j1 &&& (9223372036854775807 : Int64)))]) (rest := [(.ref b49)]) (lenOf pd_2 rfl) rfl (by show 2 * 0 + _ ≤ _; exact Nat.le_of_eq rfl) (hb hby at_62) (fun _ _ => ⟨rfl, e49, (by decide : 1 + 0 ≤ _), (by decide : 2 + 0 ≤ _)⟩)
  dsimp only [Pt.U, Pt.locs, Pt.cells, Pt.slots] at X50 l50 y50 z50 st50 hQ50
  subst l50 y50 z50
  obtain ⟨rfl, N50q, K50, Ex50, F50a, F50b⟩ := hQ50
  have N50 := Fr.app N0 N50q
  have Zs50 : n0 ≤ T50.heap.size := Nat.le_trans Zs49 K50.1
  refine own_step (fun _ => st50.trans) ?_
  show own_Ends p e below s _ _ _ T50 (mkF m 65 #[.val (.long j0), .second, .val (.long j1), .second, .val (.long j2), .second, .val (.long j3), .second, .val (.int i4), .val (.long (j0 &&& (9223372036854775807 : Int64))), .second, .val (.long (j1 &&& (9223372036854775807 : Int64))), .second, .val (.long js0_32), .second, .val (.long js0_52), .second, .unset, .unset, .unset, .unset, .unset] [(.ref b49)])
  refine own_step (fun _ => XS.astore X50.here hx rfl (hb hby at_65) rfl rfl (l' := #[.val (.long j0), .second, .val (.long j1), .second, .val (.long j2), .second, .val (.long j3), .second, .val (.int i4), .val (.long (j0 &&& (9223372036854775807 : Int64))), .second, .val (.long (j1 &&& (9223372036854775807 : Int64))), .second, .val (.long js0_32), .second, .val (.long js0_52), .second, .val (.ref b49), .unset, .unset, .unset, .unset]) rfl) ?_
  show own_Ends p e below s _ _ _ T50 (mkF m 67 #[.val (.long j0), .second, .val (.long j1), .second, .val (.long j2), .second, .val (.long j3), .second, .val (.int i4), .val (.long (j0 &&& (9223372036854775807 : Int64))), .second, .val (.long (j1 &&& (9223372036854775807 : Int64))), .second, .val (.long js0_32), .second, .val (.long js0_52), .second, .val (.ref b49), .unset, .unset, .unset, .unset] [])
  obtain ⟨T51, h51, X51, e51, E51, A51, D51, U51, st51⟩ := newO X50 hx hZ hown (hw _ (List.mem_of_getElem? (i := 1) rfl)) (hw _ (List.mem_of_getElem? (i := 2) rfl)) (hw _ (List.mem_of_getElem? (i := 3) rfl)) rfl (g := (mkF m 67 #[.val (.long j0), .second, .val (.long j1), .second, .val (.long j2), .second, .val (.long j3), .second, .val (.int i4), .val (.long (j0 &&& (9223372036854775807 : Int64))), .second, .val (.long (j1 &&& (9223372036854775807 : Int64))), .second, .val (.long js0_32), .second, .val (.long js0_52), .second, .val (.ref b49), .unset, .unset, .unset, .unset] [])) rfl (hb hby at_67) (by decide) (by decide)
  obtain ⟨b51, g51⟩ : ∃ z, z = T50.heap.size := ⟨_, rfl⟩
  rw [← g51] at A51 D51 U51 st51
  have ne_b49_b51 : b49 ≠ b51 := Nat.ne_of_lt (Nat.lt_of_lt_of_le Ex50.lt (Nat.le_of_eq g51.symm))
  have g_b51 : n0 ≤ b51 := Nat.le_trans Zs50 (Nat.le_of_eq g51.symm)
  have Zs51 : n0 ≤ h51.size := Nat.le_trans Zs50 E51.1
  have F51_file : Fld Z h51 b51 "com/example/rollforth/rollforth/log/LogInstant" "file" "J" (.long (0 : Int64)) := D51 (Or.inr (hw _ (List.mem_of_getElem? (i := 16) rfl))) (ty := .long) (by decide)
  have F51_offset : Fld Z h51 b51 "com/example/rollforth/rollforth/log/LogInstant" "offset" "J" (.long (0 : Int64)) := D51 (Or.inr (hw _ (List.mem_of_getElem? (i := 18) rfl))) (ty := .long) (by decide)
  refine own_step st51 ?_
  show own_Ends p e below s _ _ _ T51 (mkF m 70 #[.val (.long j0), .second, .val (.long j1), .second, .val (.long j2), .second, .val (.long j3), .second, .val (.int i4), .val (.long (j0 &&& (9223372036854775807 : Int64))), .second, .val (.long (j1 &&& (9223372036854775807 : Int64))), .second, .val (.long js0_32), .second, .val (.long js0_52), .second, .val (.ref b49), .unset, .unset, .unset, .unset] [(.ref b51)])
  refine own_step (fun _ => XS.dup X51.here hx rfl (hb hby at_70) rfl rfl) ?_
  show own_Ends p e below s _ _ _ T51 (mkF m 71 #[.val (.long j0), .second, .val (.long j1), .second, .val (.long j2), .second, .val (.long j3), .second, .val (.int i4), .val (.long (j0 &&& (9223372036854775807 : Int64))), .second, .val (.long (j1 &&& (9223372036854775807 : Int64))), .second, .val (.long js0_32), .second, .val (.long js0_52), .second, .val (.ref b49), .unset, .unset, .unset, .unset] [(.ref b51), (.ref b51)])
  refine own_step (fun _ => XS.lload X51.here hx rfl (hb hby at_71) rfl) ?_
  show own_Ends p e below s _ _ _ T51 (mkF m 73 #[.val (.long j0), .second, .val (.long j1), .second, .val (.long j2), .second, .val (.long j3), .second, .val (.int i4), .val (.long (j0 &&& (9223372036854775807 : Int64))), .second, .val (.long (j1 &&& (9223372036854775807 : Int64))), .second, .val (.long js0_32), .second, .val (.long js0_52), .second, .val (.ref b49), .unset, .unset, .unset, .unset] [(.long js0_32), (.ref b51), (.ref b51)])
  refine own_step (fun _ => XS.lload X51.here hx rfl (hb hby at_73) rfl) ?_
  show own_Ends p e below s _ _ _ T51 (mkF m 75 #[.val (.long j0), .second, .val (.long j1), .second, .val (.long j2), .second, .val (.long j3), .second, .val (.int i4), .val (.long (j0 &&& (9223372036854775807 : Int64))), .second, .val (.long (j1 &&& (9223372036854775807 : Int64))), .second, .val (.long js0_32), .second, .val (.long js0_52), .second, .val (.ref b49), .unset, .unset, .unset, .unset] [(.long js0_52), (.long js0_32), (.ref b51), (.ref b51)])
  obtain ⟨_, _, ⟨T52, L52, k52, n52⟩, -, X52, ⟨Lc52, hQ52, l52, y52, z52⟩, st52⟩ := X51.specialBack hx (y := (⟨"com/example/rollforth/rollforth/log/LogInstant", "<init>", "(JJ)V"⟩ : MethodName)) rfl hown (mvT hZ (hw _ (List.mem_of_getElem? (i := 4) rfl))) (mvT hZ (hw _ (List.mem_of_getElem? (i := 5) rfl))) (mvT hZ (hw _ (List.mem_of_getElem? (i := 6) rfl))) (by decide) (backOf (W := 1) (rm1 l Z a0 hw [] b51 js0_32 js0_52 h51 n0 Zs51 A51 F51_file F51_offset g_b51 hn32 hn52) hZ (hw _ (List.mem_of_getElem? (i := 6) rfl)) (hw _ (List.mem_of_getElem? (i := 3) rfl)) (by decide) (by decide)) (g := (mkF m 75 #[.val (.long j0), .second, .val (.long j1), .second, .val (.long j2), .second, .val (.long j3), .second, .val (.int i4), .val (.long (j0 &&& (9223372036854775807 : Int64))), .second, .val (.long (j1 &&& (9223372036854775807 : Int64))), .second, .val (.long js0_32), .second, .val (.long js0_52), .second, .val (.ref b49), .unset, .unset, .unset, .unset] [(.long js0_52), (.long js0_32), (.ref b51), (.ref b51)])) rfl (by rw [hml]; rfl) (Steps.refl _) (a := b51) (argsL := [(.long js0_32), (.long js0_52)]) (rest := [(.ref b51)]) (lenOf pd_2 rfl) rfl (by show 2 * 0 + _ ≤ _; exact Nat.le_of_eq rfl) (hb hby at_75) (fun _ _ => ⟨rfl, e51, (by decide : 2 + 0 ≤ _), (by decide : 4 + 0 ≤ _)⟩)
  dsimp only [Pt.U, Pt.locs, Pt.cells, Pt.slots] at X52 l52 y52 z52 st52 hQ52
  subst l52 y52 z52
  obtain ⟨rfl, N52q, K52, Ex52, F52a, F52b⟩ := hQ52
  have N52 := Fr.app N50 N52q
  have Zs52 : n0 ≤ T52.heap.size := Nat.le_trans Zs51 K52.1
  refine own_step (fun _ => st52.trans) ?_
  show own_Ends p e below s _ _ _ T52 (mkF m 78 #[.val (.long j0), .second, .val (.long j1), .second, .val (.long j2), .second, .val (.long j3), .second, .val (.int i4), .val (.long (j0 &&& (9223372036854775807 : Int64))), .second, .val (.long (j1 &&& (9223372036854775807 : Int64))), .second, .val (.long js0_32), .second, .val (.long js0_52), .second, .val (.ref b49), .unset, .unset, .unset, .unset] [(.ref b51)])
  refine own_step (fun _ => XS.astore X52.here hx rfl (hb hby at_78) rfl rfl (l' := #[.val (.long j0), .second, .val (.long j1), .second, .val (.long j2), .second, .val (.long j3), .second, .val (.int i4), .val (.long (j0 &&& (9223372036854775807 : Int64))), .second, .val (.long (j1 &&& (9223372036854775807 : Int64))), .second, .val (.long js0_32), .second, .val (.long js0_52), .second, .val (.ref b49), .val (.ref b51), .unset, .unset, .unset]) rfl) ?_
  show own_Ends p e below s _ _ _ T52 (mkF m 80 #[.val (.long j0), .second, .val (.long j1), .second, .val (.long j2), .second, .val (.long j3), .second, .val (.int i4), .val (.long (j0 &&& (9223372036854775807 : Int64))), .second, .val (.long (j1 &&& (9223372036854775807 : Int64))), .second, .val (.long js0_32), .second, .val (.long js0_52), .second, .val (.ref b49), .val (.ref b51), .unset, .unset, .unset] [])
  refine own_step (fun _ => XS.lload X52.here hx rfl (hb hby at_80) rfl) ?_
  show own_Ends p e below s _ _ _ T52 (mkF m 82 #[.val (.long j0), .second, .val (.long j1), .second, .val (.long j2), .second, .val (.long j3), .second, .val (.int i4), .val (.long (j0 &&& (9223372036854775807 : Int64))), .second, .val (.long (j1 &&& (9223372036854775807 : Int64))), .second, .val (.long js0_32), .second, .val (.long js0_52), .second, .val (.ref b49), .val (.ref b51), .unset, .unset, .unset] [(.long (j0 &&& (9223372036854775807 : Int64)))])
  refine own_step (fun _ => XS.lload X52.here hx rfl (hb hby at_82) rfl) ?_
  show own_Ends p e below s _ _ _ T52 (mkF m 84 #[.val (.long j0), .second, .val (.long j1), .second, .val (.long j2), .second, .val (.long j3), .second, .val (.int i4), .val (.long (j0 &&& (9223372036854775807 : Int64))), .second, .val (.long (j1 &&& (9223372036854775807 : Int64))), .second, .val (.long js0_32), .second, .val (.long js0_52), .second, .val (.ref b49), .val (.ref b51), .unset, .unset, .unset] [(.long js0_32), (.long (j0 &&& (9223372036854775807 : Int64)))])
  refine own_step (fun _ => XS.lcmp X52.here hx rfl (hb hby at_84) rfl) ?_
  show own_Ends p e below s _ _ _ T52 (mkF m 85 #[.val (.long j0), .second, .val (.long j1), .second, .val (.long j2), .second, .val (.long j3), .second, .val (.int i4), .val (.long (j0 &&& (9223372036854775807 : Int64))), .second, .val (.long (j1 &&& (9223372036854775807 : Int64))), .second, .val (.long js0_32), .second, .val (.long js0_52), .second, .val (.ref b49), .val (.ref b51), .unset, .unset, .unset] [(.int (lcmpW (j0 &&& (9223372036854775807 : Int64)) js0_32))])
  by_cases hc85 : (j0 &&& (9223372036854775807 : Int64)) < js0_32
  · have hv_t := hv.trans (if_pos hc85)
    refine own_step (fun _ => XS.ifNo X52.here hx rfl (hb hby at_85) rfl ((if0 _ _).trans (tlt ((lw_lt _ _).mpr hc85)).2.1)) ?_
    show own_Ends p e below s _ _ _ T52 (mkF m 88 #[.val (.long j0), .second, .val (.long j1), .second, .val (.long j2), .second, .val (.long j3), .second, .val (.int i4), .val (.long (j0 &&& (9223372036854775807 : Int64))), .second, .val (.long (j1 &&& (9223372036854775807 : Int64))), .second, .val (.long js0_32), .second, .val (.long js0_52), .second, .val (.ref b49), .val (.ref b51), .unset, .unset, .unset] [])
    refine own_step (fun _ => XS.iconst X52.here hx rfl (hb hby at_88)) ?_
    show own_Ends p e below s _ _ _ T52 (mkF m 89 #[.val (.long j0), .second, .val (.long j1), .second, .val (.long j2), .second, .val (.long j3), .second, .val (.int i4), .val (.long (j0 &&& (9223372036854775807 : Int64))), .second, .val (.long (j1 &&& (9223372036854775807 : Int64))), .second, .val (.long js0_32), .second, .val (.long js0_52), .second, .val (.ref b49), .val (.ref b51), .unset, .unset, .unset] [(.int (-1 : Int32))])
    refine own_step (fun _ => XS.istore X52.here hx rfl (hb hby at_89) rfl (l' := #[.val (.long j0), .second, .val (.long j1), .second, .val (.long j2), .second, .val (.long j3), .second, .val (.int i4), .val (.long (j0 &&& (9223372036854775807 : Int64))), .second, .val (.long (j1 &&& (9223372036854775807 : Int64))), .second, .val (.long js0_32), .second, .val (.long js0_52), .second, .val (.ref b49), .val (.ref b51), .val (.int (-1 : Int32)), .unset, .unset]) rfl) ?_
    show own_Ends p e below s _ _ _ T52 (mkF m 91 #[.val (.long j0), .second, .val (.long j1), .second, .val (.long j2), .second, .val (.long j3), .second, .val (.int i4), .val (.long (j0 &&& (9223372036854775807 : Int64))), .second, .val (.long (j1 &&& (9223372036854775807 : Int64))), .second, .val (.long js0_32), .second, .val (.long js0_52), .second, .val (.ref b49), .val (.ref b51), .val (.int (-1 : Int32)), .unset, .unset] [])
    refine own_step (fun _ => XS.goto X52.here hx rfl (pc0 := 91) (pc' := 139) rfl (hb hby at_91) (by decide) (by decide)) ?_
    show own_Ends p e below s _ _ _ T52 (mkF m 139 #[.val (.long j0), .second, .val (.long j1), .second, .val (.long j2), .second, .val (.long j3), .second, .val (.int i4), .val (.long (j0 &&& (9223372036854775807 : Int64))), .second, .val (.long (j1 &&& (9223372036854775807 : Int64))), .second, .val (.long js0_32), .second, .val (.long js0_52), .second, .val (.ref b49), .val (.ref b51), .val (.int (-1 : Int32)), .unset, .unset] [])
    refine own_step (fun _ => XS.aload X52.here hx rfl (hb hby at_139) rfl rfl) ?_
    show own_Ends p e below s _ _ _ T52 (mkF m 141 #[.val (.long j0), .second, .val (.long j1), .second, .val (.long j2), .second, .val (.long j3), .second, .val (.int i4), .val (.long (j0 &&& (9223372036854775807 : Int64))), .second, .val (.long (j1 &&& (9223372036854775807 : Int64))), .second, .val (.long js0_32), .second, .val (.long js0_52), .second, .val (.ref b49), .val (.ref b51), .val (.int (-1 : Int32)), .unset, .unset] [(.ref b49)])
    refine own_step (fun _ => XS.aload X52.here hx rfl (hb hby at_141) rfl rfl) ?_
    show own_Ends p e below s _ _ _ T52 (mkF m 143 #[.val (.long j0), .second, .val (.long j1), .second, .val (.long j2), .second, .val (.long j3), .second, .val (.int i4), .val (.long (j0 &&& (9223372036854775807 : Int64))), .second, .val (.long (j1 &&& (9223372036854775807 : Int64))), .second, .val (.long js0_32), .second, .val (.long js0_52), .second, .val (.ref b49), .val (.ref b51), .val (.int (-1 : Int32)), .unset, .unset] [(.ref b51), (.ref b49)])
    obtain ⟨cq53, kq53, q53a, q53b, q53c⟩ := isOf hZ rfl ((Ex50.ext E51).keep K52)
    obtain ⟨_, _, ⟨T53, L53, k53, n53⟩, -, X53, ⟨Lc53, hQ53, l53, y53, z53⟩, st53⟩ := X52.virtualBack hx (y := (⟨"com/example/rollforth/rollforth/log/LogInstant", "compareTo", "(Lcom/example/rollforth/rollforth/log/LogInstant;)I"⟩ : MethodName)) (z := (⟨"com/example/rollforth/rollforth/log/LogInstant", "compareTo", "(Lcom/example/rollforth/rollforth/log/LogInstant;)I"⟩ : MethodName)) hown (mvT hZ (hw _ (List.mem_of_getElem? (i := 19) rfl))) (mvT hZ (hw _ (List.mem_of_getElem? (i := 20) rfl))) (notFace_of_selects (args := #[]) (mvT hZ (hw _ (List.mem_of_getElem? (i := 22) rfl)))) (mvT hZ (hw _ (List.mem_of_getElem? (i := 22) rfl))) (mvT hZ (hw _ (List.mem_of_getElem? (i := 21) rfl))) (by decide) (backOf (W := 0) (rm4 l Z a0 hw [] b49 b51 (j0 &&& (9223372036854775807 : Int64)) (j1 &&& (9223372036854775807 : Int64)) js0_32 js0_52 T52.heap n0 Zs52 ((F50a.ext E51).keep K52 (ninS ne_b49_b51 nin0)) ((F50b.ext E51).keep K52 (ninS ne_b49_b51 nin0)) F52a F52b) hZ (hw _ (List.mem_of_getElem? (i := 23) rfl)) (hw _ (List.mem_of_getElem? (i := 3) rfl)) (by decide) (by decide)) q53a q53c (g := (mkF m 143 #[.val (.long j0), .second, .val (.long j1), .second, .val (.long j2), .second, .val (.long j3), .second, .val (.int i4), .val (.long (j0 &&& (9223372036854775807 : Int64))), .second, .val (.long (j1 &&& (9223372036854775807 : Int64))), .second, .val (.long js0_32), .second, .val (.long js0_52), .second, .val (.ref b49), .val (.ref b51), .val (.int (-1 : Int32)), .unset, .unset] [(.ref b51), (.ref b49)])) rfl (by rw [hml]; rfl) (Steps.refl _) (argsL := [(.ref b51)]) (rest := []) (lenOf pd_3 rfl) rfl (by show 2 * 0 + _ ≤ _; exact Nat.le_of_eq rfl) (hb hby at_143) (fun _ _ => ⟨rfl, rfl, (by decide : 2 + 0 ≤ _), (by decide : 4 + 0 ≤ _)⟩)
    dsimp only [Pt.U, Pt.locs, Pt.cells, Pt.slots] at X53 l53 y53 z53 st53 hQ53
    subst l53 y53 z53
    obtain ⟨rfl, N53q, hh53⟩ := hQ53
    have N53 := Fr.app N52 N53q
    refine own_step (fun _ => st53.trans) ?_
    show own_Ends p e below s _ _ _ T53 (mkF m 146 #[.val (.long j0), .second, .val (.long j1), .second, .val (.long j2), .second, .val (.long j3), .second, .val (.int i4), .val (.long (j0 &&& (9223372036854775807 : Int64))), .second, .val (.long (j1 &&& (9223372036854775807 : Int64))), .second, .val (.long js0_32), .second, .val (.long js0_52), .second, .val (.ref b49), .val (.ref b51), .val (.int (-1 : Int32)), .unset, .unset] [(.int (own_cmp (j0 &&& (9223372036854775807 : Int64)) (j1 &&& (9223372036854775807 : Int64)) js0_32 js0_52))])
    refine own_step (fun _ => XS.istore X53.here hx rfl (hb hby at_146) rfl (l' := #[.val (.long j0), .second, .val (.long j1), .second, .val (.long j2), .second, .val (.long j3), .second, .val (.int i4), .val (.long (j0 &&& (9223372036854775807 : Int64))), .second, .val (.long (j1 &&& (9223372036854775807 : Int64))), .second, .val (.long js0_32), .second, .val (.long js0_52), .second, .val (.ref b49), .val (.ref b51), .val (.int (-1 : Int32)), .val (.int (own_cmp (j0 &&& (9223372036854775807 : Int64)) (j1 &&& (9223372036854775807 : Int64)) js0_32 js0_52)), .unset]) rfl) ?_
    show own_Ends p e below s _ _ _ T53 (mkF m 148 #[.val (.long j0), .second, .val (.long j1), .second, .val (.long j2), .second, .val (.long j3), .second, .val (.int i4), .val (.long (j0 &&& (9223372036854775807 : Int64))), .second, .val (.long (j1 &&& (9223372036854775807 : Int64))), .second, .val (.long js0_32), .second, .val (.long js0_52), .second, .val (.ref b49), .val (.ref b51), .val (.int (-1 : Int32)), .val (.int (own_cmp (j0 &&& (9223372036854775807 : Int64)) (j1 &&& (9223372036854775807 : Int64)) js0_32 js0_52)), .unset] [])
    refine own_step (fun _ => XS.aload X53.here hx rfl (hb hby at_148) rfl rfl) ?_
    show own_Ends p e below s _ _ _ T53 (mkF m 150 #[.val (.long j0), .second, .val (.long j1), .second, .val (.long j2), .second, .val (.long j3), .second, .val (.int i4), .val (.long (j0 &&& (9223372036854775807 : Int64))), .second, .val (.long (j1 &&& (9223372036854775807 : Int64))), .second, .val (.long js0_32), .second, .val (.long js0_52), .second, .val (.ref b49), .val (.ref b51), .val (.int (-1 : Int32)), .val (.int (own_cmp (j0 &&& (9223372036854775807 : Int64)) (j1 &&& (9223372036854775807 : Int64)) js0_32 js0_52)), .unset] [(.ref b51)])
    refine own_step (fun _ => XS.aload X53.here hx rfl (hb hby at_150) rfl rfl) ?_
    show own_Ends p e below s _ _ _ T53 (mkF m 152 #[.val (.long j0), .second, .val (.long j1), .second, .val (.long j2), .second, .val (.long j3), .second, .val (.int i4), .val (.long (j0 &&& (9223372036854775807 : Int64))), .second, .val (.long (j1 &&& (9223372036854775807 : Int64))), .second, .val (.long js0_32), .second, .val (.long js0_52), .second, .val (.ref b49), .val (.ref b51), .val (.int (-1 : Int32)), .val (.int (own_cmp (j0 &&& (9223372036854775807 : Int64)) (j1 &&& (9223372036854775807 : Int64)) js0_32 js0_52)), .unset] [(.ref b49), (.ref b51)])
    obtain ⟨cq54, kq54, q54a, q54b, q54c⟩ := isOf hZ hh53 Ex52
    obtain ⟨_, _, ⟨T54, L54, k54, n54⟩, -, X54, ⟨Lc54, hQ54, l54, y54, z54⟩, st54⟩ := X53.virtualBack hx (y := (⟨"com/example/rollforth/rollforth/log/LogInstant", "compareTo", "(Lcom/example/rollforth/rollforth/log/LogInstant;)I"⟩ : MethodName)) (z := (⟨"com/example/rollforth/rollforth/log/LogInstant", "compareTo", "(Lcom/example/rollforth/rollforth/log/LogInstant;)I"⟩ : MethodName)) hown (mvT hZ (hw _ (List.mem_of_getElem? (i := 19) rfl))) (mvT hZ (hw _ (List.mem_of_getElem? (i := 20) rfl))) (notFace_of_selects (args := #[]) (mvT hZ (hw _ (List.mem_of_getElem? (i := 22) rfl)))) (mvT hZ (hw _ (List.mem_of_getElem? (i := 22) rfl))) (mvT hZ (hw _ (List.mem_of_getElem? (i := 21) rfl))) (by decide) (backOf (W := 0) (rm4 l Z a0 hw [] b51 b49 js0_32 js0_52 (j0 &&& (9223372036854775807 : Int64)) (j1 &&& (9223372036854775807 : Int64)) T52.heap n0 Zs52 F52a F52b ((F50a.ext E51).keep K52 (ninS ne_b49_b51 nin0)) ((F50b.ext E51).keep K52 (ninS ne_b49_b51 nin0))) hZ (hw _ (List.mem_of_getElem? (i := 23) rfl)) (hw _ (List.mem_of_getElem? (i := 3) rfl)) (by decide) (by decide)) q54a q54c (g := (mkF m 152 #[.val (.long j0), .second, .val (.long j1), .second, .val (.long j2), .second, .val (.long j3), .second, .val (.int i4), .val (.long (j0 &&& (9223372036854775807 : Int64))), .second, .val (.long (j1 &&& (9223372036854775807 : Int64))), .second, .val (.long js0_32), .second, .val (.long js0_52), .second, .val (.ref b49), .val (.ref b51), .val (.int (-1 : Int32)), .val (.int (own_cmp (j0 &&& (9223372036854775807 : Int64)) (j1 &&& (9223372036854775807 : Int64)) js0_32 js0_52)), .unset] [(.ref b49), (.ref b51)])) rfl (by rw [hml]; rfl) (Steps.refl _) (argsL := [(.ref b49)]) (rest := []) (lenOf pd_3 rfl) rfl (by show 2 * 0 + _ ≤ _; exact Nat.le_of_eq rfl) (hb hby at_152) (fun _ _ => ⟨rfl, hh53, (by decide : 2 + 0 ≤ _), (by decide : 4 + 0 ≤ _)⟩)
    dsimp only [Pt.U, Pt.locs, Pt.cells, Pt.slots] at X54 l54 y54 z54 st54 hQ54
    subst l54 y54 z54
    obtain ⟨rfl, N54q, hh54⟩ := hQ54
    have N54 := Fr.app N53 N54q
    refine own_step (fun _ => st54.trans) ?_
    show own_Ends p e below s _ _ _ T54 (mkF m 155 #[.val (.long j0), .second, .val (.long j1), .second, .val (.long j2), .second, .val (.long j3), .second, .val (.int i4), .val (.long (j0 &&& (9223372036854775807 : Int64))), .second, .val (.long (j1 &&& (9223372036854775807 : Int64))), .second, .val (.long js0_32), .second, .val (.long js0_52), .second, .val (.ref b49), .val (.ref b51), .val (.int (-1 : Int32)), .val (.int (own_cmp (j0 &&& (9223372036854775807 : Int64)) (j1 &&& (9223372036854775807 : Int64)) js0_32 js0_52)), .unset] [(.int (own_cmp js0_32 js0_52 (j0 &&& (9223372036854775807 : Int64)) (j1 &&& (9223372036854775807 : Int64))))])
    refine own_step (fun _ => XS.istore X54.here hx rfl (hb hby at_155) rfl (l' := #[.val (.long j0), .second, .val (.long j1), .second, .val (.long j2), .second, .val (.long j3), .second, .val (.int i4), .val (.long (j0 &&& (9223372036854775807 : Int64))), .second, .val (.long (j1 &&& (9223372036854775807 : Int64))), .second, .val (.long js0_32), .second, .val (.long js0_52), .second, .val (.ref b49), .val (.ref b51), .val (.int (-1 : Int32)), .val (.int (own_cmp (j0 &&& (9223372036854775807 : Int64)) (j1 &&& (9223372036854775807 : Int64)) js0_32 js0_52)), .val (.int (own_cmp js0_32 js0_52 (j0 &&& (9223372036854775807 : Int64)) (j1 &&& (9223372036854775807 : Int64))))]) rfl) ?_
    show own_Ends p e below s _ _ _ T54 (mkF m 157 #[.val (.long j0), .second, .val (.long j1), .second, .val (.long j2), .second, .val (.long j3), .second, .val (.int i4), .val (.long (j0 &&& (9223372036854775807 : Int64))), .second, .val (.long (j1 &&& (9223372036854775807 : Int64))), .second, .val (.long js0_32), .second, .val (.long js0_52), .second, .val (.ref b49), .val (.ref b51), .val (.int (-1 : Int32)), .val (.int (own_cmp (j0 &&& (9223372036854775807 : Int64)) (j1 &&& (9223372036854775807 : Int64)) js0_32 js0_52)), .val (.int (own_cmp js0_32 js0_52 (j0 &&& (9223372036854775807 : Int64)) (j1 &&& (9223372036854775807 : Int64))))] [])
    refine own_step (fun _ => XS.iload X54.here hx rfl (hb hby at_157) rfl) ?_
    show own_Ends p e below s _ _ _ T54 (mkF m 159 #[.val (.long j0), .second, .val (.long j1), .second, .val (.long j2), .second, .val (.long j3), .second, .val (.int i4), .val (.long (j0 &&& (9223372036854775807 : Int64))), .second, .val (.long (j1 &&& (9223372036854775807 : Int64))), .second, .val (.long js0_32), .second, .val (.long js0_52), .second, .val (.ref b49), .val (.ref b51), .val (.int (-1 : Int32)), .val (.int (own_cmp (j0 &&& (9223372036854775807 : Int64)) (j1 &&& (9223372036854775807 : Int64)) js0_32 js0_52)), .val (.int (own_cmp js0_32 js0_52 (j0 &&& (9223372036854775807 : Int64)) (j1 &&& (9223372036854775807 : Int64))))] [(.int (own_cmp (j0 &&& (9223372036854775807 : Int64)) (j1 &&& (9223372036854775807 : Int64)) js0_32 js0_52))])
    obtain ⟨_, _, ⟨T55, L55, k55, n55⟩, -, X55, ⟨Lc55, hQ55, l55, y55, z55⟩, st55⟩ := Jvm.LawKit.callS X54 hx (y := (⟨"com/example/rollforth/rollforth/log/LogInstantCompareToPinLaw", "sign", "(I)I"⟩ : MethodName)) hown (mvT hZ (hw _ (List.mem_of_getElem? (i := 28) rfl))) (mvT hZ (hw _ (List.mem_of_getElem? (i := 29) rfl))) (mvT hZ (hw _ (List.mem_of_getElem? (i := 30) rfl))) (mvT hZ (hw _ (List.mem_of_getElem? (i := 31) rfl))) (by decide) (backOf (W := 0) (rm6 l Z a0 hw [] (own_cmp (j0 &&& (9223372036854775807 : Int64)) (j1 &&& (9223372036854775807 : Int64)) js0_32 js0_52) T52.heap n0 Zs52) hZ (hw _ (List.mem_of_getElem? (i := 31) rfl)) (hw _ (List.mem_of_getElem? (i := 30) rfl)) (by decide) (by decide)) (g := (mkF m 159 #[.val (.long j0), .second, .val (.long j1), .second, .val (.long j2), .second, .val (.long j3), .second, .val (.int i4), .val (.long (j0 &&& (9223372036854775807 : Int64))), .second, .val (.long (j1 &&& (9223372036854775807 : Int64))), .second, .val (.long js0_32), .second, .val (.long js0_52), .second, .val (.ref b49), .val (.ref b51), .val (.int (-1 : Int32)), .val (.int (own_cmp (j0 &&& (9223372036854775807 : Int64)) (j1 &&& (9223372036854775807 : Int64)) js0_32 js0_52)), .val (.int (own_cmp js0_32 js0_52 (j0 &&& (9223372036854775807 : Int64)) (j1 &&& (9223372036854775807 : Int64))))] [(.int (own_cmp (j0 &&& (9223372036854775807 : Int64)) (j1 &&& (9223372036854775807 : Int64)) js0_32 js0_52))])) rfl (by rw [hml]; rfl) (argsL := [(.int (own_cmp (j0 &&& (9223372036854775807 : Int64)) (j1 &&& (9223372036854775807 : Int64)) js0_32 js0_52))]) (rest := []) (lenOf pd_4 rfl) rfl (by show 2 * 0 + _ ≤ _; exact Nat.le_of_eq rfl) (hb hby at_159) (fun _ _ => ⟨rfl, hh54, (by decide : 2 + 0 ≤ _), (by decide : 4 + 0 ≤ _)⟩)
    dsimp only [Pt.U, Pt.locs, Pt.cells, Pt.slots] at X55 l55 y55 z55 st55 hQ55
    subst l55 y55 z55
    obtain ⟨rfl, N55q, hh55⟩ := hQ55
    have N55 := Fr.app N54 N55q
    refine own_step st55 ?_
    show own_Ends p e below s _ _ _ T55 (mkF m 162 #[.val (.long j0), .second, .val (.long j1), .second, .val (.long j2), .second, .val (.long j3), .second, .val (.int i4), .val (.long (j0 &&& (9223372036854775807 : Int64))), .second, .val (.long (j1 &&& (9223372036854775807 : Int64))), .second, .val (.long js0_32), .second, .val (.long js0_52), .second, .val (.ref b49), .val (.ref b51), .val (.int (-1 : Int32)), .val (.int (own_cmp (j0 &&& (9223372036854775807 : Int64)) (j1 &&& (9223372036854775807 : Int64)) js0_32 js0_52)), .val (.int (own_cmp js0_32 js0_52 (j0 &&& (9223372036854775807 : Int64)) (j1 &&& (9223372036854775807 : Int64))))] [(.int (f6_0 (own_cmp (j0 &&& (9223372036854775807 : Int64)) (j1 &&& (9223372036854775807 : Int64)) js0_32 js0_52)))])
    refine own_step (fun _ => XS.iload X55.here hx rfl (hb hby at_162) rfl) ?_
    show own_Ends p e below s _ _ _ T55 (mkF m 164 #[.val (.long j0), .second, .val (.long j1), .second, .val (.long j2), .second, .val (.long j3), .second, .val (.int i4), .val (.long (j0 &&& (9223372036854775807 : Int64))), .second, .val (.long (j1 &&& (9223372036854775807 : Int64))), .second, .val (.long js0_32), .second, .val (.long js0_52), .second, .val (.ref b49), .val (.ref b51), .val (.int (-1 : Int32)), .val (.int (own_cmp (j0 &&& (9223372036854775807 : Int64)) (j1 &&& (9223372036854775807 : Int64)) js0_32 js0_52)), .val (.int (own_cmp js0_32 js0_52 (j0 &&& (9223372036854775807 : Int64)) (j1 &&& (9223372036854775807 : Int64))))] [(.int (-1 : Int32)), (.int (f6_0 (own_cmp (j0 &&& (9223372036854775807 : Int64)) (j1 &&& (9223372036854775807 : Int64)) js0_32 js0_52)))])
    by_cases hc164 : (f6_0 (own_cmp (j0 &&& (9223372036854775807 : Int64)) (j1 &&& (9223372036854775807 : Int64)) js0_32 js0_52)) = (-1 : Int32)
    · have hv_t_t := hv_t.trans (if_pos hc164)
      refine own_step (fun _ => XS.icmpNo X55.here hx rfl (hb hby at_164) rfl (teq hc164).2) ?_
      show own_Ends p e below s _ _ _ T55 (mkF m 167 #[.val (.long j0), .second, .val (.long j1), .second, .val (.long j2), .second, .val (.long j3), .second, .val (.int i4), .val (.long (j0 &&& (9223372036854775807 : Int64))), .second, .val (.long (j1 &&& (9223372036854775807 : Int64))), .second, .val (.long js0_32), .second, .val (.long js0_52), .second, .val (.ref b49), .val (.ref b51), .val (.int (-1 : Int32)), .val (.int (own_cmp (j0 &&& (9223372036854775807 : Int64)) (j1 &&& (9223372036854775807 : Int64)) js0_32 js0_52)), .val (.int (own_cmp js0_32 js0_52 (j0 &&& (9223372036854775807 : Int64)) (j1 &&& (9223372036854775807 : Int64))))] [])
      refine own_step (fun _ => XS.iload X55.here hx rfl (hb hby at_167) rfl) ?_
      show own_Ends p e below s _ _ _ T55 (mkF m 169 #[.val (.long j0), .second, .val (.long j1), .second, .val (.long j2), .second, .val (.long j3), .second, .val (.int i4), .val (.long (j0 &&& (9223372036854775807 : Int64))), .second, .val (.long (j1 &&& (9223372036854775807 : Int64))), .second, .val (.long js0_32), .second, .val (.long js0_52), .second, .val (.ref b49), .val (.ref b51), .val (.int (-1 : Int32)), .val (.int (own_cmp (j0 &&& (9223372036854775807 : Int64)) (j1 &&& (9223372036854775807 : Int64)) js0_32 js0_52)), .val (.int (own_cmp js0_32 js0_52 (j0 &&& (9223372036854775807 : Int64)) (j1 &&& (9223372036854775807 : Int64))))] [(.int (own_cmp js0_32 js0_52 (j0 &&& (9223372036854775807 : Int64)) (j1 &&& (9223372036854775807 : Int64))))])
      obtain ⟨_, _, ⟨T56, L56, k56, n56⟩, -, X56, ⟨Lc56, hQ56, l56, y56, z56⟩, st56⟩ := Jvm.LawKit.callS X55 hx (y := (⟨"com/example/rollforth/rollforth/log/LogInstantCompareToPinLaw", "sign", "(I)I"⟩ : MethodName)) hown (mvT hZ (hw _ (List.mem_of_getElem? (i := 28) rfl))) (mvT hZ (hw _ (List.mem_of_getElem? (i := 29) rfl))) (mvT hZ (hw _ (List.mem_of_getElem? (i := 30) rfl))) (mvT hZ (hw _ (List.mem_of_getElem? (i := 31) rfl))) (by decide) (backOf (W := 0) (rm6 l Z a0 hw [] (own_cmp js0_32 js0_52 (j0 &&& (9223372036854775807 : Int64)) (j1 &&& (9223372036854775807 : Int64))) T52.heap n0 Zs52) hZ (hw _ (List.mem_of_getElem? (i := 31) rfl)) (hw _ (List.mem_of_getElem? (i := 30) rfl)) (by decide) (by decide)) (g := (mkF m 169 #[.val (.long j0), .second, .val (.long j1), .second, .val (.long j2), .second, .val (.long j3), .second, .val (.int i4), .val (.long (j0 &&& (9223372036854775807 : Int64))), .second, .val (.long (j1 &&& (9223372036854775807 : Int64))), .second, .val (.long js0_32), .second, .val (.long js0_52), .second, .val (.ref b49), .val (.ref b51), .val (.int (-1 : Int32)), .val (.int (own_cmp (j0 &&& (9223372036854775807 : Int64)) (j1 &&& (9223372036854775807 : Int64)) js0_32 js0_52)), .val (.int (own_cmp js0_32 js0_52 (j0 &&& (9223372036854775807 : Int64)) (j1 &&& (9223372036854775807 : Int64))))] [(.int (own_cmp js0_32 js0_52 (j0 &&& (9223372036854775807 : Int64)) (j1 &&& (9223372036854775807 : Int64))))])) rfl (by rw [hml]; rfl) (argsL := [(.int (own_cmp js0_32 js0_52 (j0 &&& (9223372036854775807 : Int64)) (j1 &&& (9223372036854775807 : Int64))))]) (rest := []) (lenOf pd_4 rfl) rfl (by show 2 * 0 + _ ≤ _; exact Nat.le_of_eq rfl) (hb hby at_169) (fun _ _ => ⟨rfl, hh55, (by decide : 2 + 0 ≤ _), (by decide : 4 + 0 ≤ _)⟩)
      dsimp only [Pt.U, Pt.locs, Pt.cells, Pt.slots] at X56 l56 y56 z56 st56 hQ56
      subst l56 y56 z56
      obtain ⟨rfl, N56q, hh56⟩ := hQ56
      have N56 := Fr.app N55 N56q
      refine own_step st56 ?_
      show own_Ends p e below s _ _ _ T56 (mkF m 172 #[.val (.long j0), .second, .val (.long j1), .second, .val (.long j2), .second, .val (.long j3), .second, .val (.int i4), .val (.long (j0 &&& (9223372036854775807 : Int64))), .second, .val (.long (j1 &&& (9223372036854775807 : Int64))), .second, .val (.long js0_32), .second, .val (.long js0_52), .second, .val (.ref b49), .val (.ref b51), .val (.int (-1 : Int32)), .val (.int (own_cmp (j0 &&& (9223372036854775807 : Int64)) (j1 &&& (9223372036854775807 : Int64)) js0_32 js0_52)), .val (.int (own_cmp js0_32 js0_52 (j0 &&& (9223372036854775807 : Int64)) (j1 &&& (9223372036854775807 : Int64))))] [(.int (f6_0 (own_cmp js0_32 js0_52 (j0 &&& (9223372036854775807 : Int64)) (j1 &&& (9223372036854775807 : Int64)))))])
      refine own_step (fun _ => XS.iload X56.here hx rfl (hb hby at_172) rfl) ?_
      show own_Ends p e below s _ _ _ T56 (mkF m 174 #[.val (.long j0), .second, .val (.long j1), .second, .val (.long j2), .second, .val (.long j3), .second, .val (.int i4), .val (.long (j0 &&& (9223372036854775807 : Int64))), .second, .val (.long (j1 &&& (9223372036854775807 : Int64))), .second, .val (.long js0_32), .second, .val (.long js0_52), .second, .val (.ref b49), .val (.ref b51), .val (.int (-1 : Int32)), .val (.int (own_cmp (j0 &&& (9223372036854775807 : Int64)) (j1 &&& (9223372036854775807 : Int64)) js0_32 js0_52)), .val (.int (own_cmp js0_32 js0_52 (j0 &&& (9223372036854775807 : Int64)) (j1 &&& (9223372036854775807 : Int64))))] [(.int (-1 : Int32)), (.int (f6_0 (own_cmp js0_32 js0_52 (j0 &&& (9223372036854775807 : Int64)) (j1 &&& (9223372036854775807 : Int64)))))])
      refine own_step (fun _ => XS.ineg X56.here hx rfl (hb hby at_174) rfl) ?_
      show own_Ends p e below s _ _ _ T56 (mkF m 175 #[.val (.long j0), .second, .val (.long j1), .second, .val (.long j2), .second, .val (.long j3), .second, .val (.int i4), .val (.long (j0 &&& (9223372036854775807 : Int64))), .second, .val (.long (j1 &&& (9223372036854775807 : Int64))), .second, .val (.long js0_32), .second, .val (.long js0_52), .second, .val (.ref b49), .val (.ref b51), .val (.int (-1 : Int32)), .val (.int (own_cmp (j0 &&& (9223372036854775807 : Int64)) (j1 &&& (9223372036854775807 : Int64)) js0_32 js0_52)), .val (.int (own_cmp js0_32 js0_52 (j0 &&& (9223372036854775807 : Int64)) (j1 &&& (9223372036854775807 : Int64))))] [(.int (-(-1 : Int32))), (.int (f6_0 (own_cmp js0_32 js0_52 (j0 &&& (9223372036854775807 : Int64)) (j1 &&& (9223372036854775807 : Int64)))))])
      by_cases hc175 : (f6_0 (own_cmp js0_32 js0_52 (j0 &&& (9223372036854775807 : Int64)) (j1 &&& (9223372036854775807 : Int64)))) = (-(-1 : Int32))
      · have hv_t_t_t := hv_t_t.trans (if_pos hc175)
        refine own_step (fun _ => XS.icmpNo X56.here hx rfl (hb hby at_175) rfl (teq hc175).2) ?_
        show own_Ends p e below s _ _ _ T56 (mkF m 178 #[.val (.long j0), .second, .val (.long j1), .second, .val (.long j2), .second, .val (.long j3), .second, .val (.int i4), .val (.long (j0 &&& (9223372036854775807 : Int64))), .second, .val (.long (j1 &&& (9223372036854775807 : Int64))), .second, .val (.long js0_32), .second, .val (.long js0_52), .second, .val (.ref b49), .val (.ref b51), .val (.int (-1 : Int32)), .val (.int (own_cmp (j0 &&& (9223372036854775807 : Int64)) (j1 &&& (9223372036854775807 : Int64)) js0_32 js0_52)), .val (.int (own_cmp js0_32 js0_52 (j0 &&& (9223372036854775807 : Int64)) (j1 &&& (9223372036854775807 : Int64))))] [])
        refine own_step (fun _ => XS.iconst X56.here hx rfl (hb hby at_178)) ?_
        show own_Ends p e below s _ _ _ T56 (mkF m 179 #[.val (.long j0), .second, .val (.long j1), .second, .val (.long j2), .second, .val (.long j3), .second, .val (.int i4), .val (.long (j0 &&& (9223372036854775807 : Int64))), .second, .val (.long (j1 &&& (9223372036854775807 : Int64))), .second, .val (.long js0_32), .second, .val (.long js0_52), .second, .val (.ref b49), .val (.ref b51), .val (.int (-1 : Int32)), .val (.int (own_cmp (j0 &&& (9223372036854775807 : Int64)) (j1 &&& (9223372036854775807 : Int64)) js0_32 js0_52)), .val (.int (own_cmp js0_32 js0_52 (j0 &&& (9223372036854775807 : Int64)) (j1 &&& (9223372036854775807 : Int64))))] [(.int (1 : Int32))])
        refine own_step (fun _ => XS.goto X56.here hx rfl (pc0 := 179) (pc' := 183) rfl (hb hby at_179) (by decide) (by decide)) ?_
        show own_Ends p e below s _ _ _ T56 (mkF m 183 #[.val (.long j0), .second, .val (.long j1), .second, .val (.long j2), .second, .val (.long j3), .second, .val (.int i4), .val (.long (j0 &&& (9223372036854775807 : Int64))), .second, .val (.long (j1 &&& (9223372036854775807 : Int64))), .second, .val (.long js0_32), .second, .val (.long js0_52), .second, .val (.ref b49), .val (.ref b51), .val (.int (-1 : Int32)), .val (.int (own_cmp (j0 &&& (9223372036854775807 : Int64)) (j1 &&& (9223372036854775807 : Int64)) js0_32 js0_52)), .val (.int (own_cmp js0_32 js0_52 (j0 &&& (9223372036854775807 : Int64)) (j1 &&& (9223372036854775807 : Int64))))] [(.int (1 : Int32))])
        exact own_retN X56 (t := .boolean) hx hret hlk (hb hby at_183) (by decide) (by decide) (by simp) ⟨congrArg (fun z => some (Value.int z)) hv_t_t_t.symm, N56, trivial⟩
      · have hv_t_t_f := hv_t_t.trans (if_neg hc175)
        refine own_step (fun _ => XS.icmpYes X56.here hx rfl (pc0 := 175) (pc' := 182) rfl (hb hby at_175) rfl (feq hc175).2 (by decide) (by decide)) ?_
        show own_Ends p e below s _ _ _ T56 (mkF m 182 #[.val (.long j0), .second, .val (.long j1), .second, .val (.long j2), .second, .val (.long j3), .second, .val (.int i4), .val (.long (j0 &&& (9223372036854775807 : Int64))), .second, .val (.long (j1 &&& (9223372036854775807 : Int64))), .second, .val (.long js0_32), .second, .val (.long js0_52), .second, .val (.ref b49), .val (.ref b51), .val (.int (-1 : Int32)), .val (.int (own_cmp (j0 &&& (9223372036854775807 : Int64)) (j1 &&& (9223372036854775807 : Int64)) js0_32 js0_52)), .val (.int (own_cmp js0_32 js0_52 (j0 &&& (9223372036854775807 : Int64)) (j1 &&& (9223372036854775807 : Int64))))] [])
        refine own_step (fun _ => XS.iconst X56.here hx rfl (hb hby at_182)) ?_
        show own_Ends p e below s _ _ _ T56 (mkF m 183 #[.val (.long j0), .second, .val (.long j1), .second, .val (.long j2), .second, .val (.long j3), .second, .val (.int i4), .val (.long (j0 &&& (9223372036854775807 : Int64))), .second, .val (.long (j1 &&& (9223372036854775807 : Int64))), .second, .val (.long js0_32), .second, .val (.long js0_52), .second, .val (.ref b49), .val (.ref b51), .val (.int (-1 : Int32)), .val (.int (own_cmp (j0 &&& (9223372036854775807 : Int64)) (j1 &&& (9223372036854775807 : Int64)) js0_32 js0_52)), .val (.int (own_cmp js0_32 js0_52 (j0 &&& (9223372036854775807 : Int64)) (j1 &&& (9223372036854775807 : Int64))))] [(.int (0 : Int32))])
        exact own_retN X56 (t := .boolean) hx hret hlk (hb hby at_183) (by decide) (by decide) (by simp) ⟨congrArg (fun z => some (Value.int z)) hv_t_t_f.symm, N56, trivial⟩
    · have hv_t_f := hv_t.trans (if_neg hc164)
      refine own_step (fun _ => XS.icmpYes X55.here hx rfl (pc0 := 164) (pc' := 182) rfl (hb hby at_164) rfl (feq hc164).2 (by decide) (by decide)) ?_
      show own_Ends p e below s _ _ _ T55 (mkF m 182 #[.val (.long j0), .second, .val (.long j1), .second, .val (.long j2), .second, .val (.long j3), .second, .val (.int i4), .val (.long (j0 &&& (9223372036854775807 : Int64))), .second, .val (.long (j1 &&& (9223372036854775807 : Int64))), .second, .val (.long js0_32), .second, .val (.long js0_52), .second, .val (.ref b49), .val (.ref b51), .val (.int (-1 : Int32)), .val (.int (own_cmp (j0 &&& (9223372036854775807 : Int64)) (j1 &&& (9223372036854775807 : Int64)) js0_32 js0_52)), .val (.int (own_cmp js0_32 js0_52 (j0 &&& (9223372036854775807 : Int64)) (j1 &&& (9223372036854775807 : Int64))))] [])
      refine own_step (fun _ => XS.iconst X55.here hx rfl (hb hby at_182)) ?_
      show own_Ends p e below s _ _ _ T55 (mkF m 183 #[.val (.long j0), .second, .val (.long j1), .second, .val (.long j2), .second, .val (.long j3), .second, .val (.int i4), .val (.long (j0 &&& (9223372036854775807 : Int64))), .second, .val (.long (j1 &&& (9223372036854775807 : Int64))), .second, .val (.long js0_32), .second, .val (.long js0_52), .second, .val (.ref b49), .val (.ref b51), .val (.int (-1 : Int32)), .val (.int (own_cmp (j0 &&& (9223372036854775807 : Int64)) (j1 &&& (9223372036854775807 : Int64)) js0_32 js0_52)), .val (.int (own_cmp js0_32 js0_52 (j0 &&& (9223372036854775807 : Int64)) (j1 &&& (9223372036854775807 : Int64))))] [(.int (0 : Int32))])
      exact own_retN X55 (t := .boolean) hx hret hlk (hb hby at_183) (by decide) (by decide) (by simp) ⟨congrArg (fun z => some (Value.int z)) hv_t_f.symm, N55, trivial⟩
  · have hv_f := hv.trans (if_neg hc85)
    refine own_step (fun _ => XS.ifYes X52.here hx rfl (pc0 := 85) (pc' := 94) rfl (hb hby at_85) rfl ((if0 _ _).trans (flt (fun q => hc85 ((lw_lt _ _).mp q))).2.1) (by decide) (by decide)) ?_
    show own_Ends p e below s _ _ _ T52 (mkF m 94 #[.val (.long j0), .second, .val (.long j1), .second, .val (.long j2), .second, .val (.long j3), .second, .val (.int i4), .val (.long (j0 &&& (9223372036854775807 : Int64))), .second, .val (.long (j1 &&& (9223372036854775807 : Int64))), .second, .val (.long js0_32), .second, .val (.long js0_52), .second, .val (.ref b49), .val (.ref b51), .unset, .unset, .unset] [])
    refine own_step (fun _ => XS.lload X52.here hx rfl (hb hby at_94) rfl) ?_
    show own_Ends p e below s _ _ _ T52 (mkF m 96 #[.val (.long j0), .second, .val (.long j1), .second, .val (.long j2), .second, .val (.long j3), .second, .val (.int i4), .val (.long (j0 &&& (9223372036854775807 : Int64))), .second, .val (.long (j1 &&& (9223372036854775807 : Int64))), .second, .val (.long js0_32), .second, .val (.long js0_52), .second, .val (.ref b49), .val (.ref b51), .unset, .unset, .unset] [(.long (j0 &&& (9223372036854775807 : Int64)))])
    refine own_step (fun _ => XS.lload X52.here hx rfl (hb hby at_96) rfl) ?_
    show own_Ends p e below s _ _ _ T52 (mkF m 98 #[.val (.long j0), .second, .val (.long j1), .second, .val (.long j2), .second, .val (.long j3), .second, .val (.int i4), .val (.long (j0 &&& (9223372036854775807 : Int64))), .second, .val (.long (j1 &&& (9223372036854775807 : Int64))), .second, .val (.long js0_32), .second, .val (.long js0_52), .second, .val (.ref b49), .val (.ref b51), .unset, .unset, .unset] [(.long js0_32), (.long (j0 &&& (9223372036854775807 : Int64)))])
    refine own_step (fun _ => XS.lcmp X52.here hx rfl (hb hby at_98) rfl) ?_
    show own_Ends p e below s _ _ _ T52 (mkF m 99 #[.val (.long j0), .second, .val (.long j1), .second, .val (.long j2), .second, .val (.long j3), .second, .val (.int i4), .val (.long (j0 &&& (9223372036854775807 : Int64))), .second, .val (.long (j1 &&& (9223372036854775807 : Int64))), .second, .val (.long js0_32), .second, .val (.long js0_52), .second, .val (.ref b49), .val (.ref b51), .unset, .unset, .unset] [(.int (lcmpW (j0 &&& (9223372036854775807 : Int64)) js0_32))])
    by_cases hc99 : js0_32 < (j0 &&& (9223372036854775807 : Int64))
    · have hv_f_t := hv_f.trans (if_pos hc99)
      refine own_step (fun _ => XS.ifNo X52.here hx rfl (hb hby at_99) rfl ((if0 _ _).trans (tlt ((lw_gt _ _).mpr hc99)).2.2.2)) ?_
      show own_Ends p e below s _ _ _ T52 (mkF m 102 #[.val (.long j0), .second, .val (.long j1), .second, .val (.long j2), .second, .val (.long j3), .second, .val (.int i4), .val (.long (j0 &&& (9223372036854775807 : Int64))), .second, .val (.long (j1 &&& (9223372036854775807 : Int64))), .second, .val (.long js0_32), .second, .val (.long js0_52), .second, .val (.ref b49), .val (.ref b51), .unset, .unset, .unset] [])
      refine own_step (fun _ => XS.iconst X52.here hx rfl (hb hby at_102)) ?_
      show own_Ends p e below s _ _ _ T52 (mkF m 103 #[.val (.long j0), .second, .val (.long j1), .second, .val (.long j2), .second, .val (.long j3), .second, .val (.int i4), .val (.long (j0 &&& (9223372036854775807 : Int64))), .second, .val (.long (j1 &&& (9223372036854775807 : Int64))), .second, .val (.long js0_32), .second, .val (.long js0_52), .second, .val (.ref b49), .val (.ref b51), .unset, .unset, .unset] [(.int (1 : Int32))])
      refine own_step (fun _ => XS.istore X52.here hx rfl (hb hby at_103) rfl (l' := #[.val (.long j0), .second, .val (.long j1), .second, .val (.long j2), .second, .val (.long j3), .second, .val (.int i4), .val (.long (j0 &&& (9223372036854775807 : Int64))), .second, .val (.long (j1 &&& (9223372036854775807 : Int64))), .second, .val (.long js0_32), .second, .val (.long js0_52), .second, .val (.ref b49), .val (.ref b51), .val (.int (1 : Int32)), .unset, .unset]) rfl) ?_
      show own_Ends p e below s _ _ _ T52 (mkF m 105 #[.val (.long j0), .second, .val (.long j1), .second, .val (.long j2), .second, .val (.long j3), .second, .val (.int i4), .val (.long (j0 &&& (9223372036854775807 : Int64))), .second, .val (.long (j1 &&& (9223372036854775807 : Int64))), .second, .val (.long js0_32), .second, .val (.long js0_52), .second, .val (.ref b49), .val (.ref b51), .val (.int (1 : Int32)), .unset, .unset] [])
      refine own_step (fun _ => XS.goto X52.here hx rfl (pc0 := 105) (pc' := 139) rfl (hb hby at_105) (by decide) (by decide)) ?_
      show own_Ends p e below s _ _ _ T52 (mkF m 139 #[.val (.long j0), .second, .val (.long j1), .second, .val (.long j2), .second, .val (.long j3), .second, .val (.int i4), .val (.long (j0 &&& (9223372036854775807 : Int64))), .second, .val (.long (j1 &&& (9223372036854775807 : Int64))), .second, .val (.long js0_32), .second, .val (.long js0_52), .second, .val (.ref b49), .val (.ref b51), .val (.int (1 : Int32)), .unset, .unset] [])
      refine own_step (fun _ => XS.aload X52.here hx rfl (hb hby at_139) rfl rfl) ?_
      show own_Ends p e below s _ _ _ T52 (mkF m 141 #[.val (.long j0), .second, .val (.long j1), .second, .val (.long j2), .second, .val (.long j3), .second, .val (.int i4), .val (.long (j0 &&& (9223372036854775807 : Int64))), .second, .val (.long (j1 &&& (9223372036854775807 : Int64))), .second, .val (.long js0_32), .second, .val (.long js0_52), .second, .val (.ref b49), .val (.ref b51), .val (.int (1 : Int32)), .unset, .unset] [(.ref b49)])
      refine own_step (fun _ => XS.aload X52.here hx rfl (hb hby at_141) rfl rfl) ?_
      show own_Ends p e below s _ _ _ T52 (mkF m 143 #[.val (.long j0), .second, .val (.long j1), .second, .val (.long j2), .second, .val (.long j3), .second, .val (.int i4), .val (.long (j0 &&& (9223372036854775807 : Int64))), .second, .val (.long (j1 &&& (9223372036854775807 : Int64))), .second, .val (.long js0_32), .second, .val (.long js0_52), .second, .val (.ref b49), .val (.ref b51), .val (.int (1 : Int32)), .unset, .unset] [(.ref b51), (.ref b49)])
      obtain ⟨cq57, kq57, q57a, q57b, q57c⟩ := isOf hZ rfl ((Ex50.ext E51).keep K52)
      obtain ⟨_, _, ⟨T57, L57, k57, n57⟩, -, X57, ⟨Lc57, hQ57, l57, y57, z57⟩, st57⟩ := X52.virtualBack hx (y := (⟨"com/example/rollforth/rollforth/log/LogInstant", "compareTo", "(Lcom/example/rollforth/rollforth/log/LogInstant;)I"⟩ : MethodName)) (z := (⟨"com/example/rollforth/rollforth/log/LogInstant", "compareTo", "(Lcom/example/rollforth/rollforth/log/LogInstant;)I"⟩ : MethodName)) hown (mvT hZ (hw _ (List.mem_of_getElem? (i := 19) rfl))) (mvT hZ (hw _ (List.mem_of_getElem? (i := 20) rfl))) (notFace_of_selects (args := #[]) (mvT hZ (hw _ (List.mem_of_getElem? (i := 22) rfl)))) (mvT hZ (hw _ (List.mem_of_getElem? (i := 22) rfl))) (mvT hZ (hw _ (List.mem_of_getElem? (i := 21) rfl))) (by decide) (backOf (W := 0) (rm4 l Z a0 hw [] b49 b51 (j0 &&& (9223372036854775807 : Int64)) (j1 &&& (9223372036854775807 : Int64)) js0_32 js0_52 T52.heap n0 Zs52 ((F50a.ext E51).keep K52 (ninS ne_b49_b51 nin0)) ((F50b.ext E51).keep K52 (ninS ne_b49_b51 nin0)) F52a F52b) hZ (hw _ (List.mem_of_getElem? (i := 23) rfl)) (hw _ (List.mem_of_getElem? (i := 3) rfl)) (by decide) (by decide)) q57a q57c (g := (mkF m 143 #[.val (.long j0), .second, .val (.long j1), .second, .val (.long j2), .second, .val (.long j3), .second, .val (.int i4), .val (.long (j0 &&& (9223372036854775807 : Int64))), .second, .val (.long (j1 &&& (9223372036854775807 : Int64))), .second, .val (.long js0_32), .second, .val (.long js0_52), .second, .val (.ref b49), .val (.ref b51), .val (.int (1 : Int32)), .unset, .unset] [(.ref b51), (.ref b49)])) rfl (by rw [hml]; rfl) (Steps.refl _) (argsL := [(.ref b51)]) (rest := []) (lenOf pd_3 rfl) rfl (by show 2 * 0 + _ ≤ _; exact Nat.le_of_eq rfl) (hb hby at_143) (fun _ _ => ⟨rfl, rfl, (by decide : 2 + 0 ≤ _), (by decide : 4 + 0 ≤ _)⟩)
      dsimp only [Pt.U, Pt.locs, Pt.cells, Pt.slots] at X57 l57 y57 z57 st57 hQ57
      subst l57 y57 z57
      obtain ⟨rfl, N57q, hh57⟩ := hQ57
      have N57 := Fr.app N52 N57q
      refine own_step (fun _ => st57.trans) ?_
      show own_Ends p e below s _ _ _ T57 (mkF m 146 #[.val (.long j0), .second, .val (.long j1), .second, .val (.long j2), .second, .val (.long j3), .second, .val (.int i4), .val (.long (j0 &&& (9223372036854775807 : Int64))), .second, .val (.long (j1 &&& (9223372036854775807 : Int64))), .second, .val (.long js0_32), .second, .val (.long js0_52), .second, .val (.ref b49), .val (.ref b51), .val (.int (1 : Int32)), .unset, .unset] [(.int (own_cmp (j0 &&& (9223372036854775807 : Int64)) (j1 &&& (9223372036854775807 : Int64)) js0_32 js0_52))])
      refine own_step (fun _ => XS.istore X57.here hx rfl (hb hby at_146) rfl (l' := #[.val (.long j0), .second, .val (.long j1), .second, .val (.long j2), .second, .val (.long j3), .second, .val (.int i4), .val (.long (j0 &&& (9223372036854775807 : Int64))), .second, .val (.long (j1 &&& (9223372036854775807 : Int64))), .second, .val (.long js0_32), .second, .val (.long js0_52), .second, .val (.ref b49), .val (.ref b51), .val (.int (1 : Int32)), .val (.int (own_cmp (j0 &&& (9223372036854775807 : Int64)) (j1 &&& (9223372036854775807 : Int64)) js0_32 js0_52)), .unset]) rfl) ?_
      show own_Ends p e below s _ _ _ T57 (mkF m 148 #[.val (.long j0), .second, .val (.long j1), .second, .val (.long j2), .second, .val (.long j3), .second, .val (.int i4), .val (.long (j0 &&& (9223372036854775807 : Int64))), .second, .val (.long (j1 &&& (9223372036854775807 : Int64))), .second, .val (.long js0_32), .second, .val (.long js0_52), .second, .val (.ref b49), .val (.ref b51), .val (.int (1 : Int32)), .val (.int (own_cmp (j0 &&& (9223372036854775807 : Int64)) (j1 &&& (9223372036854775807 : Int64)) js0_32 js0_52)), .unset] [])
      refine own_step (fun _ => XS.aload X57.here hx rfl (hb hby at_148) rfl rfl) ?_
      show own_Ends p e below s _ _ _ T57 (mkF m 150 #[.val (.long j0), .second, .val (.long j1), .second, .val (.long j2), .second, .val (.long j3), .second, .val (.int i4), .val (.long (j0 &&& (9223372036854775807 : Int64))), .second, .val (.long (j1 &&& (9223372036854775807 : Int64))), .second, .val (.long js0_32), .second, .val (.long js0_52), .second, .val (.ref b49), .val (.ref b51), .val (.int (1 : Int32)), .val (.int (own_cmp (j0 &&& (9223372036854775807 : Int64)) (j1 &&& (9223372036854775807 : Int64)) js0_32 js0_52)), .unset] [(.ref b51)])
      refine own_step (fun _ => XS.aload X57.here hx rfl (hb hby at_150) rfl rfl) ?_
      show own_Ends p e below s _ _ _ T57 (mkF m 152 #[.val (.long j0), .second, .val (.long j1), .second, .val (.long j2), .second, .val (.long j3), .second, .val (.int i4), .val (.long (j0 &&& (9223372036854775807 : Int64))), .second, .val (.long (j1 &&& (9223372036854775807 : Int64))), .second, .val (.long js0_32), .second, .val (.long js0_52), .second, .val (.ref b49), .val (.ref b51), .val (.int (1 : Int32)), .val (.int (own_cmp (j0 &&& (9223372036854775807 : Int64)) (j1 &&& (9223372036854775807 : Int64)) js0_32 js0_52)), .unset] [(.ref b49), (.ref b51)])
      obtain ⟨cq58, kq58, q58a, q58b, q58c⟩ := isOf hZ hh57 Ex52
      obtain ⟨_, _, ⟨T58, L58, k58, n58⟩, -, X58, ⟨Lc58, hQ58, l58, y58, z58⟩, st58⟩ := X57.virtualBack hx (y := (⟨"com/example/rollforth/rollforth/log/LogInstant", "compareTo", "(Lcom/example/rollforth/rollforth/log/LogInstant;)I"⟩ : MethodName)) (z := (⟨"com/example/rollforth/rollforth/log/LogInstant", "compareTo", "(Lcom/example/rollforth/rollforth/log/LogInstant;)I"⟩ : MethodName)) hown (mvT hZ (hw _ (List.mem_of_getElem? (i := 19) rfl))) (mvT hZ (hw _ (List.mem_of_getElem? (i := 20) rfl))) (notFace_of_selects (args := #[]) (mvT hZ (hw _ (List.mem_of_getElem? (i := 22) rfl)))) (mvT hZ (hw _ (List.mem_of_getElem? (i := 22) rfl))) (mvT hZ (hw _ (List.mem_of_getElem? (i := 21) rfl))) (by decide) (backOf (W := 0) (rm4 l Z a0 hw [] b51 b49 js0_32 js0_52 (j0 &&& (9223372036854775807 : Int64)) (j1 &&& (9223372036854775807 : Int64)) T52.heap n0 Zs52 F52a F52b ((F50a.ext E51).keep K52 (ninS ne_b49_b51 nin0)) ((F50b.ext E51).keep K52 (ninS ne_b49_b51 nin0))) hZ (hw _ (List.mem_of_getElem? (i := 23) rfl)) (hw _ (List.mem_of_getElem? (i := 3) rfl)) (by decide) (by decide)) q58a q58c (g := (mkF m 152 #[.val (.long j0), .second, .val (.long j1), .second, .val (.long j2), .second, .val (.long j3), .second, .val (.int i4), .val (.long (j0 &&& (9223372036854775807 : Int64))), .second, .val (.long (j1 &&& (9223372036854775807 : Int64))), .second, .val (.long js0_32), .second, .val (.long js0_52), .second, .val (.ref b49), .val (.ref b51), .val (.int (1 : Int32)), .val (.int (own_cmp (j0 &&& (9223372036854775807 : Int64)) (j1 &&& (9223372036854775807 : Int64)) js0_32 js0_52)), .unset] [(.ref b49), (.ref b51)])) rfl (by rw [hml]; rfl) (Steps.refl _) (argsL := [(.ref b49)]) (rest := []) (lenOf pd_3 rfl) rfl (by show 2 * 0 + _ ≤ _; exact Nat.le_of_eq rfl) (hb hby at_152) (fun _ _ => ⟨rfl, hh57, (by decide : 2 + 0 ≤ _), (by decide : 4 + 0 ≤ _)⟩)
      dsimp only [Pt.U, Pt.locs, Pt.cells, Pt.slots] at X58 l58 y58 z58 st58 hQ58
      subst l58 y58 z58
      obtain ⟨rfl, N58q, hh58⟩ := hQ58
      have N58 := Fr.app N57 N58q
      refine own_step (fun _ => st58.trans) ?_
      show own_Ends p e below s _ _ _ T58 (mkF m 155 #[.val (.long j0), .second, .val (.long j1), .second, .val (.long j2), .second, .val (.long j3), .second, .val (.int i4), .val (.long (j0 &&& (9223372036854775807 : Int64))), .second, .val (.long (j1 &&& (9223372036854775807 : Int64))), .second, .val (.long js0_32), .second, .val (.long js0_52), .second, .val (.ref b49), .val (.ref b51), .val (.int (1 : Int32)), .val (.int (own_cmp (j0 &&& (9223372036854775807 : Int64)) (j1 &&& (9223372036854775807 : Int64)) js0_32 js0_52)), .unset] [(.int (own_cmp js0_32 js0_52 (j0 &&& (9223372036854775807 : Int64)) (j1 &&& (9223372036854775807 : Int64))))])
      refine own_step (fun _ => XS.istore X58.here hx rfl (hb hby at_155) rfl (l' := #[.val (.long j0), .second, .val (.long j1), .second, .val (.long j2), .second, .val (.long j3), .second, .val (.int i4), .val (.long (j0 &&& (9223372036854775807 : Int64))), .second, .val (.long (j1 &&& (9223372036854775807 : Int64))), .second, .val (.long js0_32), .second, .val (.long js0_52), .second, .val (.ref b49), .val (.ref b51), .val (.int (1 : Int32)), .val (.int (own_cmp (j0 &&& (9223372036854775807 : Int64)) (j1 &&& (9223372036854775807 : Int64)) js0_32 js0_52)), .val (.int (own_cmp js0_32 js0_52 (j0 &&& (9223372036854775807 : Int64)) (j1 &&& (9223372036854775807 : Int64))))]) rfl) ?_
      show own_Ends p e below s _ _ _ T58 (mkF m 157 #[.val (.long j0), .second, .val (.long j1), .second, .val (.long j2), .second, .val (.long j3), .second, .val (.int i4), .val (.long (j0 &&& (9223372036854775807 : Int64))), .second, .val (.long (j1 &&& (9223372036854775807 : Int64))), .second, .val (.long js0_32), .second, .val (.long js0_52), .second, .val (.ref b49), .val (.ref b51), .val (.int (1 : Int32)), .val (.int (own_cmp (j0 &&& (9223372036854775807 : Int64)) (j1 &&& (9223372036854775807 : Int64)) js0_32 js0_52)), .val (.int (own_cmp js0_32 js0_52 (j0 &&& (9223372036854775807 : Int64)) (j1 &&& (9223372036854775807 : Int64))))] [])
      refine own_step (fun _ => XS.iload X58.here hx rfl (hb hby at_157) rfl) ?_
      show own_Ends p e below s _ _ _ T58 (mkF m 159 #[.val (.long j0), .second, .val (.long j1), .second, .val (.long j2), .second, .val (.long j3), .second, .val (.int i4), .val (.long (j0 &&& (9223372036854775807 : Int64))), .second, .val (.long (j1 &&& (9223372036854775807 : Int64))), .second, .val (.long js0_32), .second, .val (.long js0_52), .second, .val (.ref b49), .val (.ref b51), .val (.int (1 : Int32)), .val (.int (own_cmp (j0 &&& (9223372036854775807 : Int64)) (j1 &&& (9223372036854775807 : Int64)) js0_32 js0_52)), .val (.int (own_cmp js0_32 js0_52 (j0 &&& (9223372036854775807 : Int64)) (j1 &&& (9223372036854775807 : Int64))))] [(.int (own_cmp (j0 &&& (9223372036854775807 : Int64)) (j1 &&& (9223372036854775807 : Int64)) js0_32 js0_52))])
      obtain ⟨_, _, ⟨T59, L59, k59, n59⟩, -, X59, ⟨Lc59, hQ59, l59, y59, z59⟩, st59⟩ := Jvm.LawKit.callS X58 hx (y := (⟨"com/example/rollforth/rollforth/log/LogInstantCompareToPinLaw", "sign", "(I)I"⟩ : MethodName)) hown (mvT hZ (hw _ (List.mem_of_getElem? (i := 28) rfl))) (mvT hZ (hw _ (List.mem_of_getElem? (i := 29) rfl))) (mvT hZ (hw _ (List.mem_of_getElem? (i := 30) rfl))) (mvT hZ (hw _ (List.mem_of_getElem? (i := 31) rfl))) (by decide) (backOf (W := 0) (rm6 l Z a0 hw [] (own_cmp (j0 &&& (9223372036854775807 : Int64)) (j1 &&& (9223372036854775807 : Int64)) js0_32 js0_52) T52.heap n0 Zs52) hZ (hw _ (List.mem_of_getElem? (i := 31) rfl)) (hw _ (List.mem_of_getElem? (i := 30) rfl)) (by decide) (by decide)) (g := (mkF m 159 #[.val (.long j0), .second, .val (.long j1), .second, .val (.long j2), .second, .val (.long j3), .second, .val (.int i4), .val (.long (j0 &&& (9223372036854775807 : Int64))), .second, .val (.long (j1 &&& (9223372036854775807 : Int64))), .second, .val (.long js0_32), .second, .val (.long js0_52), .second, .val (.ref b49), .val (.ref b51), .val (.int (1 : Int32)), .val (.int (own_cmp (j0 &&& (9223372036854775807 : Int64)) (j1 &&& (9223372036854775807 : Int64)) js0_32 js0_52)), .val (.int (own_cmp js0_32 js0_52 (j0 &&& (9223372036854775807 : Int64)) (j1 &&& (9223372036854775807 : Int64))))] [(.int (own_cmp (j0 &&& (9223372036854775807 : Int64)) (j1 &&& (9223372036854775807 : Int64)) js0_32 js0_52))])) rfl (by rw [hml]; rfl) (argsL := [(.int (own_cmp (j0 &&& (9223372036854775807 : Int64)) (j1 &&& (9223372036854775807 : Int64)) js0_32 js0_52))]) (rest := []) (lenOf pd_4 rfl) rfl (by show 2 * 0 + _ ≤ _; exact Nat.le_of_eq rfl) (hb hby at_159) (fun _ _ => ⟨rfl, hh58, (by decide : 2 + 0 ≤ _), (by decide : 4 + 0 ≤ _)⟩)
      dsimp only [Pt.U, Pt.locs, Pt.cells, Pt.slots] at X59 l59 y59 z59 st59 hQ59
      subst l59 y59 z59
      obtain ⟨rfl, N59q, hh59⟩ := hQ59
      have N59 := Fr.app N58 N59q
      refine own_step st59 ?_
      show own_Ends p e below s _ _ _ T59 (mkF m 162 #[.val (.long j0), .second, .val (.long j1), .second, .val (.long j2), .second, .val (.long j3), .second, .val (.int i4), .val (.long (j0 &&& (9223372036854775807 : Int64))), .second, .val (.long (j1 &&& (9223372036854775807 : Int64))), .second, .val (.long js0_32), .second, .val (.long js0_52), .second, .val (.ref b49), .val (.ref b51), .val (.int (1 : Int32)), .val (.int (own_cmp (j0 &&& (9223372036854775807 : Int64)) (j1 &&& (9223372036854775807 : Int64)) js0_32 js0_52)), .val (.int (own_cmp js0_32 js0_52 (j0 &&& (9223372036854775807 : Int64)) (j1 &&& (9223372036854775807 : Int64))))] [(.int (f6_0 (own_cmp (j0 &&& (9223372036854775807 : Int64)) (j1 &&& (9223372036854775807 : Int64)) js0_32 js0_52)))])
      refine own_step (fun _ => XS.iload X59.here hx rfl (hb hby at_162) rfl) ?_
      show own_Ends p e below s _ _ _ T59 (mkF m 164 #[.val (.long j0), .second, .val (.long j1), .second, .val (.long j2), .second, .val (.long j3), .second, .val (.int i4), .val (.long (j0 &&& (9223372036854775807 : Int64))), .second, .val (.long (j1 &&& (9223372036854775807 : Int64))), .second, .val (.long js0_32), .second, .val (.long js0_52), .second, .val (.ref b49), .val (.ref b51), .val (.int (1 : Int32)), .val (.int (own_cmp (j0 &&& (9223372036854775807 : Int64)) (j1 &&& (9223372036854775807 : Int64)) js0_32 js0_52)), .val (.int (own_cmp js0_32 js0_52 (j0 &&& (9223372036854775807 : Int64)) (j1 &&& (9223372036854775807 : Int64))))] [(.int (1 : Int32)), (.int (f6_0 (own_cmp (j0 &&& (9223372036854775807 : Int64)) (j1 &&& (9223372036854775807 : Int64)) js0_32 js0_52)))])
      by_cases hc164 : (f6_0 (own_cmp (j0 &&& (9223372036854775807 : Int64)) (j1 &&& (9223372036854775807 : Int64)) js0_32 js0_52)) = (1 : Int32)
      · have hv_f_t_t := hv_f_t.trans (if_pos hc164)
        refine own_step (fun _ => XS.icmpNo X59.here hx rfl (hb hby at_164) rfl (teq hc164).2) ?_
        show own_Ends p e below s _ _ _ T59 (mkF m 167 #[.val (.long j0), .second, .val (.long j1), .second, .val (.long j2), .second, .val (.long j3), .second, .val (.int i4), .val (.long (j0 &&& (9223372036854775807 : Int64))), .second, .val (.long (j1 &&& (9223372036854775807 : Int64))), .second, .val (.long js0_32), .second, .val (.long js0_52), .second, .val (.ref b49), .val (.ref b51), .val (.int (1 : Int32)), .val (.int (own_cmp (j0 &&& (9223372036854775807 : Int64)) (j1 &&& (9223372036854775807 : Int64)) js0_32 js0_52)), .val (.int (own_cmp js0_32 js0_52 (j0 &&& (9223372036854775807 : Int64)) (j1 &&& (9223372036854775807 : Int64))))] [])
        refine own_step (fun _ => XS.iload X59.here hx rfl (hb hby at_167) rfl) ?_
        show own_Ends p e below s _ _ _ T59 (mkF m 169 #[.val (.long j0), .second, .val (.long j1), .second, .val (.long j2), .second, .val (.long j3), .second, .val (.int i4), .val (.long (j0 &&& (9223372036854775807 : Int64))), .second, .val (.long (j1 &&& (9223372036854775807 : Int64))), .second, .val (.long js0_32), .second, .val (.long js0_52), .second, .val (.ref b49), .val (.ref b51), .val (.int (1 : Int32)), .val (.int (own_cmp (j0 &&& (9223372036854775807 : Int64)) (j1 &&& (9223372036854775807 : Int64)) js0_32 js0_52)), .val (.int (own_cmp js0_32 js0_52 (j0 &&& (9223372036854775807 : Int64)) (j1 &&& (9223372036854775807 : Int64))))] [(.int (own_cmp js0_32 js0_52 (j0 &&& (9223372036854775807 : Int64)) (j1 &&& (9223372036854775807 : Int64))))])
        obtain ⟨_, _, ⟨T60, L60, k60, n60⟩, -, X60, ⟨Lc60, hQ60, l60, y60, z60⟩, st60⟩ := Jvm.LawKit.callS X59 hx (y := (⟨"com/example/rollforth/rollforth/log/LogInstantCompareToPinLaw", "sign", "(I)I"⟩ : MethodName)) hown (mvT hZ (hw _ (List.mem_of_getElem? (i := 28) rfl))) (mvT hZ (hw _ (List.mem_of_getElem? (i := 29) rfl))) (mvT hZ (hw _ (List.mem_of_getElem? (i := 30) rfl))) (mvT hZ (hw _ (List.mem_of_getElem? (i := 31) rfl))) (by decide) (backOf (W := 0) (rm6 l Z a0 hw [] (own_cmp js0_32 js0_52 (j0 &&& (9223372036854775807 : Int64)) (j1 &&& (9223372036854775807 : Int64))) T52.heap n0 Zs52) hZ (hw _ (List.mem_of_getElem? (i := 31) rfl)) (hw _ (List.mem_of_getElem? (i := 30) rfl)) (by decide) (by decide)) (g := (mkF m 169 #[.val (.long j0), .second, .val (.long j1), .second, .val (.long j2), .second, .val (.long j3), .second, .val (.int i4), .val (.long (j0 &&& (9223372036854775807 : Int64))), .second, .val (.long (j1 &&& (9223372036854775807 : Int64))), .second, .val (.long js0_32), .second, .val (.long js0_52), .second, .val (.ref b49), .val (.ref b51), .val (.int (1 : Int32)), .val (.int (own_cmp (j0 &&& (9223372036854775807 : Int64)) (j1 &&& (9223372036854775807 : Int64)) js0_32 js0_52)), .val (.int (own_cmp js0_32 js0_52 (j0 &&& (9223372036854775807 : Int64)) (j1 &&& (9223372036854775807 : Int64))))] [(.int (own_cmp js0_32 js0_52 (j0 &&& (9223372036854775807 : Int64)) (j1 &&& (9223372036854775807 : Int64))))])) rfl (by rw [hml]; rfl) (argsL := [(.int (own_cmp js0_32 js0_52 (j0 &&& (9223372036854775807 : Int64)) (j1 &&& (9223372036854775807 : Int64))))]) (rest := []) (lenOf pd_4 rfl) rfl (by show 2 * 0 + _ ≤ _; exact Nat.le_of_eq rfl) (hb hby at_169) (fun _ _ => ⟨rfl, hh59, (by decide : 2 + 0 ≤ _), (by decide : 4 + 0 ≤ _)⟩)
        dsimp only [Pt.U, Pt.locs, Pt.cells, Pt.slots] at X60 l60 y60 z60 st60 hQ60
        subst l60 y60 z60
        obtain ⟨rfl, N60q, hh60⟩ := hQ60
        have N60 := Fr.app N59 N60q
        refine own_step st60 ?_
        show own_Ends p e below s _ _ _ T60 (mkF m 172 #[.val (.long j0), .second, .val (.long j1), .second, .val (.long j2), .second, .val (.long j3), .second, .val (.int i4), .val (.long (j0 &&& (9223372036854775807 : Int64))), .second, .val (.long (j1 &&& (9223372036854775807 : Int64))), .second, .val (.long js0_32), .second, .val (.long js0_52), .second, .val (.ref b49), .val (.ref b51), .val (.int (1 : Int32)), .val (.int (own_cmp (j0 &&& (9223372036854775807 : Int64)) (j1 &&& (9223372036854775807 : Int64)) js0_32 js0_52)), .val (.int (own_cmp js0_32 js0_52 (j0 &&& (9223372036854775807 : Int64)) (j1 &&& (9223372036854775807 : Int64))))] [(.int (f6_0 (own_cmp js0_32 js0_52 (j0 &&& (9223372036854775807 : Int64)) (j1 &&& (9223372036854775807 : Int64)))))])
        refine own_step (fun _ => XS.iload X60.here hx rfl (hb hby at_172) rfl) ?_
        show own_Ends p e below s _ _ _ T60 (mkF m 174 #[.val (.long j0), .second, .val (.long j1), .second, .val (.long j2), .second, .val (.long j3), .second, .val (.int i4), .val (.long (j0 &&& (9223372036854775807 : Int64))), .second, .val (.long (j1 &&& (9223372036854775807 : Int64))), .second, .val (.long js0_32), .second, .val (.long js0_52), .second, .val (.ref b49), .val (.ref b51), .val (.int (1 : Int32)), .val (.int (own_cmp (j0 &&& (9223372036854775807 : Int64)) (j1 &&& (9223372036854775807 : Int64)) js0_32 js0_52)), .val (.int (own_cmp js0_32 js0_52 (j0 &&& (9223372036854775807 : Int64)) (j1 &&& (9223372036854775807 : Int64))))] [(.int (1 : Int32)), (.int (f6_0 (own_cmp js0_32 js0_52 (j0 &&& (9223372036854775807 : Int64)) (j1 &&& (9223372036854775807 : Int64)))))])
        refine own_step (fun _ => XS.ineg X60.here hx rfl (hb hby at_174) rfl) ?_
        show own_Ends p e below s _ _ _ T60 (mkF m 175 #[.val (.long j0), .second, .val (.long j1), .second, .val (.long j2), .second, .val (.long j3), .second, .val (.int i4), .val (.long (j0 &&& (9223372036854775807 : Int64))), .second, .val (.long (j1 &&& (9223372036854775807 : Int64))), .second, .val (.long js0_32), .second, .val (.long js0_52), .second, .val (.ref b49), .val (.ref b51), .val (.int (1 : Int32)), .val (.int (own_cmp (j0 &&& (9223372036854775807 : Int64)) (j1 &&& (9223372036854775807 : Int64)) js0_32 js0_52)), .val (.int (own_cmp js0_32 js0_52 (j0 &&& (9223372036854775807 : Int64)) (j1 &&& (9223372036854775807 : Int64))))] [(.int (-(1 : Int32))), (.int (f6_0 (own_cmp js0_32 js0_52 (j0 &&& (9223372036854775807 : Int64)) (j1 &&& (9223372036854775807 : Int64)))))])
        by_cases hc175 : (f6_0 (own_cmp js0_32 js0_52 (j0 &&& (9223372036854775807 : Int64)) (j1 &&& (9223372036854775807 : Int64)))) = (-(1 : Int32))
        · have hv_f_t_t_t := hv_f_t_t.trans (if_pos hc175)
          refine own_step (fun _ => XS.icmpNo X60.here hx rfl (hb hby at_175) rfl (teq hc175).2) ?_
          show own_Ends p e below s _ _ _ T60 (mkF m 178 #[.val (.long j0), .second, .val (.long j1), .second, .val (.long j2), .second, .val (.long j3), .second, .val (.int i4), .val (.long (j0 &&& (9223372036854775807 : Int64))), .second, .val (.long (j1 &&& (9223372036854775807 : Int64))), .second, .val (.long js0_32), .second, .val (.long js0_52), .second, .val (.ref b49), .val (.ref b51), .val (.int (1 : Int32)), .val (.int (own_cmp (j0 &&& (9223372036854775807 : Int64)) (j1 &&& (9223372036854775807 : Int64)) js0_32 js0_52)), .val (.int (own_cmp js0_32 js0_52 (j0 &&& (9223372036854775807 : Int64)) (j1 &&& (9223372036854775807 : Int64))))] [])
          refine own_step (fun _ => XS.iconst X60.here hx rfl (hb hby at_178)) ?_
          show own_Ends p e below s _ _ _ T60 (mkF m 179 #[.val (.long j0), .second, .val (.long j1), .second, .val (.long j2), .second, .val (.long j3), .second, .val (.int i4), .val (.long (j0 &&& (9223372036854775807 : Int64))), .second, .val (.long (j1 &&& (9223372036854775807 : Int64))), .second, .val (.long js0_32), .second, .val (.long js0_52), .second, .val (.ref b49), .val (.ref b51), .val (.int (1 : Int32)), .val (.int (own_cmp (j0 &&& (9223372036854775807 : Int64)) (j1 &&& (9223372036854775807 : Int64)) js0_32 js0_52)), .val (.int (own_cmp js0_32 js0_52 (j0 &&& (9223372036854775807 : Int64)) (j1 &&& (9223372036854775807 : Int64))))] [(.int (1 : Int32))])
          refine own_step (fun _ => XS.goto X60.here hx rfl (pc0 := 179) (pc' := 183) rfl (hb hby at_179) (by decide) (by decide)) ?_
          show own_Ends p e below s _ _ _ T60 (mkF m 183 #[.val (.long j0), .second, .val (.long j1), .second, .val (.long j2), .second, .val (.long j3), .second, .val (.int i4), .val (.long (j0 &&& (9223372036854775807 : Int64))), .second, .val (.long (j1 &&& (9223372036854775807 : Int64))), .second, .val (.long js0_32), .second, .val (.long js0_52), .second, .val (.ref b49), .val (.ref b51), .val (.int (1 : Int32)), .val (.int (own_cmp (j0 &&& (9223372036854775807 : Int64)) (j1 &&& (9223372036854775807 : Int64)) js0_32 js0_52)), .val (.int (own_cmp js0_32 js0_52 (j0 &&& (9223372036854775807 : Int64)) (j1 &&& (9223372036854775807 : Int64))))] [(.int (1 : Int32))])
          exact own_retN X60 (t := .boolean) hx hret hlk (hb hby at_183) (by decide) (by decide) (by simp) ⟨congrArg (fun z => some (Value.int z)) hv_f_t_t_t.symm, N60, trivial⟩
        · have hv_f_t_t_f := hv_f_t_t.trans (if_neg hc175)
          refine own_step (fun _ => XS.icmpYes X60.here hx rfl (pc0 := 175) (pc' := 182) rfl (hb hby at_175) rfl (feq hc175).2 (by decide) (by decide)) ?_
          show own_Ends p e below s _ _ _ T60 (mkF m 182 #[.val (.long j0), .second, .val (.long j1), .second, .val (.long j2), .second, .val (.long j3), .second, .val (.int i4), .val (.long (j0 &&& (9223372036854775807 : Int64))), .second, .val (.long (j1 &&& (9223372036854775807 : Int64))), .second, .val (.long js0_32), .second, .val (.long js0_52), .second, .val (.ref b49), .val (.ref b51), .val (.int (1 : Int32)), .val (.int (own_cmp (j0 &&& (9223372036854775807 : Int64)) (j1 &&& (9223372036854775807 : Int64)) js0_32 js0_52)), .val (.int (own_cmp js0_32 js0_52 (j0 &&& (9223372036854775807 : Int64)) (j1 &&& (9223372036854775807 : Int64))))] [])
          refine own_step (fun _ => XS.iconst X60.here hx rfl (hb hby at_182)) ?_
          show own_Ends p e below s _ _ _ T60 (mkF m 183 #[.val (.long j0), .second, .val (.long j1), .second, .val (.long j2), .second, .val (.long j3), .second, .val (.int i4), .val (.long (j0 &&& (9223372036854775807 : Int64))), .second, .val (.long (j1 &&& (9223372036854775807 : Int64))), .second, .val (.long js0_32), .second, .val (.long js0_52), .second, .val (.ref b49), .val (.ref b51), .val (.int (1 : Int32)), .val (.int (own_cmp (j0 &&& (9223372036854775807 : Int64)) (j1 &&& (9223372036854775807 : Int64)) js0_32 js0_52)), .val (.int (own_cmp js0_32 js0_52 (j0 &&& (9223372036854775807 : Int64)) (j1 &&& (9223372036854775807 : Int64))))] [(.int (0 : Int32))])
          exact own_retN X60 (t := .boolean) hx hret hlk (hb hby at_183) (by decide) (by decide) (by simp) ⟨congrArg (fun z => some (Value.int z)) hv_f_t_t_f.symm, N60, trivial⟩
      · have hv_f_t_f := hv_f_t.trans (if_neg hc164)
        refine own_step (fun _ => XS.icmpYes X59.here hx rfl (pc0 := 164) (pc' := 182) rfl (hb hby at_164) rfl (feq hc164).2 (by decide) (by decide)) ?_
        show own_Ends p e below s _ _ _ T59 (mkF m 182 #[.val (.long j0), .second, .val (.long j1), .second, .val (.long j2), .second, .val (.long j3), .second, .val (.int i4), .val (.long (j0 &&& (9223372036854775807 : Int64))), .second, .val (.long (j1 &&& (9223372036854775807 : Int64))), .second, .val (.long js0_32), .second, .val (.long js0_52), .second, .val (.ref b49), .val (.ref b51), .val (.int (1 : Int32)), .val (.int (own_cmp (j0 &&& (9223372036854775807 : Int64)) (j1 &&& (9223372036854775807 : Int64)) js0_32 js0_52)), .val (.int (own_cmp js0_32 js0_52 (j0 &&& (9223372036854775807 : Int64)) (j1 &&& (9223372036854775807 : Int64))))] [])
        refine own_step (fun _ => XS.iconst X59.here hx rfl (hb hby at_182)) ?_
        show own_Ends p e below s _ _ _ T59 (mkF m 183 #[.val (.long j0), .second, .val (.long j1), .second, .val (.long j2), .second, .val (.long j3), .second, .val (.int i4), .val (.long (j0 &&& (9223372036854775807 : Int64))), .second, .val (.long (j1 &&& (9223372036854775807 : Int64))), .second, .val (.long js0_32), .second, .val (.long js0_52), .second, .val (.ref b49), .val (.ref b51), .val (.int (1 : Int32)), .val (.int (own_cmp (j0 &&& (9223372036854775807 : Int64)) (j1 &&& (9223372036854775807 : Int64)) js0_32 js0_52)), .val (.int (own_cmp js0_32 js0_52 (j0 &&& (9223372036854775807 : Int64)) (j1 &&& (9223372036854775807 : Int64))))] [(.int (0 : Int32))])
        exact own_retN X59 (t := .boolean) hx hret hlk (hb hby at_183) (by decide) (by decide) (by simp) ⟨congrArg (fun z => some (Value.int z)) hv_f_t_f.symm, N59, trivial⟩
    · have hv_f_f := hv_f.trans (if_neg hc99)
      refine own_step (fun _ => XS.ifYes X52.here hx rfl (pc0 := 99) (pc' := 108) rfl (hb hby at_99) rfl ((if0 _ _).trans (flt (fun q => hc99 ((lw_gt _ _).mp q))).2.2.2) (by decide) (by decide)) ?_
      show own_Ends p e below s _ _ _ T52 (mkF m 108 #[.val (.long j0), .second, .val (.long j1), .second, .val (.long j2), .second, .val (.long j3), .second, .val (.int i4), .val (.long (j0 &&& (9223372036854775807 : Int64))), .second, .val (.long (j1 &&& (9223372036854775807 : Int64))), .second, .val (.long js0_32), .second, .val (.long js0_52), .second, .val (.ref b49), .val (.ref b51), .unset, .unset, .unset] [])
      refine own_step (fun _ => XS.lload X52.here hx rfl (hb hby at_108) rfl) ?_
      show own_Ends p e below s _ _ _ T52 (mkF m 110 #[.val (.long j0), .second, .val (.long j1), .second, .val (.long j2), .second, .val (.long j3), .second, .val (.int i4), .val (.long (j0 &&& (9223372036854775807 : Int64))), .second, .val (.long (j1 &&& (9223372036854775807 : Int64))), .second, .val (.long js0_32), .second, .val (.long js0_52), .second, .val (.ref b49), .val (.ref b51), .unset, .unset, .unset] [(.long (j1 &&& (9223372036854775807 : Int64)))])
      refine own_step (fun _ => XS.lload X52.here hx rfl (hb hby at_110) rfl) ?_
      show own_Ends p e below s _ _ _ T52 (mkF m 112 #[.val (.long j0), .second, .val (.long j1), .second, .val (.long j2), .second, .val (.long j3), .second, .val (.int i4), .val (.long (j0 &&& (9223372036854775807 : Int64))), .second, .val (.long (j1 &&& (9223372036854775807 : Int64))), .second, .val (.long js0_32), .second, .val (.long js0_52), .second, .val (.ref b49), .val (.ref b51), .unset, .unset, .unset] [(.long js0_52), (.long (j1 &&& (9223372036854775807 : Int64)))])
      refine own_step (fun _ => XS.lcmp X52.here hx rfl (hb hby at_112) rfl) ?_
      show own_Ends p e below s _ _ _ T52 (mkF m 113 #[.val (.long j0), .second, .val (.long j1), .second, .val (.long j2), .second, .val (.long j3), .second, .val (.int i4), .val (.long (j0 &&& (9223372036854775807 : Int64))), .second, .val (.long (j1 &&& (9223372036854775807 : Int64))), .second, .val (.long js0_32), .second, .val (.long js0_52), .second, .val (.ref b49), .val (.ref b51), .unset, .unset, .unset] [(.int (lcmpW (j1 &&& (9223372036854775807 : Int64)) js0_52))])
      by_cases hc113 : (j1 &&& (9223372036854775807 : Int64)) < js0_52
      · have hv_f_f_t := hv_f_f.trans (if_pos hc113)
        refine own_step (fun _ => XS.ifNo X52.here hx rfl (hb hby at_113) rfl ((if0 _ _).trans (tlt ((lw_lt _ _).mpr hc113)).2.1)) ?_
        show own_Ends p e below s _ _ _ T52 (mkF m 116 #[.val (.long j0), .second, .val (.long j1), .second, .val (.long j2), .second, .val (.long j3), .second, .val (.int i4), .val (.long (j0 &&& (9223372036854775807 : Int64))), .second, .val (.long (j1 &&& (9223372036854775807 : Int64))), .second, .val (.long js0_32), .second, .val (.long js0_52), .second, .val (.ref b49), .val (.ref b51), .unset, .unset, .unset] [])
        refine own_step (fun _ => XS.iconst X52.here hx rfl (hb hby at_116)) ?_
        show own_Ends p e below s _ _ _ T52 (mkF m 117 #[.val (.long j0), .second, .val (.long j1), .second, .val (.long j2), .second, .val (.long j3), .second, .val (.int i4), .val (.long (j0 &&& (9223372036854775807 : Int64))), .second, .val (.long (j1 &&& (9223372036854775807 : Int64))), .second, .val (.long js0_32), .second, .val (.long js0_52), .second, .val (.ref b49), .val (.ref b51), .unset, .unset, .unset] [(.int (-1 : Int32))])
        refine own_step (fun _ => XS.istore X52.here hx rfl (hb hby at_117) rfl (l' := #[.val (.long j0), .second, .val (.long j1), .second, .val (.long j2), .second, .val (.long j3), .second, .val (.int i4), .val (.long (j0 &&& (9223372036854775807 : Int64))), .second, .val (.long (j1 &&& (9223372036854775807 : Int64))), .second, .val (.long js0_32), .second, .val (.long js0_52), .second, .val (.ref b49), .val (.ref b51), .val (.int (-1 : Int32)), .unset, .unset]) rfl) ?_
        show own_Ends p e below s _ _ _ T52 (mkF m 119 #[.val (.long j0), .second, .val (.long j1), .second, .val (.long j2), .second, .val (.long j3), .second, .val (.int i4), .val (.long (j0 &&& (9223372036854775807 : Int64))), .second, .val (.long (j1 &&& (9223372036854775807 : Int64))), .second, .val (.long js0_32), .second, .val (.long js0_52), .second, .val (.ref b49), .val (.ref b51), .val (.int (-1 : Int32)), .unset, .unset] [])
        refine own_step (fun _ => XS.goto X52.here hx rfl (pc0 := 119) (pc' := 139) rfl (hb hby at_119) (by decide) (by decide)) ?_
        show own_Ends p e below s _ _ _ T52 (mkF m 139 #[.val (.long j0), .second, .val (.long j1), .second, .val (.long j2), .second, .val (.long j3), .second, .val (.int i4), .val (.long (j0 &&& (9223372036854775807 : Int64))), .second, .val (.long (j1 &&& (9223372036854775807 : Int64))), .second, .val (.long js0_32), .second, .val (.long js0_52), .second, .val (.ref b49), .val (.ref b51), .val (.int (-1 : Int32)), .unset, .unset] [])
        refine own_step (fun _ => XS.aload X52.here hx rfl (hb hby at_139) rfl rfl) ?_
        show own_Ends p e below s _ _ _ T52 (mkF m 141 #[.val (.long j0), .second, .val (.long j1), .second, .val (.long j2), .second, .val (.long j3), .second, .val (.int i4), .val (.long (j0 &&& (9223372036854775807 : Int64))), .second, .val (.long (j1 &&& (9223372036854775807 : Int64))), .second, .val (.long js0_32), .second, .val (.long js0_52), .second, .val (.ref b49), .val (.ref b51), .val (.int (-1 : Int32)), .unset, .unset] [(.ref b49)])
        refine own_step (fun _ => XS.aload X52.here hx rfl (hb hby at_141) rfl rfl) ?_
        show own_Ends p e below s _ _ _ T52 (mkF m 143 #[.val (.long j0), .second, .val (.long j1), .second, .val (.long j2), .second, .val (.long j3), .second, .val (.int i4), .val (.long (j0 &&& (9223372036854775807 : Int64))), .second, .val (.long (j1 &&& (9223372036854775807 : Int64))), .second, .val (.long js0_32), .second, .val (.long js0_52), .second, .val (.ref b49), .val (.ref b51), .val (.int (-1 : Int32)), .unset, .unset] [(.ref b51), (.ref b49)])
        obtain ⟨cq61, kq61, q61a, q61b, q61c⟩ := isOf hZ rfl ((Ex50.ext E51).keep K52)
        obtain ⟨_, _, ⟨T61, L61, k61, n61⟩, -, X61, ⟨Lc61, hQ61, l61, y61, z61⟩, st61⟩ := X52.virtualBack hx (y := (⟨"com/example/rollforth/rollforth/log/LogInstant", "compareTo", "(Lcom/example/rollforth/rollforth/log/LogInstant;)I"⟩ : MethodName)) (z := (⟨"com/example/rollforth/rollforth/log/LogInstant", "compareTo", "(Lcom/example/rollforth/rollforth/log/LogInstant;)I"⟩ : MethodName)) hown (mvT hZ (hw _ (List.mem_of_getElem? (i := 19) rfl))) (mvT hZ (hw _ (List.mem_of_getElem? (i := 20) rfl))) (notFace_of_selects (args := #[]) (mvT hZ (hw _ (List.mem_of_getElem? (i := 22) rfl)))) (mvT hZ (hw _ (List.mem_of_getElem? (i := 22) rfl))) (mvT hZ (hw _ (List.mem_of_getElem? (i := 21) rfl))) (by decide) (backOf (W := 0) (rm4 l Z a0 hw [] b49 b51 (j0 &&& (9223372036854775807 : Int64)) (j1 &&& (9223372036854775807 : Int64)) js0_32 js0_52 T52.heap n0 Zs52 ((F50a.ext E51).keep K52 (ninS ne_b49_b51 nin0)) ((F50b.ext E51).keep K52 (ninS ne_b49_b51 nin0)) F52a F52b) hZ (hw _ (List.mem_of_getElem? (i := 23) rfl)) (hw _ (List.mem_of_getElem? (i := 3) rfl)) (by decide) (by decide)) q61a q61c (g := (mkF m 143 #[.val (.long j0), .second, .val (.long j1), .second, .val (.long j2), .second, .val (.long j3), .second, .val (.int i4), .val (.long (j0 &&& (9223372036854775807 : Int64))), .second, .val (.long (j1 &&& (9223372036854775807 : Int64))), .second, .val (.long js0_32), .second, .val (.long js0_52), .second, .val (.ref b49), .val (.ref b51), .val (.int (-1 : Int32)), .unset, .unset] [(.ref b51), (.ref b49)])) rfl (by rw [hml]; rfl) (Steps.refl _) (argsL := [(.ref b51)]) (rest := []) (lenOf pd_3 rfl) rfl (by show 2 * 0 + _ ≤ _; exact Nat.le_of_eq rfl) (hb hby at_143) (fun _ _ => ⟨rfl, rfl, (by decide : 2 + 0 ≤ _), (by decide : 4 + 0 ≤ _)⟩)
        dsimp only [Pt.U, Pt.locs, Pt.cells, Pt.slots] at X61 l61 y61 z61 st61 hQ61
        subst l61 y61 z61
        obtain ⟨rfl, N61q, hh61⟩ := hQ61
        have N61 := Fr.app N52 N61q
        refine own_step (fun _ => st61.trans) ?_
        show own_Ends p e below s _ _ _ T61 (mkF m 146 #[.val (.long j0), .second, .val (.long j1), .second, .val (.long j2), .second, .val (.long j3), .second, .val (.int i4), .val (.long (j0 &&& (9223372036854775807 : Int64))), .second, .val (.long (j1 &&& (9223372036854775807 : Int64))), .second, .val (.long js0_32), .second, .val (.long js0_52), .second, .val (.ref b49), .val (.ref b51), .val (.int (-1 : Int32)), .unset, .unset] [(.int (own_cmp (j0 &&& (9223372036854775807 : Int64)) (j1 &&& (9223372036854775807 : Int64)) js0_32 js0_52))])
        refine own_step (fun _ => XS.istore X61.here hx rfl (hb hby at_146) rfl (l' := #[.val (.long j0), .second, .val (.long j1), .second, .val (.long j2), .second, .val (.long j3), .second, .val (.int i4), .val (.long (j0 &&& (9223372036854775807 : Int64))), .second, .val (.long (j1 &&& (9223372036854775807 : Int64))), .second, .val (.long js0_32), .second, .val (.long js0_52), .second, .val (.ref b49), .val (.ref b51), .val (.int (-1 : Int32)), .val (.int (own_cmp (j0 &&& (9223372036854775807 : Int64)) (j1 &&& (9223372036854775807 : Int64)) js0_32 js0_52)), .unset]) rfl) ?_
        show own_Ends p e below s _ _ _ T61 (mkF m 148 #[.val (.long j0), .second, .val (.long j1), .second, .val (.long j2), .second, .val (.long j3), .second, .val (.int i4), .val (.long (j0 &&& (9223372036854775807 : Int64))), .second, .val (.long (j1 &&& (9223372036854775807 : Int64))), .second, .val (.long js0_32), .second, .val (.long js0_52), .second, .val (.ref b49), .val (.ref b51), .val (.int (-1 : Int32)), .val (.int (own_cmp (j0 &&& (9223372036854775807 : Int64)) (j1 &&& (9223372036854775807 : Int64)) js0_32 js0_52)), .unset] [])
        refine own_step (fun _ => XS.aload X61.here hx rfl (hb hby at_148) rfl rfl) ?_
        show own_Ends p e below s _ _ _ T61 (mkF m 150 #[.val (.long j0), .second, .val (.long j1), .second, .val (.long j2), .second, .val (.long j3), .second, .val (.int i4), .val (.long (j0 &&& (9223372036854775807 : Int64))), .second, .val (.long (j1 &&& (9223372036854775807 : Int64))), .second, .val (.long js0_32), .second, .val (.long js0_52), .second, .val (.ref b49), .val (.ref b51), .val (.int (-1 : Int32)), .val (.int (own_cmp (j0 &&& (9223372036854775807 : Int64)) (j1 &&& (9223372036854775807 : Int64)) js0_32 js0_52)), .unset] [(.ref b51)])
        refine own_step (fun _ => XS.aload X61.here hx rfl (hb hby at_150) rfl rfl) ?_
        show own_Ends p e below s _ _ _ T61 (mkF m 152 #[.val (.long j0), .second, .val (.long j1), .second, .val (.long j2), .second, .val (.long j3), .second, .val (.int i4), .val (.long (j0 &&& (9223372036854775807 : Int64))), .second, .val (.long (j1 &&& (9223372036854775807 : Int64))), .second, .val (.long js0_32), .second, .val (.long js0_52), .second, .val (.ref b49), .val (.ref b51), .val (.int (-1 : Int32)), .val (.int (own_cmp (j0 &&& (9223372036854775807 : Int64)) (j1 &&& (9223372036854775807 : Int64)) js0_32 js0_52)), .unset] [(.ref b49), (.ref b51)])
        obtain ⟨cq62, kq62, q62a, q62b, q62c⟩ := isOf hZ hh61 Ex52
        obtain ⟨_, _, ⟨T62, L62, k62, n62⟩, -, X62, ⟨Lc62, hQ62, l62, y62, z62⟩, st62⟩ := X61.virtualBack hx (y := (⟨"com/example/rollforth/rollforth/log/LogInstant", "compareTo", "(Lcom/example/rollforth/rollforth/log/LogInstant;)I"⟩ : MethodName)) (z := (⟨"com/example/rollforth/rollforth/log/LogInstant", "compareTo", "(Lcom/example/rollforth/rollforth/log/LogInstant;)I"⟩ : MethodName)) hown (mvT hZ (hw _ (List.mem_of_getElem? (i := 19) rfl))) (mvT hZ (hw _ (List.mem_of_getElem? (i := 20) rfl))) (notFace_of_selects (args := #[]) (mvT hZ (hw _ (List.mem_of_getElem? (i := 22) rfl)))) (mvT hZ (hw _ (List.mem_of_getElem? (i := 22) rfl))) (mvT hZ (hw _ (List.mem_of_getElem? (i := 21) rfl))) (by decide) (backOf (W := 0) (rm4 l Z a0 hw [] b51 b49 js0_32 js0_52 (j0 &&& (9223372036854775807 : Int64)) (j1 &&& (9223372036854775807 : Int64)) T52.heap n0 Zs52 F52a F52b ((F50a.ext E51).keep K52 (ninS ne_b49_b51 nin0)) ((F50b.ext E51).keep K52 (ninS ne_b49_b51 nin0))) hZ (hw _ (List.mem_of_getElem? (i := 23) rfl)) (hw _ (List.mem_of_getElem? (i := 3) rfl)) (by decide) (by decide)) q62a q62c (g := (mkF m 152 #[.val (.long j0), .second, .val (.long j1), .second, .val (.long j2), .second, .val (.long j3), .second, .val (.int i4), .val (.long (j0 &&& (9223372036854775807 : Int64))), .second, .val (.long (j1 &&& (9223372036854775807 : Int64))), .second, .val (.long js0_32), .second, .val (.long js0_52), .second, .val (.ref b49), .val (.ref b51), .val (.int (-1 : Int32)), .val (.int (own_cmp (j0 &&& (9223372036854775807 : Int64)) (j1 &&& (9223372036854775807 : Int64)) js0_32 js0_52)), .unset] [(.ref b49), (.ref b51)])) rfl (by rw [hml]; rfl) (Steps.refl _) (argsL := [(.ref b49)]) (rest := []) (lenOf pd_3 rfl) rfl (by show 2 * 0 + _ ≤ _; exact Nat.le_of_eq rfl) (hb hby at_152) (fun _ _ => ⟨rfl, hh61, (by decide : 2 + 0 ≤ _), (by decide : 4 + 0 ≤ _)⟩)
        dsimp only [Pt.U, Pt.locs, Pt.cells, Pt.slots] at X62 l62 y62 z62 st62 hQ62
        subst l62 y62 z62
        obtain ⟨rfl, N62q, hh62⟩ := hQ62
        have N62 := Fr.app N61 N62q
        refine own_step (fun _ => st62.trans) ?_
        show own_Ends p e below s _ _ _ T62 (mkF m 155 #[.val (.long j0), .second, .val (.long j1), .second, .val (.long j2), .second, .val (.long j3), .second, .val (.int i4), .val (.long (j0 &&& (9223372036854775807 : Int64))), .second, .val (.long (j1 &&& (9223372036854775807 : Int64))), .second, .val (.long js0_32), .second, .val (.long js0_52), .second, .val (.ref b49), .val (.ref b51), .val (.int (-1 : Int32)), .val (.int (own_cmp (j0 &&& (9223372036854775807 : Int64)) (j1 &&& (9223372036854775807 : Int64)) js0_32 js0_52)), .unset] [(.int (own_cmp js0_32 js0_52 (j0 &&& (9223372036854775807 : Int64)) (j1 &&& (9223372036854775807 : Int64))))])
        refine own_step (fun _ => XS.istore X62.here hx rfl (hb hby at_155) rfl (l' := #[.val (.long j0), .second, .val (.long j1), .second, .val (.long j2), .second, .val (.long j3), .second, .val (.int i4), .val (.long (j0 &&& (9223372036854775807 : Int64))), .second, .val (.long (j1 &&& (9223372036854775807 : Int64))), .second, .val (.long js0_32), .second, .val (.long js0_52), .second, .val (.ref b49), .val (.ref b51), .val (.int (-1 : Int32)), .val (.int (own_cmp (j0 &&& (9223372036854775807 : Int64)) (j1 &&& (9223372036854775807 : Int64)) js0_32 js0_52)), .val (.int (own_cmp js0_32 js0_52 (j0 &&& (9223372036854775807 : Int64)) (j1 &&& (9223372036854775807 : Int64))))]) rfl) ?_
        show own_Ends p e below s _ _ _ T62 (mkF m 157 #[.val (.long j0), .second, .val (.long j1), .second, .val (.long j2), .second, .val (.long j3), .second, .val (.int i4), .val (.long (j0 &&& (9223372036854775807 : Int64))), .second, .val (.long (j1 &&& (9223372036854775807 : Int64))), .second, .val (.long js0_32), .second, .val (.long js0_52), .second, .val (.ref b49), .val (.ref b51), .val (.int (-1 : Int32)), .val (.int (own_cmp (j0 &&& (9223372036854775807 : Int64)) (j1 &&& (9223372036854775807 : Int64)) js0_32 js0_52)), .val (.int (own_cmp js0_32 js0_52 (j0 &&& (9223372036854775807 : Int64)) (j1 &&& (9223372036854775807 : Int64))))] [])
        refine own_step (fun _ => XS.iload X62.here hx rfl (hb hby at_157) rfl) ?_
        show own_Ends p e below s _ _ _ T62 (mkF m 159 #[.val (.long j0), .second, .val (.long j1), .second, .val (.long j2), .second, .val (.long j3), .second, .val (.int i4), .val (.long (j0 &&& (9223372036854775807 : Int64))), .second, .val (.long (j1 &&& (9223372036854775807 : Int64))), .second, .val (.long js0_32), .second, .val (.long js0_52), .second, .val (.ref b49), .val (.ref b51), .val (.int (-1 : Int32)), .val (.int (own_cmp (j0 &&& (9223372036854775807 : Int64)) (j1 &&& (9223372036854775807 : Int64)) js0_32 js0_52)), .val (.int (own_cmp js0_32 js0_52 (j0 &&& (9223372036854775807 : Int64)) (j1 &&& (9223372036854775807 : Int64))))] [(.int (own_cmp (j0 &&& (9223372036854775807 : Int64)) (j1 &&& (9223372036854775807 : Int64)) js0_32 js0_52))])
        obtain ⟨_, _, ⟨T63, L63, k63, n63⟩, -, X63, ⟨Lc63, hQ63, l63, y63, z63⟩, st63⟩ := Jvm.LawKit.callS X62 hx (y := (⟨"com/example/rollforth/rollforth/log/LogInstantCompareToPinLaw", "sign", "(I)I"⟩ : MethodName)) hown (mvT hZ (hw _ (List.mem_of_getElem? (i := 28) rfl))) (mvT hZ (hw _ (List.mem_of_getElem? (i := 29) rfl))) (mvT hZ (hw _ (List.mem_of_getElem? (i := 30) rfl))) (mvT hZ (hw _ (List.mem_of_getElem? (i := 31) rfl))) (by decide) (backOf (W := 0) (rm6 l Z a0 hw [] (own_cmp (j0 &&& (9223372036854775807 : Int64)) (j1 &&& (9223372036854775807 : Int64)) js0_32 js0_52) T52.heap n0 Zs52) hZ (hw _ (List.mem_of_getElem? (i := 31) rfl)) (hw _ (List.mem_of_getElem? (i := 30) rfl)) (by decide) (by decide)) (g := (mkF m 159 #[.val (.long j0), .second, .val (.long j1), .second, .val (.long j2), .second, .val (.long j3), .second, .val (.int i4), .val (.long (j0 &&& (9223372036854775807 : Int64))), .second, .val (.long (j1 &&& (9223372036854775807 : Int64))), .second, .val (.long js0_32), .second, .val (.long js0_52), .second, .val (.ref b49), .val (.ref b51), .val (.int (-1 : Int32)), .val (.int (own_cmp (j0 &&& (9223372036854775807 : Int64)) (j1 &&& (9223372036854775807 : Int64)) js0_32 js0_52)), .val (.int (own_cmp js0_32 js0_52 (j0 &&& (9223372036854775807 : Int64)) (j1 &&& (9223372036854775807 : Int64))))] [(.int (own_cmp (j0 &&& (9223372036854775807 : Int64)) (j1 &&& (9223372036854775807 : Int64)) js0_32 js0_52))])) rfl (by rw [hml]; rfl) (argsL := [(.int (own_cmp (j0 &&& (9223372036854775807 : Int64)) (j1 &&& (9223372036854775807 : Int64)) js0_32 js0_52))]) (rest := []) (lenOf pd_4 rfl) rfl (by show 2 * 0 + _ ≤ _; exact Nat.le_of_eq rfl) (hb hby at_159) (fun _ _ => ⟨rfl, hh62, (by decide : 2 + 0 ≤ _), (by decide : 4 + 0 ≤ _)⟩)
        dsimp only [Pt.U, Pt.locs, Pt.cells, Pt.slots] at X63 l63 y63 z63 st63 hQ63
        subst l63 y63 z63
        obtain ⟨rfl, N63q, hh63⟩ := hQ63
        have N63 := Fr.app N62 N63q
        refine own_step st63 ?_
        show own_Ends p e below s _ _ _ T63 (mkF m 162 #[.val (.long j0), .second, .val (.long j1), .second, .val (.long j2), .second, .val (.long j3), .second, .val (.int i4), .val (.long (j0 &&& (9223372036854775807 : Int64))), .second, .val (.long (j1 &&& (9223372036854775807 : Int64))), .second, .val (.long js0_32), .second, .val (.long js0_52), .second, .val (.ref b49), .val (.ref b51), .val (.int (-1 : Int32)), .val (.int (own_cmp (j0 &&& (9223372036854775807 : Int64)) (j1 &&& (9223372036854775807 : Int64)) js0_32 js0_52)), .val (.int (own_cmp js0_32 js0_52 (j0 &&& (9223372036854775807 : Int64)) (j1 &&& (9223372036854775807 : Int64))))] [(.int (f6_0 (own_cmp (j0 &&& (9223372036854775807 : Int64)) (j1 &&& (9223372036854775807 : Int64)) js0_32 js0_52)))])
        refine own_step (fun _ => XS.iload X63.here hx rfl (hb hby at_162) rfl) ?_
        show own_Ends p e below s _ _ _ T63 (mkF m 164 #[.val (.long j0), .second, .val (.long j1), .second, .val (.long j2), .second, .val (.long j3), .second, .val (.int i4), .val (.long (j0 &&& (9223372036854775807 : Int64))), .second, .val (.long (j1 &&& (9223372036854775807 : Int64))), .second, .val (.long js0_32), .second, .val (.long js0_52), .second, .val (.ref b49), .val (.ref b51), .val (.int (-1 : Int32)), .val (.int (own_cmp (j0 &&& (9223372036854775807 : Int64)) (j1 &&& (9223372036854775807 : Int64)) js0_32 js0_52)), .val (.int (own_cmp js0_32 js0_52 (j0 &&& (9223372036854775807 : Int64)) (j1 &&& (9223372036854775807 : Int64))))] [(.int (-1 : Int32)), (.int (f6_0 (own_cmp (j0 &&& (9223372036854775807 : Int64)) (j1 &&& (9223372036854775807 : Int64)) js0_32 js0_52)))])
        by_cases hc164 : (f6_0 (own_cmp (j0 &&& (9223372036854775807 : Int64)) (j1 &&& (9223372036854775807 : Int64)) js0_32 js0_52)) = (-1 : Int32)
        · have hv_f_f_t_t := hv_f_f_t.trans (if_pos hc164)
          refine own_step (fun _ => XS.icmpNo X63.here hx rfl (hb hby at_164) rfl (teq hc164).2) ?_
          show own_Ends p e below s _ _ _ T63 (mkF m 167 #[.val (.long j0), .second, .val (.long j1), .second, .val (.long j2), .second, .val (.long j3), .second, .val (.int i4), .val (.long (j0 &&& (9223372036854775807 : Int64))), .second, .val (.long (j1 &&& (9223372036854775807 : Int64))), .second, .val (.long js0_32), .second, .val (.long js0_52), .second, .val (.ref b49), .val (.ref b51), .val (.int (-1 : Int32)), .val (.int (own_cmp (j0 &&& (9223372036854775807 : Int64)) (j1 &&& (9223372036854775807 : Int64)) js0_32 js0_52)), .val (.int (own_cmp js0_32 js0_52 (j0 &&& (9223372036854775807 : Int64)) (j1 &&& (9223372036854775807 : Int64))))] [])
          refine own_step (fun _ => XS.iload X63.here hx rfl (hb hby at_167) rfl) ?_
          show own_Ends p e below s _ _ _ T63 (mkF m 169 #[.val (.long j0), .second, .val (.long j1), .second, .val (.long j2), .second, .val (.long j3), .second, .val (.int i4), .val (.long (j0 &&& (9223372036854775807 : Int64))), .second, .val (.long (j1 &&& (9223372036854775807 : Int64))), .second, .val (.long js0_32), .second, .val (.long js0_52), .second, .val (.ref b49), .val (.ref b51), .val (.int (-1 : Int32)), .val (.int (own_cmp (j0 &&& (9223372036854775807 : Int64)) (j1 &&& (9223372036854775807 : Int64)) js0_32 js0_52)), .val (.int (own_cmp js0_32 js0_52 (j0 &&& (9223372036854775807 : Int64)) (j1 &&& (9223372036854775807 : Int64))))] [(.int (own_cmp js0_32 js0_52 (j0 &&& (9223372036854775807 : Int64)) (j1 &&& (9223372036854775807 : Int64))))])
          obtain ⟨_, _, ⟨T64, L64, k64, n64⟩, -, X64, ⟨Lc64, hQ64, l64, y64, z64⟩, st64⟩ := Jvm.LawKit.callS X63 hx (y := (⟨"com/example/rollforth/rollforth/log/LogInstantCompareToPinLaw", "sign", "(I)I"⟩ : MethodName)) hown (mvT hZ (hw _ (List.mem_of_getElem? (i := 28) rfl))) (mvT hZ (hw _ (List.mem_of_getElem? (i := 29) rfl))) (mvT hZ (hw _ (List.mem_of_getElem? (i := 30) rfl))) (mvT hZ (hw _ (List.mem_of_getElem? (i := 31) rfl))) (by decide) (backOf (W := 0) (rm6 l Z a0 hw [] (own_cmp js0_32 js0_52 (j0 &&& (9223372036854775807 : Int64)) (j1 &&& (9223372036854775807 : Int64))) T52.heap n0 Zs52) hZ (hw _ (List.mem_of_getElem? (i := 31) rfl)) (hw _ (List.mem_of_getElem? (i := 30) rfl)) (by decide) (by decide)) (g := (mkF m 169 #[.val (.long j0), .second, .val (.long j1), .second, .val (.long j2), .second, .val (.long j3), .second, .val (.int i4), .val (.long (j0 &&& (9223372036854775807 : Int64))), .second, .val (.long (j1 &&& (9223372036854775807 : Int64))), .second, .val (.long js0_32), .second, .val (.long js0_52), .second, .val (.ref b49), .val (.ref b51), .val (.int (-1 : Int32)), .val (.int (own_cmp (j0 &&& (9223372036854775807 : Int64)) (j1 &&& (9223372036854775807 : Int64)) js0_32 js0_52)), .val (.int (own_cmp js0_32 js0_52 (j0 &&& (9223372036854775807 : Int64)) (j1 &&& (9223372036854775807 : Int64))))] [(.int (own_cmp js0_32 js0_52 (j0 &&& (9223372036854775807 : Int64)) (j1 &&& (9223372036854775807 : Int64))))])) rfl (by rw [hml]; rfl) (argsL := [(.int (own_cmp js0_32 js0_52 (j0 &&& (9223372036854775807 : Int64)) (j1 &&& (9223372036854775807 : Int64))))]) (rest := []) (lenOf pd_4 rfl) rfl (by show 2 * 0 + _ ≤ _; exact Nat.le_of_eq rfl) (hb hby at_169) (fun _ _ => ⟨rfl, hh63, (by decide : 2 + 0 ≤ _), (by decide : 4 + 0 ≤ _)⟩)
          dsimp only [Pt.U, Pt.locs, Pt.cells, Pt.slots] at X64 l64 y64 z64 st64 hQ64
          subst l64 y64 z64
          obtain ⟨rfl, N64q, hh64⟩ := hQ64
          have N64 := Fr.app N63 N64q
          refine own_step st64 ?_
          show own_Ends p e below s _ _ _ T64 (mkF m 172 #[.val (.long j0), .second, .val (.long j1), .second, .val (.long j2), .second, .val (.long j3), .second, .val (.int i4), .val (.long (j0 &&& (9223372036854775807 : Int64))), .second, .val (.long (j1 &&& (9223372036854775807 : Int64))), .second, .val (.long js0_32), .second, .val (.long js0_52), .second, .val (.ref b49), .val (.ref b51), .val (.int (-1 : Int32)), .val (.int (own_cmp (j0 &&& (9223372036854775807 : Int64)) (j1 &&& (9223372036854775807 : Int64)) js0_32 js0_52)), .val (.int (own_cmp js0_32 js0_52 (j0 &&& (9223372036854775807 : Int64)) (j1 &&& (9223372036854775807 : Int64))))] [(.int (f6_0 (own_cmp js0_32 js0_52 (j0 &&& (9223372036854775807 : Int64)) (j1 &&& (9223372036854775807 : Int64)))))])
          refine own_step (fun _ => XS.iload X64.here hx rfl (hb hby at_172) rfl) ?_
          show own_Ends p e below s _ _ _ T64 (mkF m 174 #[.val (.long j0), .second, .val (.long j1), .second, .val (.long j2), .second, .val (.long j3), .second, .val (.int i4), .val (.long (j0 &&& (9223372036854775807 : Int64))), .second, .val (.long (j1 &&& (9223372036854775807 : Int64))), .second, .val (.long js0_32), .second, .val (.long js0_52), .second, .val (.ref b49), .val (.ref b51), .val (.int (-1 : Int32)), .val (.int (own_cmp (j0 &&& (9223372036854775807 : Int64)) (j1 &&& (9223372036854775807 : Int64)) js0_32 js0_52)), .val (.int (own_cmp js0_32 js0_52 (j0 &&& (9223372036854775807 : Int64)) (j1 &&& (9223372036854775807 : Int64))))] [(.int (-1 : Int32)), (.int (f6_0 (own_cmp js0_32 js0_52 (j0 &&& (9223372036854775807 : Int64)) (j1 &&& (9223372036854775807 : Int64)))))])
          refine own_step (fun _ => XS.ineg X64.here hx rfl (hb hby at_174) rfl) ?_
          show own_Ends p e below s _ _ _ T64 (mkF m 175 #[.val (.long j0), .second, .val (.long j1), .second, .val (.long j2), .second, .val (.long j3), .second, .val (.int i4), .val (.long (j0 &&& (9223372036854775807 : Int64))), .second, .val (.long (j1 &&& (9223372036854775807 : Int64))), .second, .val (.long js0_32), .second, .val (.long js0_52), .second, .val (.ref b49), .val (.ref b51), .val (.int (-1 : Int32)), .val (.int (own_cmp (j0 &&& (9223372036854775807 : Int64)) (j1 &&& (9223372036854775807 : Int64)) js0_32 js0_52)), .val (.int (own_cmp js0_32 js0_52 (j0 &&& (9223372036854775807 : Int64)) (j1 &&& (9223372036854775807 : Int64))))] [(.int (-(-1 : Int32))), (.int (f6_0 (own_cmp js0_32 js0_52 (j0 &&& (9223372036854775807 : Int64)) (j1 &&& (9223372036854775807 : Int64)))))])
          by_cases hc175 : (f6_0 (own_cmp js0_32 js0_52 (j0 &&& (9223372036854775807 : Int64)) (j1 &&& (9223372036854775807 : Int64)))) = (-(-1 : Int32))
          · have hv_f_f_t_t_t := hv_f_f_t_t.trans (if_pos hc175)
            refine own_step (fun _ => XS.icmpNo X64.here hx rfl (hb hby at_175) rfl (teq hc175).2) ?_
            show own_Ends p e below s _ _ _ T64 (mkF m 178 #[.val (.long j0), .second, .val (.long j1), .second, .val (.long j2), .second, .val (.long j3), .second, .val (.int i4), .val (.long (j0 &&& (9223372036854775807 : Int64))), .second, .val (.long (j1 &&& (9223372036854775807 : Int64))), .second, .val (.long js0_32), .second, .val (.long js0_52), .second, .val (.ref b49), .val (.ref b51), .val (.int (-1 : Int32)), .val (.int (own_cmp (j0 &&& (9223372036854775807 : Int64)) (j1 &&& (9223372036854775807 : Int64)) js0_32 js0_52)), .val (.int (own_cmp js0_32 js0_52 (j0 &&& (9223372036854775807 : Int64)) (j1 &&& (9223372036854775807 : Int64))))] [])
            refine own_step (fun _ => XS.iconst X64.here hx rfl (hb hby at_178)) ?_
            show own_Ends p e below s _ _ _ T64 (mkF m 179 #[.val (.long j0), .second, .val (.long j1), .second, .val (.long j2), .second, .val (.long j3), .second, .val (.int i4), .val (.long (j0 &&& (9223372036854775807 : Int64))), .second, .val (.long (j1 &&& (9223372036854775807 : Int64))), .second, .val (.long js0_32), .second, .val (.long js0_52), .second, .val (.ref b49), .val (.ref b51), .val (.int (-1 : Int32)), .val (.int (own_cmp (j0 &&& (9223372036854775807 : Int64)) (j1 &&& (9223372036854775807 : Int64)) js0_32 js0_52)), .val (.int (own_cmp js0_32 js0_52 (j0 &&& (9223372036854775807 : Int64)) (j1 &&& (9223372036854775807 : Int64))))] [(.int (1 : Int32))])
            refine own_step (fun _ => XS.goto X64.here hx rfl (pc0 := 179) (pc' := 183) rfl (hb hby at_179) (by decide) (by decide)) ?_
            show own_Ends p e below s _ _ _ T64 (mkF m 183 #[.val (.long j0), .second, .val (.long j1), .second, .val (.long j2), .second, .val (.long j3), .second, .val (.int i4), .val (.long (j0 &&& (9223372036854775807 : Int64))), .second, .val (.long (j1 &&& (9223372036854775807 : Int64))), .second, .val (.long js0_32), .second, .val (.long js0_52), .second, .val (.ref b49), .val (.ref b51), .val (.int (-1 : Int32)), .val (.int (own_cmp (j0 &&& (9223372036854775807 : Int64)) (j1 &&& (9223372036854775807 : Int64)) js0_32 js0_52)), .val (.int (own_cmp js0_32 js0_52 (j0 &&& (9223372036854775807 : Int64)) (j1 &&& (9223372036854775807 : Int64))))] [(.int (1 : Int32))])
            exact own_retN X64 (t := .boolean) hx hret hlk (hb hby at_183) (by decide) (by decide) (by simp) ⟨congrArg (fun z => some (Value.int z)) hv_f_f_t_t_t.symm, N64, trivial⟩
          · have hv_f_f_t_t_f := hv_f_f_t_t.trans (if_neg hc175)
            refine own_step (fun _ => XS.icmpYes X64.here hx rfl (pc0 := 175) (pc' := 182) rfl (hb hby at_175) rfl (feq hc175).2 (by decide) (by decide)) ?_
            show own_Ends p e below s _ _ _ T64 (mkF m 182 #[.val (.long j0), .second, .val (.long j1), .second, .val (.long j2), .second, .val (.long j3), .second, .val (.int i4), .val (.long (j0 &&& (9223372036854775807 : Int64))), .second, .val (.long (j1 &&& (9223372036854775807 : Int64))), .second, .val (.long js0_32), .second, .val (.long js0_52), .second, .val (.ref b49), .val (.ref b51), .val (.int (-1 : Int32)), .val (.int (own_cmp (j0 &&& (9223372036854775807 : Int64)) (j1 &&& (9223372036854775807 : Int64)) js0_32 js0_52)), .val (.int (own_cmp js0_32 js0_52 (j0 &&& (9223372036854775807 : Int64)) (j1 &&& (9223372036854775807 : Int64))))] [])
            refine own_step (fun _ => XS.iconst X64.here hx rfl (hb hby at_182)) ?_
            show own_Ends p e below s _ _ _ T64 (mkF m 183 #[.val (.long j0), .second, .val (.long j1), .second, .val (.long j2), .second, .val (.long j3), .second, .val (.int i4), .val (.long (j0 &&& (9223372036854775807 : Int64))), .second, .val (.long (j1 &&& (9223372036854775807 : Int64))), .second, .val (.long js0_32), .second, .val (.long js0_52), .second, .val (.ref b49), .val (.ref b51), .val (.int (-1 : Int32)), .val (.int (own_cmp (j0 &&& (9223372036854775807 : Int64)) (j1 &&& (9223372036854775807 : Int64)) js0_32 js0_52)), .val (.int (own_cmp js0_32 js0_52 (j0 &&& (9223372036854775807 : Int64)) (j1 &&& (9223372036854775807 : Int64))))] [(.int (0 : Int32))])
            exact own_retN X64 (t := .boolean) hx hret hlk (hb hby at_183) (by decide) (by decide) (by simp) ⟨congrArg (fun z => some (Value.int z)) hv_f_f_t_t_f.symm, N64, trivial⟩
        · have hv_f_f_t_f := hv_f_f_t.trans (if_neg hc164)
          refine own_step (fun _ => XS.icmpYes X63.here hx rfl (pc0 := 164) (pc' := 182) rfl (hb hby at_164) rfl (feq hc164).2 (by decide) (by decide)) ?_
          show own_Ends p e below s _ _ _ T63 (mkF m 182 #[.val (.long j0), .second, .val (.long j1), .second, .val (.long j2), .second, .val (.long j3), .second, .val (.int i4), .val (.long (j0 &&& (9223372036854775807 : Int64))), .second, .val (.long (j1 &&& (9223372036854775807 : Int64))), .second, .val (.long js0_32), .second, .val (.long js0_52), .second, .val (.ref b49), .val (.ref b51), .val (.int (-1 : Int32)), .val (.int (own_cmp (j0 &&& (9223372036854775807 : Int64)) (j1 &&& (9223372036854775807 : Int64)) js0_32 js0_52)), .val (.int (own_cmp js0_32 js0_52 (j0 &&& (9223372036854775807 : Int64)) (j1 &&& (9223372036854775807 : Int64))))] [])
          refine own_step (fun _ => XS.iconst X63.here hx rfl (hb hby at_182)) ?_
          show own_Ends p e below s _ _ _ T63 (mkF m 183 #[.val (.long j0), .second, .val (.long j1), .second, .val (.long j2), .second, .val (.long j3), .second, .val (.int i4), .val (.long (j0 &&& (9223372036854775807 : Int64))), .second, .val (.long (j1 &&& (9223372036854775807 : Int64))), .second, .val (.long js0_32), .second, .val (.long js0_52), .second, .val (.ref b49), .val (.ref b51), .val (.int (-1 : Int32)), .val (.int (own_cmp (j0 &&& (9223372036854775807 : Int64)) (j1 &&& (9223372036854775807 : Int64)) js0_32 js0_52)), .val (.int (own_cmp js0_32 js0_52 (j0 &&& (9223372036854775807 : Int64)) (j1 &&& (9223372036854775807 : Int64))))] [(.int (0 : Int32))])
          exact own_retN X63 (t := .boolean) hx hret hlk (hb hby at_183) (by decide) (by decide) (by simp) ⟨congrArg (fun z => some (Value.int z)) hv_f_f_t_f.symm, N63, trivial⟩
      · have hv_f_f_f := hv_f_f.trans (if_neg hc113)
        refine own_step (fun _ => XS.ifYes X52.here hx rfl (pc0 := 113) (pc' := 122) rfl (hb hby at_113) rfl ((if0 _ _).trans (flt (fun q => hc113 ((lw_lt _ _).mp q))).2.1) (by decide) (by decide)) ?_
        show own_Ends p e below s _ _ _ T52 (mkF m 122 #[.val (.long j0), .second, .val (.long j1), .second, .val (.long j2), .second, .val (.long j3), .second, .val (.int i4), .val (.long (j0 &&& (9223372036854775807 : Int64))), .second, .val (.long (j1 &&& (9223372036854775807 : Int64))), .second, .val (.long js0_32), .second, .val (.long js0_52), .second, .val (.ref b49), .val (.ref b51), .unset, .unset, .unset] [])
        refine own_step (fun _ => XS.lload X52.here hx rfl (hb hby at_122) rfl) ?_
        show own_Ends p e below s _ _ _ T52 (mkF m 124 #[.val (.long j0), .second, .val (.long j1), .second, .val (.long j2), .second, .val (.long j3), .second, .val (.int i4), .val (.long (j0 &&& (9223372036854775807 : Int64))), .second, .val (.long (j1 &&& (9223372036854775807 : Int64))), .second, .val (.long js0_32), .second, .val (.long js0_52), .second, .val (.ref b49), .val (.ref b51), .unset, .unset, .unset] [(.long (j1 &&& (9223372036854775807 : Int64)))])
        refine own_step (fun _ => XS.lload X52.here hx rfl (hb hby at_124) rfl) ?_
        show own_Ends p e below s _ _ _ T52 (mkF m 126 #[.val (.long j0), .second, .val (.long j1), .second, .val (.long j2), .second, .val (.long j3), .second, .val (.int i4), .val (.long (j0 &&& (9223372036854775807 : Int64))), .second, .val (.long (j1 &&& (9223372036854775807 : Int64))), .second, .val (.long js0_32), .second, .val (.long js0_52), .second, .val (.ref b49), .val (.ref b51), .unset, .unset, .unset] [(.long js0_52), (.long (j1 &&& (9223372036854775807 : Int64)))])
        refine own_step (fun _ => XS.lcmp X52.here hx rfl (hb hby at_126) rfl) ?_
        show own_Ends p e below s _ _ _ T52 (mkF m 127 #[.val (.long j0), .second, .val (.long j1), .second, .val (.long j2), .second, .val (.long j3), .second, .val (.int i4), .val (.long (j0 &&& (9223372036854775807 : Int64))), .second, .val (.long (j1 &&& (9223372036854775807 : Int64))), .second, .val (.long js0_32), .second, .val (.long js0_52), .second, .val (.ref b49), .val (.ref b51), .unset, .unset, .unset] [(.int (lcmpW (j1 &&& (9223372036854775807 : Int64)) js0_52))])
        by_cases hc127 : js0_52 < (j1 &&& (9223372036854775807 : Int64))
        · have hv_f_f_f_t := hv_f_f_f.trans (if_pos hc127)
          refine own_step (fun _ => XS.ifNo X52.here hx rfl (hb hby at_127) rfl ((if0 _ _).trans (tlt ((lw_gt _ _).mpr hc127)).2.2.2)) ?_
          show own_Ends p e below s _ _ _ T52 (mkF m 130 #[.val (.long j0), .second, .val (.long j1), .second, .val (.long j2), .second, .val (.long j3), .second, .val (.int i4), .val (.long (j0 &&& (9223372036854775807 : Int64))), .second, .val (.long (j1 &&& (9223372036854775807 : Int64))), .second, .val (.long js0_32), .second, .val (.long js0_52), .second, .val (.ref b49), .val (.ref b51), .unset, .unset, .unset] [])
          refine own_step (fun _ => XS.iconst X52.here hx rfl (hb hby at_130)) ?_
          show own_Ends p e below s _ _ _ T52 (mkF m 131 #[.val (.long j0), .second, .val (.long j1), .second, .val (.long j2), .second, .val (.long j3), .second, .val (.int i4), .val (.long (j0 &&& (9223372036854775807 : Int64))), .second, .val (.long (j1 &&& (9223372036854775807 : Int64))), .second, .val (.long js0_32), .second, .val (.long js0_52), .second, .val (.ref b49), .val (.ref b51), .unset, .unset, .unset] [(.int (1 : Int32))])
          refine own_step (fun _ => XS.istore X52.here hx rfl (hb hby at_131) rfl (l' := #[.val (.long j0), .second, .val (.long j1), .second, .val (.long j2), .second, .val (.long j3), .second, .val (.int i4), .val (.long (j0 &&& (9223372036854775807 : Int64))), .second, .val (.long (j1 &&& (9223372036854775807 : Int64))), .second, .val (.long js0_32), .second, .val (.long js0_52), .second, .val (.ref b49), .val (.ref b51), .val (.int (1 : Int32)), .unset, .unset]) rfl) ?_
          show own_Ends p e below s _ _ _ T52 (mkF m 133 #[.val (.long j0), .second, .val (.long j1), .second, .val (.long j2), .second, .val (.long j3), .second, .val (.int i4), .val (.long (j0 &&& (9223372036854775807 : Int64))), .second, .val (.long (j1 &&& (9223372036854775807 : Int64))), .second, .val (.long js0_32), .second, .val (.long js0_52), .second, .val (.ref b49), .val (.ref b51), .val (.int (1 : Int32)), .unset, .unset] [])
          refine own_step (fun _ => XS.goto X52.here hx rfl (pc0 := 133) (pc' := 139) rfl (hb hby at_133) (by decide) (by decide)) ?_
          show own_Ends p e below s _ _ _ T52 (mkF m 139 #[.val (.long j0), .second, .val (.long j1), .second, .val (.long j2), .second, .val (.long j3), .second, .val (.int i4), .val (.long (j0 &&& (9223372036854775807 : Int64))), .second, .val (.long (j1 &&& (9223372036854775807 : Int64))), .second, .val (.long js0_32), .second, .val (.long js0_52), .second, .val (.ref b49), .val (.ref b51), .val (.int (1 : Int32)), .unset, .unset] [])
          refine own_step (fun _ => XS.aload X52.here hx rfl (hb hby at_139) rfl rfl) ?_
          show own_Ends p e below s _ _ _ T52 (mkF m 141 #[.val (.long j0), .second, .val (.long j1), .second, .val (.long j2), .second, .val (.long j3), .second, .val (.int i4), .val (.long (j0 &&& (9223372036854775807 : Int64))), .second, .val (.long (j1 &&& (9223372036854775807 : Int64))), .second, .val (.long js0_32), .second, .val (.long js0_52), .second, .val (.ref b49), .val (.ref b51), .val (.int (1 : Int32)), .unset, .unset] [(.ref b49)])
          refine own_step (fun _ => XS.aload X52.here hx rfl (hb hby at_141) rfl rfl) ?_
          show own_Ends p e below s _ _ _ T52 (mkF m 143 #[.val (.long j0), .second, .val (.long j1), .second, .val (.long j2), .second, .val (.long j3), .second, .val (.int i4), .val (.long (j0 &&& (9223372036854775807 : Int64))), .second, .val (.long (j1 &&& (9223372036854775807 : Int64))), .second, .val (.long js0_32), .second, .val (.long js0_52), .second, .val (.ref b49), .val (.ref b51), .val (.int (1 : Int32)), .unset, .unset] [(.ref b51), (.ref b49)])
          obtain ⟨cq65, kq65, q65a, q65b, q65c⟩ := isOf hZ rfl ((Ex50.ext E51).keep K52)
          obtain ⟨_, _, ⟨T65, L65, k65, n65⟩, -, X65, ⟨Lc65, hQ65, l65, y65, z65⟩, st65⟩ := X52.virtualBack hx (y := (⟨"com/example/rollforth/rollforth/log/LogInstant", "compareTo", "(Lcom/example/rollforth/rollforth/log/LogInstant;)I"⟩ : MethodName)) (z := (⟨"com/example/rollforth/rollforth/log/LogInstant", "compareTo", "(Lcom/example/rollforth/rollforth/log/LogInstant;)I"⟩ : MethodName)) hown (mvT hZ (hw _ (List.mem_of_getElem? (i := 19) rfl))) (mvT hZ (hw _ (List.mem_of_getElem? (i := 20) rfl))) (notFace_of_selects (args := #[]) (mvT hZ (hw _ (List.mem_of_getElem? (i := 22) rfl)))) (mvT hZ (hw _ (List.mem_of_getElem? (i := 22) rfl))) (mvT hZ (hw _ (List.mem_of_getElem? (i := 21) rfl))) (by decide) (backOf (W := 0) (rm4 l Z a0 hw [] b49 b51 (j0 &&& (9223372036854775807 : Int64)) (j1 &&& (9223372036854775807 : Int64)) js0_32 js0_52 T52.heap n0 Zs52 ((F50a.ext E51).keep K52 (ninS ne_b49_b51 nin0)) ((F50b.ext E51).keep K52 (ninS ne_b49_b51 nin0)) F52a F52b) hZ (hw _ (List.mem_of_getElem? (i := 23) rfl)) (hw _ (List.mem_of_getElem? (i := 3) rfl)) (by decide) (by decide)) q65a q65c (g := (mkF m 143 #[.val (.long j0), .second, .val (.long j1), .second, .val (.long j2), .second, .val (.long j3), .second, .val (.int i4), .val (.long (j0 &&& (9223372036854775807 : Int64))), .second, .val (.long (j1 &&& (9223372036854775807 : Int64))), .second, .val (.long js0_32), .second, .val (.long js0_52), .second, .val (.ref b49), .val (.ref b51), .val (.int (1 : Int32)), .unset, .unset] [(.ref b51), (.ref b49)])) rfl (by rw [hml]; rfl) (Steps.refl _) (argsL := [(.ref b51)]) (rest := []) (lenOf pd_3 rfl) rfl (by show 2 * 0 + _ ≤ _; exact Nat.le_of_eq rfl) (hb hby at_143) (fun _ _ => ⟨rfl, rfl, (by decide : 2 + 0 ≤ _), (by decide : 4 + 0 ≤ _)⟩)
          dsimp only [Pt.U, Pt.locs, Pt.cells, Pt.slots] at X65 l65 y65 z65 st65 hQ65
          subst l65 y65 z65
          obtain ⟨rfl, N65q, hh65⟩ := hQ65
          have N65 := Fr.app N52 N65q
          refine own_step (fun _ => st65.trans) ?_
          show own_Ends p e below s _ _ _ T65 (mkF m 146 #[.val (.long j0), .second, .val (.long j1), .second, .val (.long j2), .second, .val (.long j3), .second, .val (.int i4), .val (.long (j0 &&& (9223372036854775807 : Int64))), .second, .val (.long (j1 &&& (9223372036854775807 : Int64))), .second, .val (.long js0_32), .second, .val (.long js0_52), .second, .val (.ref b49), .val (.ref b51), .val (.int (1 : Int32)), .unset, .unset] [(.int (own_cmp (j0 &&& (9223372036854775807 : Int64)) (j1 &&& (9223372036854775807 : Int64)) js0_32 js0_52))])
          refine own_step (fun _ => XS.istore X65.here hx rfl (hb hby at_146) rfl (l' := #[.val (.long j0), .second, .val (.long j1), .second, .val (.long j2), .second, .val (.long j3), .second, .val (.int i4), .val (.long (j0 &&& (9223372036854775807 : Int64))), .second, .val (.long (j1 &&& (9223372036854775807 : Int64))), .second, .val (.long js0_32), .second, .val (.long js0_52), .second, .val (.ref b49), .val (.ref b51), .val (.int (1 : Int32)), .val (.int (own_cmp (j0 &&& (9223372036854775807 : Int64)) (j1 &&& (9223372036854775807 : Int64)) js0_32 js0_52)), .unset]) rfl) ?_
          show own_Ends p e below s _ _ _ T65 (mkF m 148 #[.val (.long j0), .second, .val (.long j1), .second, .val (.long j2), .second, .val (.long j3), .second, .val (.int i4), .val (.long (j0 &&& (9223372036854775807 : Int64))), .second, .val (.long (j1 &&& (9223372036854775807 : Int64))), .second, .val (.long js0_32), .second, .val (.long js0_52), .second, .val (.ref b49), .val (.ref b51), .val (.int (1 : Int32)), .val (.int (own_cmp (j0 &&& (9223372036854775807 : Int64)) (j1 &&& (9223372036854775807 : Int64)) js0_32 js0_52)), .unset] [])
          refine own_step (fun _ => XS.aload X65.here hx rfl (hb hby at_148) rfl rfl) ?_
          show own_Ends p e below s _ _ _ T65 (mkF m 150 #[.val (.long j0), .second, .val (.long j1), .second, .val (.long j2), .second, .val (.long j3), .second, .val (.int i4), .val (.long (j0 &&& (9223372036854775807 : Int64))), .second, .val (.long (j1 &&& (9223372036854775807 : Int64))), .second, .val (.long js0_32), .second, .val (.long js0_52), .second, .val (.ref b49), .val (.ref b51), .val (.int (1 : Int32)), .val (.int (own_cmp (j0 &&& (9223372036854775807 : Int64)) (j1 &&& (9223372036854775807 : Int64)) js0_32 js0_52)), .unset] [(.ref b51)])
          refine own_step (fun _ => XS.aload X65.here hx rfl (hb hby at_150) rfl rfl) ?_
          show own_Ends p e below s _ _ _ T65 (mkF m 152 #[.val (.long j0), .second, .val (.long j1), .second, .val (.long j2), .second, .val (.long j3), .second, .val (.int i4), .val (.long (j0 &&& (9223372036854775807 : Int64))), .second, .val (.long (j1 &&& (9223372036854775807 : Int64))), .second, .val (.long js0_32), .second, .val (.long js0_52), .second, .val (.ref b49), .val (.ref b51), .val (.int (1 : Int32)), .val (.int (own_cmp (j0 &&& (9223372036854775807 : Int64)) (j1 &&& (9223372036854775807 : Int64)) js0_32 js0_52)), .unset] [(.ref b49), (.ref b51)])
          obtain ⟨cq66, kq66, q66a, q66b, q66c⟩ := isOf hZ hh65 Ex52
          obtain ⟨_, _, ⟨T66, L66, k66, n66⟩, -, X66, ⟨Lc66, hQ66, l66, y66, z66⟩, st66⟩ := X65.virtualBack hx (y := (⟨"com/example/rollforth/rollforth/log/LogInstant", "compareTo", "(Lcom/example/rollforth/rollforth/log/LogInstant;)I"⟩ : MethodName)) (z := (⟨"com/example/rollforth/rollforth/log/LogInstant", "compareTo", "(Lcom/example/rollforth/rollforth/log/LogInstant;)I"⟩ : MethodName)) hown (mvT hZ (hw _ (List.mem_of_getElem? (i := 19) rfl))) (mvT hZ (hw _ (List.mem_of_getElem? (i := 20) rfl))) (notFace_of_selects (args := #[]) (mvT hZ (hw _ (List.mem_of_getElem? (i := 22) rfl)))) (mvT hZ (hw _ (List.mem_of_getElem? (i := 22) rfl))) (mvT hZ (hw _ (List.mem_of_getElem? (i := 21) rfl))) (by decide) (backOf (W := 0) (rm4 l Z a0 hw [] b51 b49 js0_32 js0_52 (j0 &&& (9223372036854775807 : Int64)) (j1 &&& (9223372036854775807 : Int64)) T52.heap n0 Zs52 F52a F52b ((F50a.ext E51).keep K52 (ninS ne_b49_b51 nin0)) ((F50b.ext E51).keep K52 (ninS ne_b49_b51 nin0))) hZ (hw _ (List.mem_of_getElem? (i := 23) rfl)) (hw _ (List.mem_of_getElem? (i := 3) rfl)) (by decide) (by decide)) q66a q66c (g := (mkF m 152 #[.val (.long j0), .second, .val (.long j1), .second, .val (.long j2), .second, .val (.long j3), .second, .val (.int i4), .val (.long (j0 &&& (9223372036854775807 : Int64))), .second, .val (.long (j1 &&& (9223372036854775807 : Int64))), .second, .val (.long js0_32), .second, .val (.long js0_52), .second, .val (.ref b49), .val (.ref b51), .val (.int (1 : Int32)), .val (.int (own_cmp (j0 &&& (9223372036854775807 : Int64)) (j1 &&& (9223372036854775807 : Int64)) js0_32 js0_52)), .unset] [(.ref b49), (.ref b51)])) rfl (by rw [hml]; rfl) (Steps.refl _) (argsL := [(.ref b49)]) (rest := []) (lenOf pd_3 rfl) rfl (by show 2 * 0 + _ ≤ _; exact Nat.le_of_eq rfl) (hb hby at_152) (fun _ _ => ⟨rfl, hh65, (by decide : 2 + 0 ≤ _), (by decide : 4 + 0 ≤ _)⟩)
          dsimp only [Pt.U, Pt.locs, Pt.cells, Pt.slots] at X66 l66 y66 z66 st66 hQ66
          subst l66 y66 z66
          obtain ⟨rfl, N66q, hh66⟩ := hQ66
          have N66 := Fr.app N65 N66q
          refine own_step (fun _ => st66.trans) ?_
          show own_Ends p e below s _ _ _ T66 (mkF m 155 #[.val (.long j0), .second, .val (.long j1), .second, .val (.long j2), .second, .val (.long j3), .second, .val (.int i4), .val (.long (j0 &&& (9223372036854775807 : Int64))), .second, .val (.long (j1 &&& (9223372036854775807 : Int64))), .second, .val (.long js0_32), .second, .val (.long js0_52), .second, .val (.ref b49), .val (.ref b51), .val (.int (1 : Int32)), .val (.int (own_cmp (j0 &&& (9223372036854775807 : Int64)) (j1 &&& (9223372036854775807 : Int64)) js0_32 js0_52)), .unset] [(.int (own_cmp js0_32 js0_52 (j0 &&& (9223372036854775807 : Int64)) (j1 &&& (9223372036854775807 : Int64))))])
          refine own_step (fun _ => XS.istore X66.here hx rfl (hb hby at_155) rfl (l' := #[.val (.long j0), .second, .val (.long j1), .second, .val (.long j2), .second, .val (.long j3), .second, .val (.int i4), .val (.long (j0 &&& (9223372036854775807 : Int64))), .second, .val (.long (j1 &&& (9223372036854775807 : Int64))), .second, .val (.long js0_32), .second, .val (.long js0_52), .second, .val (.ref b49), .val (.ref b51), .val (.int (1 : Int32)), .val (.int (own_cmp (j0 &&& (9223372036854775807 : Int64)) (j1 &&& (9223372036854775807 : Int64)) js0_32 js0_52)), .val (.int (own_cmp js0_32 js0_52 (j0 &&& (9223372036854775807 : Int64)) (j1 &&& (9223372036854775807 : Int64))))]) rfl) ?_
          show own_Ends p e below s _ _ _ T66 (mkF m 157 #[.val (.long j0), .second, .val (.long j1), .second, .val (.long j2), .second, .val (.long j3), .second, .val (.int i4), .val (.long (j0 &&& (9223372036854775807 : Int64))), .second, .val (.long (j1 &&& (9223372036854775807 : Int64))), .second, .val (.long js0_32), .second, .val (.long js0_52), .second, .val (.ref b49), .val (.ref b51), .val (.int (1 : Int32)), .val (.int (own_cmp (j0 &&& (9223372036854775807 : Int64)) (j1 &&& (9223372036854775807 : Int64)) js0_32 js0_52)), .val (.int (own_cmp js0_32 js0_52 (j0 &&& (9223372036854775807 : Int64)) (j1 &&& (9223372036854775807 : Int64))))] [])
          refine own_step (fun _ => XS.iload X66.here hx rfl (hb hby at_157) rfl) ?_
          show own_Ends p e below s _ _ _ T66 (mkF m 159 #[.val (.long j0), .second, .val (.long j1), .second, .val (.long j2), .second, .val (.long j3), .second, .val (.int i4), .val (.long (j0 &&& (9223372036854775807 : Int64))), .second, .val (.long (j1 &&& (9223372036854775807 : Int64))), .second, .val (.long js0_32), .second, .val (.long js0_52), .second, .val (.ref b49), .val (.ref b51), .val (.int (1 : Int32)), .val (.int (own_cmp (j0 &&& (9223372036854775807 : Int64)) (j1 &&& (9223372036854775807 : Int64)) js0_32 js0_52)), .val (.int (own_cmp js0_32 js0_52 (j0 &&& (9223372036854775807 : Int64)) (j1 &&& (9223372036854775807 : Int64))))] [(.int (own_cmp (j0 &&& (9223372036854775807 : Int64)) (j1 &&& (9223372036854775807 : Int64)) js0_32 js0_52))])
          obtain ⟨_, _, ⟨T67, L67, k67, n67⟩, -, X67, ⟨Lc67, hQ67, l67, y67, z67⟩, st67⟩ := Jvm.LawKit.callS X66 hx (y := (⟨"com/example/rollforth/rollforth/log/LogInstantCompareToPinLaw", "sign", "(I)I"⟩ : MethodName)) hown (mvT hZ (hw _ (List.mem_of_getElem? (i := 28) rfl))) (mvT hZ (hw _ (List.mem_of_getElem? (i := 29) rfl))) (mvT hZ (hw _ (List.mem_of_getElem? (i := 30) rfl))) (mvT hZ (hw _ (List.mem_of_getElem? (i := 31) rfl))) (by decide) (backOf (W := 0) (rm6 l Z a0 hw [] (own_cmp (j0 &&& (9223372036854775807 : Int64)) (j1 &&& (9223372036854775807 : Int64)) js0_32 js0_52) T52.heap n0 Zs52) hZ (hw _ (List.mem_of_getElem? (i := 31) rfl)) (hw _ (List.mem_of_getElem? (i := 30) rfl)) (by decide) (by decide)) (g := (mkF m 159 #[.val (.long j0), .second, .val (.long j1), .second, .val (.long j2), .second, .val (.long j3), .second, .val (.int i4), .val (.long (j0 &&& (9223372036854775807 : Int64))), .second, .val (.long (j1 &&& (9223372036854775807 : Int64))), .second, .val (.long js0_32), .second, .val (.long js0_52), .second, .val (.ref b49), .val (.ref b51), .val (.int (1 : Int32)), .val (.int (own_cmp (j0 &&& (9223372036854775807 : Int64)) (j1 &&& (9223372036854775807 : Int64)) js0_32 js0_52)), .val (.int (own_cmp js0_32 js0_52 (j0 &&& (9223372036854775807 : Int64)) (j1 &&& (9223372036854775807 : Int64))))] [(.int (own_cmp (j0 &&& (9223372036854775807 : Int64)) (j1 &&& (9223372036854775807 : Int64)) js0_32 js0_52))])) rfl (by rw [hml]; rfl) (argsL := [(.int (own_cmp (j0 &&& (9223372036854775807 : Int64)) (j1 &&& (9223372036854775807 : Int64)) js0_32 js0_52))]) (rest := []) (lenOf pd_4 rfl) rfl (by show 2 * 0 + _ ≤ _; exact Nat.le_of_eq rfl) (hb hby at_159) (fun _ _ => ⟨rfl, hh66, (by decide : 2 + 0 ≤ _), (by decide : 4 + 0 ≤ _)⟩)
          dsimp only [Pt.U, Pt.locs, Pt.cells, Pt.slots] at X67 l67 y67 z67 st67 hQ67
          subst l67 y67 z67
          obtain ⟨rfl, N67q, hh67⟩ := hQ67
          have N67 := Fr.app N66 N67q
          refine own_step st67 ?_
          show own_Ends p e below s _ _ _ T67 (mkF m 162 #[.val (.long j0), .second, .val (.long j1), .second, .val (.long j2), .second, .val (.long j3), .second, .val (.int i4), .val (.long (j0 &&& (9223372036854775807 : Int64))), .second, .val (.long (j1 &&& (9223372036854775807 : Int64))), .second, .val (.long js0_32), .second, .val (.long js0_52), .second, .val (.ref b49), .val (.ref b51), .val (.int (1 : Int32)), .val (.int (own_cmp (j0 &&& (9223372036854775807 : Int64)) (j1 &&& (9223372036854775807 : Int64)) js0_32 js0_52)), .val (.int (own_cmp js0_32 js0_52 (j0 &&& (9223372036854775807 : Int64)) (j1 &&& (9223372036854775807 : Int64))))] [(.int (f6_0 (own_cmp (j0 &&& (9223372036854775807 : Int64)) (j1 &&& (9223372036854775807 : Int64)) js0_32 js0_52)))])
          refine own_step (fun _ => XS.iload X67.here hx rfl (hb hby at_162) rfl) ?_
          show own_Ends p e below s _ _ _ T67 (mkF m 164 #[.val (.long j0), .second, .val (.long j1), .second, .val (.long j2), .second, .val (.long j3), .second, .val (.int i4), .val (.long (j0 &&& (9223372036854775807 : Int64))), .second, .val (.long (j1 &&& (9223372036854775807 : Int64))), .second, .val (.long js0_32), .second, .val (.long js0_52), .second, .val (.ref b49), .val (.ref b51), .val (.int (1 : Int32)), .val (.int (own_cmp (j0 &&& (9223372036854775807 : Int64)) (j1 &&& (9223372036854775807 : Int64)) js0_32 js0_52)), .val (.int (own_cmp js0_32 js0_52 (j0 &&& (9223372036854775807 : Int64)) (j1 &&& (9223372036854775807 : Int64))))] [(.int (1 : Int32)), (.int (f6_0 (own_cmp (j0 &&& (9223372036854775807 : Int64)) (j1 &&& (9223372036854775807 : Int64)) js0_32 js0_52)))])
          by_cases hc164 : (f6_0 (own_cmp (j0 &&& (9223372036854775807 : Int64)) (j1 &&& (9223372036854775807 : Int64)) js0_32 js0_52)) = (1 : Int32)
          · have hv_f_f_f_t_t := hv_f_f_f_t.trans (if_pos hc164)
            refine own_step (fun _ => XS.icmpNo X67.here hx rfl (hb hby at_164) rfl (teq hc164).2) ?_
            show own_Ends p e below s _ _ _ T67 (mkF m 167 #[.val (.long j0), .second, .val (.long j1), .second, .val (.long j2), .second, .val (.long j3), .second, .val (.int i4), .val (.long (j0 &&& (9223372036854775807 : Int64))), .second, .val (.long (j1 &&& (9223372036854775807 : Int64))), .second, .val (.long js0_32), .second, .val (.long js0_52), .second, .val (.ref b49), .val (.ref b51), .val (.int (1 : Int32)), .val (.int (own_cmp (j0 &&& (9223372036854775807 : Int64)) (j1 &&& (9223372036854775807 : Int64)) js0_32 js0_52)), .val (.int (own_cmp js0_32 js0_52 (j0 &&& (9223372036854775807 : Int64)) (j1 &&& (9223372036854775807 : Int64))))] [])
            refine own_step (fun _ => XS.iload X67.here hx rfl (hb hby at_167) rfl) ?_
            show own_Ends p e below s _ _ _ T67 (mkF m 169 #[.val (.long j0), .second, .val (.long j1), .second, .val (.long j2), .second, .val (.long j3), .second, .val (.int i4), .val (.long (j0 &&& (9223372036854775807 : Int64))), .second, .val (.long (j1 &&& (9223372036854775807 : Int64))), .second, .val (.long js0_32), .second, .val (.long js0_52), .second, .val (.ref b49), .val (.ref b51), .val (.int (1 : Int32)), .val (.int (own_cmp (j0 &&& (9223372036854775807 : Int64)) (j1 &&& (9223372036854775807 : Int64)) js0_32 js0_52)), .val (.int (own_cmp js0_32 js0_52 (j0 &&& (9223372036854775807 : Int64)) (j1 &&& (9223372036854775807 : Int64))))] [(.int (own_cmp js0_32 js0_52 (j0 &&& (9223372036854775807 : Int64)) (j1 &&& (9223372036854775807 : Int64))))])
            obtain ⟨_, _, ⟨T68, L68, k68, n68⟩, -, X68, ⟨Lc68, hQ68, l68, y68, z68⟩, st68⟩ := Jvm.LawKit.callS X67 hx (y := (⟨"com/example/rollforth/rollforth/log/LogInstantCompareToPinLaw", "sign", "(I)I"⟩ : MethodName)) hown (mvT hZ (hw _ (List.mem_of_getElem? (i := 28) rfl))) (mvT hZ (hw _ (List.mem_of_getElem? (i := 29) rfl))) (mvT hZ (hw _ (List.mem_of_getElem? (i := 30) rfl))) (mvT hZ (hw _ (List.mem_of_getElem? (i := 31) rfl))) (by decide) (backOf (W := 0) (rm6 l Z a0 hw [] (own_cmp js0_32 js0_52 (j0 &&& (9223372036854775807 : Int64)) (j1 &&& (9223372036854775807 : Int64))) T52.heap n0 Zs52) hZ (hw _ (List.mem_of_getElem? (i := 31) rfl)) (hw _ (List.mem_of_getElem? (i := 30) rfl)) (by decide) (by decide)) (g := (mkF m 169 #[.val (.long j0), .second, .val (.long j1), .second, .val (.long j2), .second, .val (.long j3), .second, .val (.int i4), .val (.long (j0 &&& (9223372036854775807 : Int64))), .second, .val (.long (j1 &&& (9223372036854775807 : Int64))), .second, .val (.long js0_32), .second, .val (.long js0_52), .second, .val (.ref b49), .val (.ref b51), .val (.int (1 : Int32)), .val (.int (own_cmp (j0 &&& (9223372036854775807 : Int64)) (j1 &&& (9223372036854775807 : Int64)) js0_32 js0_52)), .val (.int (own_cmp js0_32 js0_52 (j0 &&& (9223372036854775807 : Int64)) (j1 &&& (9223372036854775807 : Int64))))] [(.int (own_cmp js0_32 js0_52 (j0 &&& (9223372036854775807 : Int64)) (j1 &&& (9223372036854775807 : Int64))))])) rfl (by rw [hml]; rfl) (argsL := [(.int (own_cmp js0_32 js0_52 (j0 &&& (9223372036854775807 : Int64)) (j1 &&& (9223372036854775807 : Int64))))]) (rest := []) (lenOf pd_4 rfl) rfl (by show 2 * 0 + _ ≤ _; exact Nat.le_of_eq rfl) (hb hby at_169) (fun _ _ => ⟨rfl, hh67, (by decide : 2 + 0 ≤ _), (by decide : 4 + 0 ≤ _)⟩)
            dsimp only [Pt.U, Pt.locs, Pt.cells, Pt.slots] at X68 l68 y68 z68 st68 hQ68
            subst l68 y68 z68
            obtain ⟨rfl, N68q, hh68⟩ := hQ68
            have N68 := Fr.app N67 N68q
            refine own_step st68 ?_
            show own_Ends p e below s _ _ _ T68 (mkF m 172 #[.val (.long j0), .second, .val (.long j1), .second, .val (.long j2), .second, .val (.long j3), .second, .val (.int i4), .val (.long (j0 &&& (9223372036854775807 : Int64))), .second, .val (.long (j1 &&& (9223372036854775807 : Int64))), .second, .val (.long js0_32), .second, .val (.long js0_52), .second, .val (.ref b49), .val (.ref b51), .val (.int (1 : Int32)), .val (.int (own_cmp (j0 &&& (9223372036854775807 : Int64)) (j1 &&& (9223372036854775807 : Int64)) js0_32 js0_52)), .val (.int (own_cmp js0_32 js0_52 (j0 &&& (9223372036854775807 : Int64)) (j1 &&& (9223372036854775807 : Int64))))] [(.int (f6_0 (own_cmp js0_32 js0_52 (j0 &&& (9223372036854775807 : Int64)) (j1 &&& (9223372036854775807 : Int64)))))])
            refine own_step (fun _ => XS.iload X68.here hx rfl (hb hby at_172) rfl) ?_
            show own_Ends p e below s _ _ _ T68 (mkF m 174 #[.val (.long j0), .second, .val (.long j1), .second, .val (.long j2), .second, .val (.long j3), .second, .val (.int i4), .val (.long (j0 &&& (9223372036854775807 : Int64))), .second, .val (.long (j1 &&& (9223372036854775807 : Int64))), .second, .val (.long js0_32), .second, .val (.long js0_52), .second, .val (.ref b49), .val (.ref b51), .val (.int (1 : Int32)), .val (.int (own_cmp (j0 &&& (9223372036854775807 : Int64)) (j1 &&& (9223372036854775807 : Int64)) js0_32 js0_52)), .val (.int (own_cmp js0_32 js0_52 (j0 &&& (9223372036854775807 : Int64)) (j1 &&& (9223372036854775807 : Int64))))] [(.int (1 : Int32)), (.int (f6_0 (own_cmp js0_32 js0_52 (j0 &&& (9223372036854775807 : Int64)) (j1 &&& (9223372036854775807 : Int64)))))])
            refine own_step (fun _ => XS.ineg X68.here hx rfl (hb hby at_174) rfl) ?_
            show own_Ends p e below s _ _ _ T68 (mkF m 175 #[.val (.long j0), .second, .val (.long j1), .second, .val (.long j2), .second, .val (.long j3), .second, .val (.int i4), .val (.long (j0 &&& (9223372036854775807 : Int64))), .second, .val (.long (j1 &&& (9223372036854775807 : Int64))), .second, .val (.long js0_32), .second, .val (.long js0_52), .second, .val (.ref b49), .val (.ref b51), .val (.int (1 : Int32)), .val (.int (own_cmp (j0 &&& (9223372036854775807 : Int64)) (j1 &&& (9223372036854775807 : Int64)) js0_32 js0_52)), .val (.int (own_cmp js0_32 js0_52 (j0 &&& (9223372036854775807 : Int64)) (j1 &&& (9223372036854775807 : Int64))))] [(.int (-(1 : Int32))), (.int (f6_0 (own_cmp js0_32 js0_52 (j0 &&& (9223372036854775807 : Int64)) (j1 &&& (9223372036854775807 : Int64)))))])
            by_cases hc175 : (f6_0 (own_cmp js0_32 js0_52 (j0 &&& (9223372036854775807 : Int64)) (j1 &&& (9223372036854775807 : Int64)))) = (-(1 : Int32))
            · have hv_f_f_f_t_t_t := hv_f_f_f_t_t.trans (if_pos hc175)
              refine own_step (fun _ => XS.icmpNo X68.here hx rfl (hb hby at_175) rfl (teq hc175).2) ?_
              show own_Ends p e below s _ _ _ T68 (mkF m 178 #[.val (.long j0), .second, .val (.long j1), .second, .val (.long j2), .second, .val (.long j3), .second, .val (.int i4), .val (.long (j0 &&& (9223372036854775807 : Int64))), .second, .val (.long (j1 &&& (9223372036854775807 : Int64))), .second, .val (.long js0_32), .second, .val (.long js0_52), .second, .val (.ref b49), .val (.ref b51), .val (.int (1 : Int32)), .val (.int (own_cmp (j0 &&& (9223372036854775807 : Int64)) (j1 &&& (9223372036854775807 : Int64)) js0_32 js0_52)), .val (.int (own_cmp js0_32 js0_52 (j0 &&& (9223372036854775807 : Int64)) (j1 &&& (9223372036854775807 : Int64))))] [])
              refine own_step (fun _ => XS.iconst X68.here hx rfl (hb hby at_178)) ?_
              show own_Ends p e below s _ _ _ T68 (mkF m 179 #[.val (.long j0), .second, .val (.long j1), .second, .val (.long j2), .second, .val (.long j3), .second, .val (.int i4), .val (.long (j0 &&& (9223372036854775807 : Int64))), .second, .val (.long (j1 &&& (9223372036854775807 : Int64))), .second, .val (.long js0_32), .second, .val (.long js0_52), .second, .val (.ref b49), .val (.ref b51), .val (.int (1 : Int32)), .val (.int (own_cmp (j0 &&& (9223372036854775807 : Int64)) (j1 &&& (9223372036854775807 : Int64)) js0_32 js0_52)), .val (.int (own_cmp js0_32 js0_52 (j0 &&& (9223372036854775807 : Int64)) (j1 &&& (9223372036854775807 : Int64))))] [(.int (1 : Int32))])
              refine own_step (fun _ => XS.goto X68.here hx rfl (pc0 := 179) (pc' := 183) rfl (hb hby at_179) (by decide) (by decide)) ?_
              show own_Ends p e below s _ _ _ T68 (mkF m 183 #[.val (.long j0), .second, .val (.long j1), .second, .val (.long j2), .second, .val (.long j3), .second, .val (.int i4), .val (.long (j0 &&& (9223372036854775807 : Int64))), .second, .val (.long (j1 &&& (9223372036854775807 : Int64))), .second, .val (.long js0_32), .second, .val (.long js0_52), .second, .val (.ref b49), .val (.ref b51), .val (.int (1 : Int32)), .val (.int (own_cmp (j0 &&& (9223372036854775807 : Int64)) (j1 &&& (9223372036854775807 : Int64)) js0_32 js0_52)), .val (.int (own_cmp js0_32 js0_52 (j0 &&& (9223372036854775807 : Int64)) (j1 &&& (9223372036854775807 : Int64))))] [(.int (1 : Int32))])
              exact own_retN X68 (t := .boolean) hx hret hlk (hb hby at_183) (by decide) (by decide) (by simp) ⟨congrArg (fun z => some (Value.int z)) hv_f_f_f_t_t_t.symm, N68, trivial⟩
            · have hv_f_f_f_t_t_f := hv_f_f_f_t_t.trans (if_neg hc175)
              refine own_step (fun _ => XS.icmpYes X68.here hx rfl (pc0 := 175) (pc' := 182) rfl (hb hby at_175) rfl (feq hc175).2 (by decide) (by decide)) ?_
              show own_Ends p e below s _ _ _ T68 (mkF m 182 #[.val (.long j0), .second, .val (.long j1), .second, .val (.long j2), .second, .val (.long j3), .second, .val (.int i4), .val (.long (j0 &&& (9223372036854775807 : Int64))), .second, .val (.long (j1 &&& (9223372036854775807 : Int64))), .second, .val (.long js0_32), .second, .val (.long js0_52), .second, .val (.ref b49), .val (.ref b51), .val (.int (1 : Int32)), .val (.int (own_cmp (j0 &&& (9223372036854775807 : Int64)) (j1 &&& (9223372036854775807 : Int64)) js0_32 js0_52)), .val (.int (own_cmp js0_32 js0_52 (j0 &&& (9223372036854775807 : Int64)) (j1 &&& (9223372036854775807 : Int64))))] [])
              refine own_step (fun _ => XS.iconst X68.here hx rfl (hb hby at_182)) ?_
              show own_Ends p e below s _ _ _ T68 (mkF m 183 #[.val (.long j0), .second, .val (.long j1), .second, .val (.long j2), .second, .val (.long j3), .second, .val (.int i4), .val (.long (j0 &&& (9223372036854775807 : Int64))), .second, .val (.long (j1 &&& (9223372036854775807 : Int64))), .second, .val (.long js0_32), .second, .val (.long js0_52), .second, .val (.ref b49), .val (.ref b51), .val (.int (1 : Int32)), .val (.int (own_cmp (j0 &&& (9223372036854775807 : Int64)) (j1 &&& (9223372036854775807 : Int64)) js0_32 js0_52)), .val (.int (own_cmp js0_32 js0_52 (j0 &&& (9223372036854775807 : Int64)) (j1 &&& (9223372036854775807 : Int64))))] [(.int (0 : Int32))])
              exact own_retN X68 (t := .boolean) hx hret hlk (hb hby at_183) (by decide) (by decide) (by simp) ⟨congrArg (fun z => some (Value.int z)) hv_f_f_f_t_t_f.symm, N68, trivial⟩
          · have hv_f_f_f_t_f := hv_f_f_f_t.trans (if_neg hc164)
            refine own_step (fun _ => XS.icmpYes X67.here hx rfl (pc0 := 164) (pc' := 182) rfl (hb hby at_164) rfl (feq hc164).2 (by decide) (by decide)) ?_
            show own_Ends p e below s _ _ _ T67 (mkF m 182 #[.val (.long j0), .second, .val (.long j1), .second, .val (.long j2), .second, .val (.long j3), .second, .val (.int i4), .val (.long (j0 &&& (9223372036854775807 : Int64))), .second, .val (.long (j1 &&& (9223372036854775807 : Int64))), .second, .val (.long js0_32), .second, .val (.long js0_52), .second, .val (.ref b49), .val (.ref b51), .val (.int (1 : Int32)), .val (.int (own_cmp (j0 &&& (9223372036854775807 : Int64)) (j1 &&& (9223372036854775807 : Int64)) js0_32 js0_52)), .val (.int (own_cmp js0_32 js0_52 (j0 &&& (9223372036854775807 : Int64)) (j1 &&& (9223372036854775807 : Int64))))] [])
            refine own_step (fun _ => XS.iconst X67.here hx rfl (hb hby at_182)) ?_
            show own_Ends p e below s _ _ _ T67 (mkF m 183 #[.val (.long j0), .second, .val (.long j1), .second, .val (.long j2), .second, .val (.long j3), .second, .val (.int i4), .val (.long (j0 &&& (9223372036854775807 : Int64))), .second, .val (.long (j1 &&& (9223372036854775807 : Int64))), .second, .val (.long js0_32), .second, .val (.long js0_52), .second, .val (.ref b49), .val (.ref b51), .val (.int (1 : Int32)), .val (.int (own_cmp (j0 &&& (9223372036854775807 : Int64)) (j1 &&& (9223372036854775807 : Int64)) js0_32 js0_52)), .val (.int (own_cmp js0_32 js0_52 (j0 &&& (9223372036854775807 : Int64)) (j1 &&& (9223372036854775807 : Int64))))] [(.int (0 : Int32))])
            exact own_retN X67 (t := .boolean) hx hret hlk (hb hby at_183) (by decide) (by decide) (by simp) ⟨congrArg (fun z => some (Value.int z)) hv_f_f_f_t_f.symm, N67, trivial⟩
        · have hv_f_f_f_f := hv_f_f_f.trans (if_neg hc127)
          refine own_step (fun _ => XS.ifYes X52.here hx rfl (pc0 := 127) (pc' := 136) rfl (hb hby at_127) rfl ((if0 _ _).trans (flt (fun q => hc127 ((lw_gt _ _).mp q))).2.2.2) (by decide) (by decide)) ?_
          show own_Ends p e below s _ _ _ T52 (mkF m 136 #[.val (.long j0), .second, .val (.long j1), .second, .val (.long j2), .second, .val (.long j3), .second, .val (.int i4), .val (.long (j0 &&& (9223372036854775807 : Int64))), .second, .val (.long (j1 &&& (9223372036854775807 : Int64))), .second, .val (.long js0_32), .second, .val (.long js0_52), .second, .val (.ref b49), .val (.ref b51), .unset, .unset, .unset] [])
          refine own_step (fun _ => XS.iconst X52.here hx rfl (hb hby at_136)) ?_
          show own_Ends p e below s _ _ _ T52 (mkF m 137 #[.val (.long j0), .second, .val (.long j1), .second, .val (.long j2), .second, .val (.long j3), .second, .val (.int i4), .val (.long (j0 &&& (9223372036854775807 : Int64))), .second, .val (.long (j1 &&& (9223372036854775807 : Int64))), .second, .val (.long js0_32), .second, .val (.long js0_52), .second, .val (.ref b49), .val (.ref b51), .unset, .unset, .unset] [(.int (0 : Int32))])
          refine own_step (fun _ => XS.istore X52.here hx rfl (hb hby at_137) rfl (l' := #[.val (.long j0), .second, .val (.long j1), .second, .val (.long j2), .second, .val (.long j3), .second, .val (.int i4), .val (.long (j0 &&& (9223372036854775807 : Int64))), .second, .val (.long (j1 &&& (9223372036854775807 : Int64))), .second, .val (.long js0_32), .second, .val (.long js0_52), .second, .val (.ref b49), .val (.ref b51), .val (.int (0 : Int32)), .unset, .unset]) rfl) ?_
          show own_Ends p e below s _ _ _ T52 (mkF m 139 #[.val (.long j0), .second, .val (.long j1), .second, .val (.long j2), .second, .val (.long j3), .second, .val (.int i4), .val (.long (j0 &&& (9223372036854775807 : Int64))), .second, .val (.long (j1 &&& (9223372036854775807 : Int64))), .second, .val (.long js0_32), .second, .val (.long js0_52), .second, .val (.ref b49), .val (.ref b51), .val (.int (0 : Int32)), .unset, .unset] [])
          refine own_step (fun _ => XS.aload X52.here hx rfl (hb hby at_139) rfl rfl) ?_
          show own_Ends p e below s _ _ _ T52 (mkF m 141 #[.val (.long j0), .second, .val (.long j1), .second, .val (.long j2), .second, .val (.long j3), .second, .val (.int i4), .val (.long (j0 &&& (9223372036854775807 : Int64))), .second, .val (.long (j1 &&& (9223372036854775807 : Int64))), .second, .val (.long js0_32), .second, .val (.long js0_52), .second, .val (.ref b49), .val (.ref b51), .val (.int (0 : Int32)), .unset, .unset] [(.ref b49)])
          refine own_step (fun _ => XS.aload X52.here hx rfl (hb hby at_141) rfl rfl) ?_
          show own_Ends p e below s _ _ _ T52 (mkF m 143 #[.val (.long j0), .second, .val (.long j1), .second, .val (.long j2), .second, .val (.long j3), .second, .val (.int i4), .val (.long (j0 &&& (9223372036854775807 : Int64))), .second, .val (.long (j1 &&& (9223372036854775807 : Int64))), .second, .val (.long js0_32), .second, .val (.long js0_52), .second, .val (.ref b49), .val (.ref b51), .val (.int (0 : Int32)), .unset, .unset] [(.ref b51), (.ref b49)])
          obtain ⟨cq69, kq69, q69a, q69b, q69c⟩ := isOf hZ rfl ((Ex50.ext E51).keep K52)
          obtain ⟨_, _, ⟨T69, L69, k69, n69⟩, -, X69, ⟨Lc69, hQ69, l69, y69, z69⟩, st69⟩ := X52.virtualBack hx (y := (⟨"com/example/rollforth/rollforth/log/LogInstant", "compareTo", "(Lcom/example/rollforth/rollforth/log/LogInstant;)I"⟩ : MethodName)) (z := (⟨"com/example/rollforth/rollforth/log/LogInstant", "compareTo", "(Lcom/example/rollforth/rollforth/log/LogInstant;)I"⟩ : MethodName)) hown (mvT hZ (hw _ (List.mem_of_getElem? (i := 19) rfl))) (mvT hZ (hw _ (List.mem_of_getElem? (i := 20) rfl))) (notFace_of_selects (args := #[]) (mvT hZ (hw _ (List.mem_of_getElem? (i := 22) rfl)))) (mvT hZ (hw _ (List.mem_of_getElem? (i := 22) rfl))) (mvT hZ (hw _ (List.mem_of_getElem? (i := 21) rfl))) (by decide) (backOf (W := 0) (rm4 l Z a0 hw [] b49 b51 (j0 &&& (9223372036854775807 : Int64)) (j1 &&& (9223372036854775807 : Int64)) js0_32 js0_52 T52.heap n0 Zs52 ((F50a.ext E51).keep K52 (ninS ne_b49_b51 nin0)) ((F50b.ext E51).keep K52 (ninS ne_b49_b51 nin0)) F52a F52b) hZ (hw _ (List.mem_of_getElem? (i := 23) rfl)) (hw _ (List.mem_of_getElem? (i := 3) rfl)) (by decide) (by decide)) q69a q69c (g := (mkF m 143 #[.val (.long j0), .second, .val (.long j1), .second, .val (.long j2), .second, .val (.long j3), .second, .val (.int i4), .val (.long (j0 &&& (9223372036854775807 : Int64))), .second, .val (.long (j1 &&& (9223372036854775807 : Int64))), .second, .val (.long js0_32), .second, .val (.long js0_52), .second, .val (.ref b49), .val (.ref b51), .val (.int (0 : Int32)), .unset, .unset] [(.ref b51), (.ref b49)])) rfl (by rw [hml]; rfl) (Steps.refl _) (argsL := [(.ref b51)]) (rest := []) (lenOf pd_3 rfl) rfl (by show 2 * 0 + _ ≤ _; exact Nat.le_of_eq rfl) (hb hby at_143) (fun _ _ => ⟨rfl, rfl, (by decide : 2 + 0 ≤ _), (by decide : 4 + 0 ≤ _)⟩)
          dsimp only [Pt.U, Pt.locs, Pt.cells, Pt.slots] at X69 l69 y69 z69 st69 hQ69
          subst l69 y69 z69
          obtain ⟨rfl, N69q, hh69⟩ := hQ69
          have N69 := Fr.app N52 N69q
          refine own_step (fun _ => st69.trans) ?_
          show own_Ends p e below s _ _ _ T69 (mkF m 146 #[.val (.long j0), .second, .val (.long j1), .second, .val (.long j2), .second, .val (.long j3), .second, .val (.int i4), .val (.long (j0 &&& (9223372036854775807 : Int64))), .second, .val (.long (j1 &&& (9223372036854775807 : Int64))), .second, .val (.long js0_32), .second, .val (.long js0_52), .second, .val (.ref b49), .val (.ref b51), .val (.int (0 : Int32)), .unset, .unset] [(.int (own_cmp (j0 &&& (9223372036854775807 : Int64)) (j1 &&& (9223372036854775807 : Int64)) js0_32 js0_52))])
          refine own_step (fun _ => XS.istore X69.here hx rfl (hb hby at_146) rfl (l' := #[.val (.long j0), .second, .val (.long j1), .second, .val (.long j2), .second, .val (.long j3), .second, .val (.int i4), .val (.long (j0 &&& (9223372036854775807 : Int64))), .second, .val (.long (j1 &&& (9223372036854775807 : Int64))), .second, .val (.long js0_32), .second, .val (.long js0_52), .second, .val (.ref b49), .val (.ref b51), .val (.int (0 : Int32)), .val (.int (own_cmp (j0 &&& (9223372036854775807 : Int64)) (j1 &&& (9223372036854775807 : Int64)) js0_32 js0_52)), .unset]) rfl) ?_
          show own_Ends p e below s _ _ _ T69 (mkF m 148 #[.val (.long j0), .second, .val (.long j1), .second, .val (.long j2), .second, .val (.long j3), .second, .val (.int i4), .val (.long (j0 &&& (9223372036854775807 : Int64))), .second, .val (.long (j1 &&& (9223372036854775807 : Int64))), .second, .val (.long js0_32), .second, .val (.long js0_52), .second, .val (.ref b49), .val (.ref b51), .val (.int (0 : Int32)), .val (.int (own_cmp (j0 &&& (9223372036854775807 : Int64)) (j1 &&& (9223372036854775807 : Int64)) js0_32 js0_52)), .unset] [])
          refine own_step (fun _ => XS.aload X69.here hx rfl (hb hby at_148) rfl rfl) ?_
          show own_Ends p e below s _ _ _ T69 (mkF m 150 #[.val (.long j0), .second, .val (.long j1), .second, .val (.long j2), .second, .val (.long j3), .second, .val (.int i4), .val (.long (j0 &&& (9223372036854775807 : Int64))), .second, .val (.long (j1 &&& (9223372036854775807 : Int64))), .second, .val (.long js0_32), .second, .val (.long js0_52), .second, .val (.ref b49), .val (.ref b51), .val (.int (0 : Int32)), .val (.int (own_cmp (j0 &&& (9223372036854775807 : Int64)) (j1 &&& (9223372036854775807 : Int64)) js0_32 js0_52)), .unset] [(.ref b51)])
          refine own_step (fun _ => XS.aload X69.here hx rfl (hb hby at_150) rfl rfl) ?_
          show own_Ends p e below s _ _ _ T69 (mkF m 152 #[.val (.long j0), .second, .val (.long j1), .second, .val (.long j2), .second, .val (.long j3), .second, .val (.int i4), .val (.long (j0 &&& (9223372036854775807 : Int64))), .second, .val (.long (j1 &&& (9223372036854775807 : Int64))), .second, .val (.long js0_32), .second, .val (.long js0_52), .second, .val (.ref b49), .val (.ref b51), .val (.int (0 : Int32)), .val (.int (own_cmp (j0 &&& (9223372036854775807 : Int64)) (j1 &&& (9223372036854775807 : Int64)) js0_32 js0_52)), .unset] [(.ref b49), (.ref b51)])
          obtain ⟨cq70, kq70, q70a, q70b, q70c⟩ := isOf hZ hh69 Ex52
          obtain ⟨_, _, ⟨T70, L70, k70, n70⟩, -, X70, ⟨Lc70, hQ70, l70, y70, z70⟩, st70⟩ := X69.virtualBack hx (y := (⟨"com/example/rollforth/rollforth/log/LogInstant", "compareTo", "(Lcom/example/rollforth/rollforth/log/LogInstant;)I"⟩ : MethodName)) (z := (⟨"com/example/rollforth/rollforth/log/LogInstant", "compareTo", "(Lcom/example/rollforth/rollforth/log/LogInstant;)I"⟩ : MethodName)) hown (mvT hZ (hw _ (List.mem_of_getElem? (i := 19) rfl))) (mvT hZ (hw _ (List.mem_of_getElem? (i := 20) rfl))) (notFace_of_selects (args := #[]) (mvT hZ (hw _ (List.mem_of_getElem? (i := 22) rfl)))) (mvT hZ (hw _ (List.mem_of_getElem? (i := 22) rfl))) (mvT hZ (hw _ (List.mem_of_getElem? (i := 21) rfl))) (by decide) (backOf (W := 0) (rm4 l Z a0 hw [] b51 b49 js0_32 js0_52 (j0 &&& (9223372036854775807 : Int64)) (j1 &&& (9223372036854775807 : Int64)) T52.heap n0 Zs52 F52a F52b ((F50a.ext E51).keep K52 (ninS ne_b49_b51 nin0)) ((F50b.ext E51).keep K52 (ninS ne_b49_b51 nin0))) hZ (hw _ (List.mem_of_getElem? (i := 23) rfl)) (hw _ (List.mem_of_getElem? (i := 3) rfl)) (by decide) (by decide)) q70a q70c (g := (mkF m 152 #[.val (.long j0), .second, .val (.long j1), .second, .val (.long j2), .second, .val (.long j3), .second, .val (.int i4), .val (.long (j0 &&& (9223372036854775807 : Int64))), .second, .val (.long (j1 &&& (9223372036854775807 : Int64))), .second, .val (.long js0_32), .second, .val (.long js0_52), .second, .val (.ref b49), .val (.ref b51), .val (.int (0 : Int32)), .val (.int (own_cmp (j0 &&& (9223372036854775807 : Int64)) (j1 &&& (9223372036854775807 : Int64)) js0_32 js0_52)), .unset] [(.ref b49), (.ref b51)])) rfl (by rw [hml]; rfl) (Steps.refl _) (argsL := [(.ref b49)]) (rest := []) (lenOf pd_3 rfl) rfl (by show 2 * 0 + _ ≤ _; exact Nat.le_of_eq rfl) (hb hby at_152) (fun _ _ => ⟨rfl, hh69, (by decide : 2 + 0 ≤ _), (by decide : 4 + 0 ≤ _)⟩)
          dsimp only [Pt.U, Pt.locs, Pt.cells, Pt.slots] at X70 l70 y70 z70 st70 hQ70
          subst l70 y70 z70
          obtain ⟨rfl, N70q, hh70⟩ := hQ70
          have N70 := Fr.app N69 N70q
          refine own_step (fun _ => st70.trans) ?_
          show own_Ends p e below s _ _ _ T70 (mkF m 155 #[.val (.long j0), .second, .val (.long j1), .second, .val (.long j2), .second, .val (.long j3), .second, .val (.int i4), .val (.long (j0 &&& (9223372036854775807 : Int64))), .second, .val (.long (j1 &&& (9223372036854775807 : Int64))), .second, .val (.long js0_32), .second, .val (.long js0_52), .second, .val (.ref b49), .val (.ref b51), .val (.int (0 : Int32)), .val (.int (own_cmp (j0 &&& (9223372036854775807 : Int64)) (j1 &&& (9223372036854775807 : Int64)) js0_32 js0_52)), .unset] [(.int (own_cmp js0_32 js0_52 (j0 &&& (9223372036854775807 : Int64)) (j1 &&& (9223372036854775807 : Int64))))])
          refine own_step (fun _ => XS.istore X70.here hx rfl (hb hby at_155) rfl (l' := #[.val (.long j0), .second, .val (.long j1), .second, .val (.long j2), .second, .val (.long j3), .second, .val (.int i4), .val (.long (j0 &&& (9223372036854775807 : Int64))), .second, .val (.long (j1 &&& (9223372036854775807 : Int64))), .second, .val (.long js0_32), .second, .val (.long js0_52), .second, .val (.ref b49), .val (.ref b51), .val (.int (0 : Int32)), .val (.int (own_cmp (j0 &&& (9223372036854775807 : Int64)) (j1 &&& (9223372036854775807 : Int64)) js0_32 js0_52)), .val (.int (own_cmp js0_32 js0_52 (j0 &&& (9223372036854775807 : Int64)) (j1 &&& (9223372036854775807 : Int64))))]) rfl) ?_
          show own_Ends p e below s _ _ _ T70 (mkF m 157 #[.val (.long j0), .second, .val (.long j1), .second, .val (.long j2), .second, .val (.long j3), .second, .val (.int i4), .val (.long (j0 &&& (9223372036854775807 : Int64))), .second, .val (.long (j1 &&& (9223372036854775807 : Int64))), .second, .val (.long js0_32), .second, .val (.long js0_52), .second, .val (.ref b49), .val (.ref b51), .val (.int (0 : Int32)), .val (.int (own_cmp (j0 &&& (9223372036854775807 : Int64)) (j1 &&& (9223372036854775807 : Int64)) js0_32 js0_52)), .val (.int (own_cmp js0_32 js0_52 (j0 &&& (9223372036854775807 : Int64)) (j1 &&& (9223372036854775807 : Int64))))] [])
          refine own_step (fun _ => XS.iload X70.here hx rfl (hb hby at_157) rfl) ?_
          show own_Ends p e below s _ _ _ T70 (mkF m 159 #[.val (.long j0), .second, .val (.long j1), .second, .val (.long j2), .second, .val (.long j3), .second, .val (.int i4), .val (.long (j0 &&& (9223372036854775807 : Int64))), .second, .val (.long (j1 &&& (9223372036854775807 : Int64))), .second, .val (.long js0_32), .second, .val (.long js0_52), .second, .val (.ref b49), .val (.ref b51), .val (.int (0 : Int32)), .val (.int (own_cmp (j0 &&& (9223372036854775807 : Int64)) (j1 &&& (9223372036854775807 : Int64)) js0_32 js0_52)), .val (.int (own_cmp js0_32 js0_52 (j0 &&& (9223372036854775807 : Int64)) (j1 &&& (9223372036854775807 : Int64))))] [(.int (own_cmp (j0 &&& (9223372036854775807 : Int64)) (j1 &&& (9223372036854775807 : Int64)) js0_32 js0_52))])
          obtain ⟨_, _, ⟨T71, L71, k71, n71⟩, -, X71, ⟨Lc71, hQ71, l71, y71, z71⟩, st71⟩ := Jvm.LawKit.callS X70 hx (y := (⟨"com/example/rollforth/rollforth/log/LogInstantCompareToPinLaw", "sign", "(I)I"⟩ : MethodName)) hown (mvT hZ (hw _ (List.mem_of_getElem? (i := 28) rfl))) (mvT hZ (hw _ (List.mem_of_getElem? (i := 29) rfl))) (mvT hZ (hw _ (List.mem_of_getElem? (i := 30) rfl))) (mvT hZ (hw _ (List.mem_of_getElem? (i := 31) rfl))) (by decide) (backOf (W := 0) (rm6 l Z a0 hw [] (own_cmp (j0 &&& (9223372036854775807 : Int64)) (j1 &&& (9223372036854775807 : Int64)) js0_32 js0_52) T52.heap n0 Zs52) hZ (hw _ (List.mem_of_getElem? (i := 31) rfl)) (hw _ (List.mem_of_getElem? (i := 30) rfl)) (by decide) (by decide)) (g := (mkF m 159 #[.val (.long j0), .second, .val (.long j1), .second, .val (.long j2), .second, .val (.long j3), .second, .val (.int i4), .val (.long (j0 &&& (9223372036854775807 : Int64))), .second, .val (.long (j1 &&& (9223372036854775807 : Int64))), .second, .val (.long js0_32), .second, .val (.long js0_52), .second, .val (.ref b49), .val (.ref b51), .val (.int (0 : Int32)), .val (.int (own_cmp (j0 &&& (9223372036854775807 : Int64)) (j1 &&& (9223372036854775807 : Int64)) js0_32 js0_52)), .val (.int (own_cmp js0_32 js0_52 (j0 &&& (9223372036854775807 : Int64)) (j1 &&& (9223372036854775807 : Int64))))] [(.int (own_cmp (j0 &&& (9223372036854775807 : Int64)) (j1 &&& (9223372036854775807 : Int64)) js0_32 js0_52))])) rfl (by rw [hml]; rfl) (argsL := [(.int (own_cmp (j0 &&& (9223372036854775807 : Int64)) (j1 &&& (9223372036854775807 : Int64)) js0_32 js0_52))]) (rest := []) (lenOf pd_4 rfl) rfl (by show 2 * 0 + _ ≤ _; exact Nat.le_of_eq rfl) (hb hby at_159) (fun _ _ => ⟨rfl, hh70, (by decide : 2 + 0 ≤ _), (by decide : 4 + 0 ≤ _)⟩)
          dsimp only [Pt.U, Pt.locs, Pt.cells, Pt.slots] at X71 l71 y71 z71 st71 hQ71
          subst l71 y71 z71
          obtain ⟨rfl, N71q, hh71⟩ := hQ71
          have N71 := Fr.app N70 N71q
          refine own_step st71 ?_
          show own_Ends p e below s _ _ _ T71 (mkF m 162 #[.val (.long j0), .second, .val (.long j1), .second, .val (.long j2), .second, .val (.long j3), .second, .val (.int i4), .val (.long (j0 &&& (9223372036854775807 : Int64))), .second, .val (.long (j1 &&& (9223372036854775807 : Int64))), .second, .val (.long js0_32), .second, .val (.long js0_52), .second, .val (.ref b49), .val (.ref b51), .val (.int (0 : Int32)), .val (.int (own_cmp (j0 &&& (9223372036854775807 : Int64)) (j1 &&& (9223372036854775807 : Int64)) js0_32 js0_52)), .val (.int (own_cmp js0_32 js0_52 (j0 &&& (9223372036854775807 : Int64)) (j1 &&& (9223372036854775807 : Int64))))] [(.int (f6_0 (own_cmp (j0 &&& (9223372036854775807 : Int64)) (j1 &&& (9223372036854775807 : Int64)) js0_32 js0_52)))])
          refine own_step (fun _ => XS.iload X71.here hx rfl (hb hby at_162) rfl) ?_
          show own_Ends p e below s _ _ _ T71 (mkF m 164 #[.val (.long j0), .second, .val (.long j1), .second, .val (.long j2), .second, .val (.long j3), .second, .val (.int i4), .val (.long (j0 &&& (9223372036854775807 : Int64))), .second, .val (.long (j1 &&& (9223372036854775807 : Int64))), .second, .val (.long js0_32), .second, .val (.long js0_52), .second, .val (.ref b49), .val (.ref b51), .val (.int (0 : Int32)), .val (.int (own_cmp (j0 &&& (9223372036854775807 : Int64)) (j1 &&& (9223372036854775807 : Int64)) js0_32 js0_52)), .val (.int (own_cmp js0_32 js0_52 (j0 &&& (9223372036854775807 : Int64)) (j1 &&& (9223372036854775807 : Int64))))] [(.int (0 : Int32)), (.int (f6_0 (own_cmp (j0 &&& (9223372036854775807 : Int64)) (j1 &&& (9223372036854775807 : Int64)) js0_32 js0_52)))])
          by_cases hc164 : (f6_0 (own_cmp (j0 &&& (9223372036854775807 : Int64)) (j1 &&& (9223372036854775807 : Int64)) js0_32 js0_52)) = (0 : Int32)
          · have hv_f_f_f_f_t := hv_f_f_f_f.trans (if_pos hc164)
            refine own_step (fun _ => XS.icmpNo X71.here hx rfl (hb hby at_164) rfl (teq hc164).2) ?_
            show own_Ends p e below s _ _ _ T71 (mkF m 167 #[.val (.long j0), .second, .val (.long j1), .second, .val (.long j2), .second, .val (.long j3), .second, .val (.int i4), .val (.long (j0 &&& (9223372036854775807 : Int64))), .second, .val (.long (j1 &&& (9223372036854775807 : Int64))), .second, .val (.long js0_32), .second, .val (.long js0_52), .second, .val (.ref b49), .val (.ref b51), .val (.int (0 : Int32)), .val (.int (own_cmp (j0 &&& (9223372036854775807 : Int64)) (j1 &&& (9223372036854775807 : Int64)) js0_32 js0_52)), .val (.int (own_cmp js0_32 js0_52 (j0 &&& (9223372036854775807 : Int64)) (j1 &&& (9223372036854775807 : Int64))))] [])
            refine own_step (fun _ => XS.iload X71.here hx rfl (hb hby at_167) rfl) ?_
            show own_Ends p e below s _ _ _ T71 (mkF m 169 #[.val (.long j0), .second, .val (.long j1), .second, .val (.long j2), .second, .val (.long j3), .second, .val (.int i4), .val (.long (j0 &&& (9223372036854775807 : Int64))), .second, .val (.long (j1 &&& (9223372036854775807 : Int64))), .second, .val (.long js0_32), .second, .val (.long js0_52), .second, .val (.ref b49), .val (.ref b51), .val (.int (0 : Int32)), .val (.int (own_cmp (j0 &&& (9223372036854775807 : Int64)) (j1 &&& (9223372036854775807 : Int64)) js0_32 js0_52)), .val (.int (own_cmp js0_32 js0_52 (j0 &&& (9223372036854775807 : Int64)) (j1 &&& (9223372036854775807 : Int64))))] [(.int (own_cmp js0_32 js0_52 (j0 &&& (9223372036854775807 : Int64)) (j1 &&& (9223372036854775807 : Int64))))])
            obtain ⟨_, _, ⟨T72, L72, k72, n72⟩, -, X72, ⟨Lc72, hQ72, l72, y72, z72⟩, st72⟩ := Jvm.LawKit.callS X71 hx (y := (⟨"com/example/rollforth/rollforth/log/LogInstantCompareToPinLaw", "sign", "(I)I"⟩ : MethodName)) hown (mvT hZ (hw _ (List.mem_of_getElem? (i := 28) rfl))) (mvT hZ (hw _ (List.mem_of_getElem? (i := 29) rfl))) (mvT hZ (hw _ (List.mem_of_getElem? (i := 30) rfl))) (mvT hZ (hw _ (List.mem_of_getElem? (i := 31) rfl))) (by decide) (backOf (W := 0) (rm6 l Z a0 hw [] (own_cmp js0_32 js0_52 (j0 &&& (9223372036854775807 : Int64)) (j1 &&& (9223372036854775807 : Int64))) T52.heap n0 Zs52) hZ (hw _ (List.mem_of_getElem? (i := 31) rfl)) (hw _ (List.mem_of_getElem? (i := 30) rfl)) (by decide) (by decide)) (g := (mkF m 169 #[.val (.long j0), .second, .val (.long j1), .second, .val (.long j2), .second, .val (.long j3), .second, .val (.int i4), .val (.long (j0 &&& (9223372036854775807 : Int64))), .second, .val (.long (j1 &&& (9223372036854775807 : Int64))), .second, .val (.long js0_32), .second, .val (.long js0_52), .second, .val (.ref b49), .val (.ref b51), .val (.int (0 : Int32)), .val (.int (own_cmp (j0 &&& (9223372036854775807 : Int64)) (j1 &&& (9223372036854775807 : Int64)) js0_32 js0_52)), .val (.int (own_cmp js0_32 js0_52 (j0 &&& (9223372036854775807 : Int64)) (j1 &&& (9223372036854775807 : Int64))))] [(.int (own_cmp js0_32 js0_52 (j0 &&& (9223372036854775807 : Int64)) (j1 &&& (9223372036854775807 : Int64))))])) rfl (by rw [hml]; rfl) (argsL := [(.int (own_cmp js0_32 js0_52 (j0 &&& (9223372036854775807 : Int64)) (j1 &&& (9223372036854775807 : Int64))))]) (rest := []) (lenOf pd_4 rfl) rfl (by show 2 * 0 + _ ≤ _; exact Nat.le_of_eq rfl) (hb hby at_169) (fun _ _ => ⟨rfl, hh71, (by decide : 2 + 0 ≤ _), (by decide : 4 + 0 ≤ _)⟩)
            dsimp only [Pt.U, Pt.locs, Pt.cells, Pt.slots] at X72 l72 y72 z72 st72 hQ72
            subst l72 y72 z72
            obtain ⟨rfl, N72q, hh72⟩ := hQ72
            have N72 := Fr.app N71 N72q
            refine own_step st72 ?_
            show own_Ends p e below s _ _ _ T72 (mkF m 172 #[.val (.long j0), .second, .val (.long j1), .second, .val (.long j2), .second, .val (.long j3), .second, .val (.int i4), .val (.long (j0 &&& (9223372036854775807 : Int64))), .second, .val (.long (j1 &&& (9223372036854775807 : Int64))), .second, .val (.long js0_32), .second, .val (.long js0_52), .second, .val (.ref b49), .val (.ref b51), .val (.int (0 : Int32)), .val (.int (own_cmp (j0 &&& (9223372036854775807 : Int64)) (j1 &&& (9223372036854775807 : Int64)) js0_32 js0_52)), .val (.int (own_cmp js0_32 js0_52 (j0 &&& (9223372036854775807 : Int64)) (j1 &&& (9223372036854775807 : Int64))))] [(.int (f6_0 (own_cmp js0_32 js0_52 (j0 &&& (9223372036854775807 : Int64)) (j1 &&& (9223372036854775807 : Int64)))))])
            refine own_step (fun _ => XS.iload X72.here hx rfl (hb hby at_172) rfl) ?_
            show own_Ends p e below s _ _ _ T72 (mkF m 174 #[.val (.long j0), .second, .val (.long j1), .second, .val (.long j2), .second, .val (.long j3), .second, .val (.int i4), .val (.long (j0 &&& (9223372036854775807 : Int64))), .second, .val (.long (j1 &&& (9223372036854775807 : Int64))), .second, .val (.long js0_32), .second, .val (.long js0_52), .second, .val (.ref b49), .val (.ref b51), .val (.int (0 : Int32)), .val (.int (own_cmp (j0 &&& (9223372036854775807 : Int64)) (j1 &&& (9223372036854775807 : Int64)) js0_32 js0_52)), .val (.int (own_cmp js0_32 js0_52 (j0 &&& (9223372036854775807 : Int64)) (j1 &&& (9223372036854775807 : Int64))))] [(.int (0 : Int32)), (.int (f6_0 (own_cmp js0_32 js0_52 (j0 &&& (9223372036854775807 : Int64)) (j1 &&& (9223372036854775807 : Int64)))))])
            refine own_step (fun _ => XS.ineg X72.here hx rfl (hb hby at_174) rfl) ?_
            show own_Ends p e below s _ _ _ T72 (mkF m 175 #[.val (.long j0), .second, .val (.long j1), .second, .val (.long j2), .second, .val (.long j3), .second, .val (.int i4), .val (.long (j0 &&& (9223372036854775807 : Int64))), .second, .val (.long (j1 &&& (9223372036854775807 : Int64))), .second, .val (.long js0_32), .second, .val (.long js0_52), .second, .val (.ref b49), .val (.ref b51), .val (.int (0 : Int32)), .val (.int (own_cmp (j0 &&& (9223372036854775807 : Int64)) (j1 &&& (9223372036854775807 : Int64)) js0_32 js0_52)), .val (.int (own_cmp js0_32 js0_52 (j0 &&& (9223372036854775807 : Int64)) (j1 &&& (9223372036854775807 : Int64))))] [(.int (-(0 : Int32))), (.int (f6_0 (own_cmp js0_32 js0_52 (j0 &&& (9223372036854775807 : Int64)) (j1 &&& (9223372036854775807 : Int64)))))])
            by_cases hc175 : (f6_0 (own_cmp js0_32 js0_52 (j0 &&& (9223372036854775807 : Int64)) (j1 &&& (9223372036854775807 : Int64)))) = (-(0 : Int32))
            · have hv_f_f_f_f_t_t := hv_f_f_f_f_t.trans (if_pos hc175)
              refine own_step (fun _ => XS.icmpNo X72.here hx rfl (hb hby at_175) rfl (teq hc175).2) ?_
              show own_Ends p e below s _ _ _ T72 (mkF m 178 #[.val (.long j0), .second, .val (.long j1), .second, .val (.long j2), .second, .val (.long j3), .second, .val (.int i4), .val (.long (j0 &&& (9223372036854775807 : Int64))), .second, .val (.long (j1 &&& (9223372036854775807 : Int64))), .second, .val (.long js0_32), .second, .val (.long js0_52), .second, .val (.ref b49), .val (.ref b51), .val (.int (0 : Int32)), .val (.int (own_cmp (j0 &&& (9223372036854775807 : Int64)) (j1 &&& (9223372036854775807 : Int64)) js0_32 js0_52)), .val (.int (own_cmp js0_32 js0_52 (j0 &&& (9223372036854775807 : Int64)) (j1 &&& (9223372036854775807 : Int64))))] [])
              refine own_step (fun _ => XS.iconst X72.here hx rfl (hb hby at_178)) ?_
              show own_Ends p e below s _ _ _ T72 (mkF m 179 #[.val (.long j0), .second, .val (.long j1), .second, .val (.long j2), .second, .val (.long j3), .second, .val (.int i4), .val (.long (j0 &&& (9223372036854775807 : Int64))), .second, .val (.long (j1 &&& (9223372036854775807 : Int64))), .second, .val (.long js0_32), .second, .val (.long js0_52), .second, .val (.ref b49), .val (.ref b51), .val (.int (0 : Int32)), .val (.int (own_cmp (j0 &&& (9223372036854775807 : Int64)) (j1 &&& (9223372036854775807 : Int64)) js0_32 js0_52)), .val (.int (own_cmp js0_32 js0_52 (j0 &&& (9223372036854775807 : Int64)) (j1 &&& (9223372036854775807 : Int64))))] [(.int (1 : Int32))])
              refine own_step (fun _ => XS.goto X72.here hx rfl (pc0 := 179) (pc' := 183) rfl (hb hby at_179) (by decide) (by decide)) ?_
              show own_Ends p e below s _ _ _ T72 (mkF m 183 #[.val (.long j0), .second, .val (.long j1), .second, .val (.long j2), .second, .val (.long j3), .second, .val (.int i4), .val (.long (j0 &&& (9223372036854775807 : Int64))), .second, .val (.long (j1 &&& (9223372036854775807 : Int64))), .second, .val (.long js0_32), .second, .val (.long js0_52), .second, .val (.ref b49), .val (.ref b51), .val (.int (0 : Int32)), .val (.int (own_cmp (j0 &&& (9223372036854775807 : Int64)) (j1 &&& (9223372036854775807 : Int64)) js0_32 js0_52)), .val (.int (own_cmp js0_32 js0_52 (j0 &&& (9223372036854775807 : Int64)) (j1 &&& (9223372036854775807 : Int64))))] [(.int (1 : Int32))])
              exact own_retN X72 (t := .boolean) hx hret hlk (hb hby at_183) (by decide) (by decide) (by simp) ⟨congrArg (fun z => some (Value.int z)) hv_f_f_f_f_t_t.symm, N72, trivial⟩
            · have hv_f_f_f_f_t_f := hv_f_f_f_f_t.trans (if_neg hc175)
              refine own_step (fun _ => XS.icmpYes X72.here hx rfl (pc0 := 175) (pc' := 182) rfl (hb hby at_175) rfl (feq hc175).2 (by decide) (by decide)) ?_
              show own_Ends p e below s _ _ _ T72 (mkF m 182 #[.val (.long j0), .second, .val (.long j1), .second, .val (.long j2), .second, .val (.long j3), .second, .val (.int i4), .val (.long (j0 &&& (9223372036854775807 : Int64))), .second, .val (.long (j1 &&& (9223372036854775807 : Int64))), .second, .val (.long js0_32), .second, .val (.long js0_52), .second, .val (.ref b49), .val (.ref b51), .val (.int (0 : Int32)), .val (.int (own_cmp (j0 &&& (9223372036854775807 : Int64)) (j1 &&& (9223372036854775807 : Int64)) js0_32 js0_52)), .val (.int (own_cmp js0_32 js0_52 (j0 &&& (9223372036854775807 : Int64)) (j1 &&& (9223372036854775807 : Int64))))] [])
              refine own_step (fun _ => XS.iconst X72.here hx rfl (hb hby at_182)) ?_
              show own_Ends p e below s _ _ _ T72 (mkF m 183 #[.val (.long j0), .second, .val (.long j1), .second, .val (.long j2), .second, .val (.long j3), .second, .val (.int i4), .val (.long (j0 &&& (9223372036854775807 : Int64))), .second, .val (.long (j1 &&& (9223372036854775807 : Int64))), .second, .val (.long js0_32), .second, .val (.long js0_52), .second, .val (.ref b49), .val (.ref b51), .val (.int (0 : Int32)), .val (.int (own_cmp (j0 &&& (9223372036854775807 : Int64)) (j1 &&& (9223372036854775807 : Int64)) js0_32 js0_52)), .val (.int (own_cmp js0_32 js0_52 (j0 &&& (9223372036854775807 : Int64)) (j1 &&& (9223372036854775807 : Int64))))] [(.int (0 : Int32))])
              exact own_retN X72 (t := .boolean) hx hret hlk (hb hby at_183) (by decide) (by decide) (by simp) ⟨congrArg (fun z => some (Value.int z)) hv_f_f_f_f_t_f.symm, N72, trivial⟩
          · have hv_f_f_f_f_f := hv_f_f_f_f.trans (if_neg hc164)
            refine own_step (fun _ => XS.icmpYes X71.here hx rfl (pc0 := 164) (pc' := 182) rfl (hb hby at_164) rfl (feq hc164).2 (by decide) (by decide)) ?_
            show own_Ends p e below s _ _ _ T71 (mkF m 182 #[.val (.long j0), .second, .val (.long j1), .second, .val (.long j2), .second, .val (.long j3), .second, .val (.int i4), .val (.long (j0 &&& (9223372036854775807 : Int64))), .second, .val (.long (j1 &&& (9223372036854775807 : Int64))), .second, .val (.long js0_32), .second, .val (.long js0_52), .second, .val (.ref b49), .val (.ref b51), .val (.int (0 : Int32)), .val (.int (own_cmp (j0 &&& (9223372036854775807 : Int64)) (j1 &&& (9223372036854775807 : Int64)) js0_32 js0_52)), .val (.int (own_cmp js0_32 js0_52 (j0 &&& (9223372036854775807 : Int64)) (j1 &&& (9223372036854775807 : Int64))))] [])
            refine own_step (fun _ => XS.iconst X71.here hx rfl (hb hby at_182)) ?_
            show own_Ends p e below s _ _ _ T71 (mkF m 183 #[.val (.long j0), .second, .val (.long j1), .second, .val (.long j2), .second, .val (.long j3), .second, .val (.int i4), .val (.long (j0 &&& (9223372036854775807 : Int64))), .second, .val (.long (j1 &&& (9223372036854775807 : Int64))), .second, .val (.long js0_32), .second, .val (.long js0_52), .second, .val (.ref b49), .val (.ref b51), .val (.int (0 : Int32)), .val (.int (own_cmp (j0 &&& (9223372036854775807 : Int64)) (j1 &&& (9223372036854775807 : Int64)) js0_32 js0_52)), .val (.int (own_cmp js0_32 js0_52 (j0 &&& (9223372036854775807 : Int64)) (j1 &&& (9223372036854775807 : Int64))))] [(.int (0 : Int32))])
            exact own_retN X71 (t := .boolean) hx hret hlk (hb hby at_183) (by decide) (by decide) (by simp) ⟨congrArg (fun z => some (Value.int z)) hv_f_f_f_f_f.symm, N71, trivial⟩
def f0_32 (j0 : Int64) (j1 : Int64) (j2 : Int64) (j3 : Int64) (i4 : Int32) (js0_32 : Int64) : Int32 := (if (i4 &&& (2 : Int32)) = (0 : Int32) then (f0_52 j0 j1 j2 j3 i4 js0_32 (j3 &&& (9223372036854775807 : Int64))) else (f0_52 j0 j1 j2 j3 i4 js0_32 (j1 &&& (9223372036854775807 : Int64))))
set_option maxRecDepth 65536 in
set_option maxHeartbeats 40000000 in
theorem b0_32 {p : Program} {l : Launch} {e : Env} {s : State} {m : MethodId} {args : Array Value} {below : List Frame} {meth : Method} {c : Code} {Z : State} {a0 : Array Value} {h0 : Heap} {n0 : Nat} (C : own_C "com/example/rollforth/rollforth/log/LogInstantCompareToPinLaw" code maxLocals ret x.name p s m meth c Z a0) (Z0 : n0 ≤ h0.size) {T0 : State} {locs : List Loc} (X0 : Stand p l e room_1 s m args below meth c T0 locs 0 0) (e0 : T0.heap = h0) (N0 : Fr n0 locs) (j0 : Int64) (j1 : Int64) (j2 : Int64) (j3 : Int64) (i4 : Int32) (js0_32 : Int64) (hn32 : ¬ js0_32 < 0) (W : Int32) (hv : W = f0_32 j0 j1 j2 j3 i4 js0_32) :
    own_Ends p e below s room_1.cells room_1.slots (own_QL n0 (some (.int W))) T0 (mkF m 32 #[.val (.long j0), .second, .val (.long j1), .second, .val (.long j2), .second, .val (.long j3), .second, .val (.int i4), .val (.long (j0 &&& (9223372036854775807 : Int64))), .second, .val (.long (j1 &&& (9223372036854775807 : Int64))), .second, .unset, .unset, .unset, .unset, .unset, .unset, .unset, .unset, .unset] [(.long js0_32)]) := by
  obtain ⟨hx, hZ, hw, hby, hml, hown, hret, hlk, hnm⟩ := C
  have C : own_C "com/example/rollforth/rollforth/log/LogInstantCompareToPinLaw" code maxLocals ret x.name p s m meth c Z a0 := ⟨hx, hZ, hw, hby, hml, hown, hret, hlk, hnm⟩
  unfold f0_32 at hv
  refine own_step (fun _ => XS.lstore X0.here hx rfl (hb hby at_32) rfl (l' := #[.val (.long j0), .second, .val (.long j1), .second, .val (.long j2), .second, .val (.long j3), .second, .val (.int i4), .val (.long (j0 &&& (9223372036854775807 : Int64))), .second, .val (.long (j1 &&& (9223372036854775807 : Int64))), .second, .val (.long js0_32), .second, .unset, .unset, .unset, .unset, .unset, .unset, .unset]) rfl) ?_
  show own_Ends p e below s _ _ _ T0 (mkF m 34 #[.val (.long j0), .second, .val (.long j1), .second, .val (.long j2), .second, .val (.long j3), .second, .val (.int i4), .val (.long (j0 &&& (9223372036854775807 : Int64))), .second, .val (.long (j1 &&& (9223372036854775807 : Int64))), .second, .val (.long js0_32), .second, .unset, .unset, .unset, .unset, .unset, .unset, .unset] [])
  refine own_step (fun _ => XS.iload X0.here hx rfl (hb hby at_34) rfl) ?_
  show own_Ends p e below s _ _ _ T0 (mkF m 36 #[.val (.long j0), .second, .val (.long j1), .second, .val (.long j2), .second, .val (.long j3), .second, .val (.int i4), .val (.long (j0 &&& (9223372036854775807 : Int64))), .second, .val (.long (j1 &&& (9223372036854775807 : Int64))), .second, .val (.long js0_32), .second, .unset, .unset, .unset, .unset, .unset, .unset, .unset] [(.int i4)])
  refine own_step (fun _ => XS.iconst X0.here hx rfl (hb hby at_36)) ?_
  show own_Ends p e below s _ _ _ T0 (mkF m 37 #[.val (.long j0), .second, .val (.long j1), .second, .val (.long j2), .second, .val (.long j3), .second, .val (.int i4), .val (.long (j0 &&& (9223372036854775807 : Int64))), .second, .val (.long (j1 &&& (9223372036854775807 : Int64))), .second, .val (.long js0_32), .second, .unset, .unset, .unset, .unset, .unset, .unset, .unset] [(.int (2 : Int32)), (.int i4)])
  refine own_step (fun _ => XS.iand X0.here hx rfl (hb hby at_37) rfl) ?_
  show own_Ends p e below s _ _ _ T0 (mkF m 38 #[.val (.long j0), .second, .val (.long j1), .second, .val (.long j2), .second, .val (.long j3), .second, .val (.int i4), .val (.long (j0 &&& (9223372036854775807 : Int64))), .second, .val (.long (j1 &&& (9223372036854775807 : Int64))), .second, .val (.long js0_32), .second, .unset, .unset, .unset, .unset, .unset, .unset, .unset] [(.int (i4 &&& (2 : Int32)))])
  by_cases hc38 : (i4 &&& (2 : Int32)) = (0 : Int32)
  · have hv_t := hv.trans (if_pos hc38)
    refine own_step (fun _ => XS.ifYes X0.here hx rfl (pc0 := 38) (pc' := 46) rfl (hb hby at_38) rfl ((if0 _ _).trans (teq hc38).1) (by decide) (by decide)) ?_
    show own_Ends p e below s _ _ _ T0 (mkF m 46 #[.val (.long j0), .second, .val (.long j1), .second, .val (.long j2), .second, .val (.long j3), .second, .val (.int i4), .val (.long (j0 &&& (9223372036854775807 : Int64))), .second, .val (.long (j1 &&& (9223372036854775807 : Int64))), .second, .val (.long js0_32), .second, .unset, .unset, .unset, .unset, .unset, .unset, .unset] [])
    refine own_step (fun _ => XS.lload X0.here hx rfl (hb hby at_46) rfl) ?_
    show own_Ends p e below s _ _ _ T0 (mkF m 48 #[.val (.long j0), .second, .val (.long j1), .second, .val (.long j2), .second, .val (.long j3), .second, .val (.int i4), .val (.long (j0 &&& (9223372036854775807 : Int64))), .second, .val (.long (j1 &&& (9223372036854775807 : Int64))), .second, .val (.long js0_32), .second, .unset, .unset, .unset, .unset, .unset, .unset, .unset] [(.long j3)])
    refine own_step (fun _ => X0.ldc2Long hx hown (mvT hZ (hw _ (List.mem_of_getElem? (i := 0) rfl))) (g := (mkF m 48 #[.val (.long j0), .second, .val (.long j1), .second, .val (.long j2), .second, .val (.long j3), .second, .val (.int i4), .val (.long (j0 &&& (9223372036854775807 : Int64))), .second, .val (.long (j1 &&& (9223372036854775807 : Int64))), .second, .val (.long js0_32), .second, .unset, .unset, .unset, .unset, .unset, .unset, .unset] [(.long j3)])) rfl (hb hby at_48) _) ?_
    show own_Ends p e below s _ _ _ T0 (mkF m 51 #[.val (.long j0), .second, .val (.long j1), .second, .val (.long j2), .second, .val (.long j3), .second, .val (.int i4), .val (.long (j0 &&& (9223372036854775807 : Int64))), .second, .val (.long (j1 &&& (9223372036854775807 : Int64))), .second, .val (.long js0_32), .second, .unset, .unset, .unset, .unset, .unset, .unset, .unset] [(.long (9223372036854775807 : Int64)), (.long j3)])
    refine own_step (fun _ => XS.land X0.here hx rfl (hb hby at_51) rfl) ?_
    show own_Ends p e below s _ _ _ T0 (mkF m 52 #[.val (.long j0), .second, .val (.long j1), .second, .val (.long j2), .second, .val (.long j3), .second, .val (.int i4), .val (.long (j0 &&& (9223372036854775807 : Int64))), .second, .val (.long (j1 &&& (9223372036854775807 : Int64))), .second, .val (.long js0_32), .second, .unset, .unset, .unset, .unset, .unset, .unset, .unset] [(.long (j3 &&& (9223372036854775807 : Int64)))])
    exact b0_52 C Z0 X0 e0 N0 j0 j1 j2 j3 i4 js0_32 (j3 &&& (9223372036854775807 : Int64)) hn32 (own_nn63 _) _ hv_t
  · have hv_f := hv.trans (if_neg hc38)
    refine own_step (fun _ => XS.ifNo X0.here hx rfl (hb hby at_38) rfl ((if0 _ _).trans (feq hc38).1)) ?_
    show own_Ends p e below s _ _ _ T0 (mkF m 41 #[.val (.long j0), .second, .val (.long j1), .second, .val (.long j2), .second, .val (.long j3), .second, .val (.int i4), .val (.long (j0 &&& (9223372036854775807 : Int64))), .second, .val (.long (j1 &&& (9223372036854775807 : Int64))), .second, .val (.long js0_32), .second, .unset, .unset, .unset, .unset, .unset, .unset, .unset] [])
    refine own_step (fun _ => XS.lload X0.here hx rfl (hb hby at_41) rfl) ?_
    show own_Ends p e below s _ _ _ T0 (mkF m 43 #[.val (.long j0), .second, .val (.long j1), .second, .val (.long j2), .second, .val (.long j3), .second, .val (.int i4), .val (.long (j0 &&& (9223372036854775807 : Int64))), .second, .val (.long (j1 &&& (9223372036854775807 : Int64))), .second, .val (.long js0_32), .second, .unset, .unset, .unset, .unset, .unset, .unset, .unset] [(.long (j1 &&& (9223372036854775807 : Int64)))])
    refine own_step (fun _ => XS.goto X0.here hx rfl (pc0 := 43) (pc' := 52) rfl (hb hby at_43) (by decide) (by decide)) ?_
    show own_Ends p e below s _ _ _ T0 (mkF m 52 #[.val (.long j0), .second, .val (.long j1), .second, .val (.long j2), .second, .val (.long j3), .second, .val (.int i4), .val (.long (j0 &&& (9223372036854775807 : Int64))), .second, .val (.long (j1 &&& (9223372036854775807 : Int64))), .second, .val (.long js0_32), .second, .unset, .unset, .unset, .unset, .unset, .unset, .unset] [(.long (j1 &&& (9223372036854775807 : Int64)))])
    exact b0_52 C Z0 X0 e0 N0 j0 j1 j2 j3 i4 js0_32 (j1 &&& (9223372036854775807 : Int64)) hn32 (own_nn63 _) _ hv_f
def f0_0 (j0 : Int64) (j1 : Int64) (j2 : Int64) (j3 : Int64) (i4 : Int32) : Int32 := (if (i4 &&& (1 : Int32)) = (0 : Int32) then (f0_32 j0 j1 j2 j3 i4 (j2 &&& (9223372036854775807 : Int64))) else (f0_32 j0 j1 j2 j3 i4 (j0 &&& (9223372036854775807 : Int64))))
set_option maxRecDepth 65536 in
set_option maxHeartbeats 40000000 in
theorem b0_0 {p : Program} {l : Launch} {e : Env} {s : State} {m : MethodId} {args : Array Value} {below : List Frame} {meth : Method} {c : Code} {Z : State} {a0 : Array Value} {h0 : Heap} {n0 : Nat} (C : own_C "com/example/rollforth/rollforth/log/LogInstantCompareToPinLaw" code maxLocals ret x.name p s m meth c Z a0) (Z0 : n0 ≤ h0.size) {T0 : State} {locs : List Loc} (X0 : Stand p l e room_1 s m args below meth c T0 locs 0 0) (e0 : T0.heap = h0) (N0 : Fr n0 locs) (j0 : Int64) (j1 : Int64) (j2 : Int64) (j3 : Int64) (i4 : Int32) (W : Int32) (hv : W = f0_0 j0 j1 j2 j3 i4) :
    own_Ends p e below s room_1.cells room_1.slots (own_QL n0 (some (.int W))) T0 (mkF m 0 #[.val (.long j0), .second, .val (.long j1), .second, .val (.long j2), .second, .val (.long j3), .second, .val (.int i4), .unset, .unset, .unset, .unset, .unset, .unset, .unset, .unset, .unset, .unset, .unset, .unset, .unset] []) := by
  obtain ⟨hx, hZ, hw, hby, hml, hown, hret, hlk, hnm⟩ := C
  have C : own_C "com/example/rollforth/rollforth/log/LogInstantCompareToPinLaw" code maxLocals ret x.name p s m meth c Z a0 := ⟨hx, hZ, hw, hby, hml, hown, hret, hlk, hnm⟩
  unfold f0_0 at hv
  refine own_step (fun _ => XS.lloadN X0.here hx rfl (hb hby at_0) rfl) ?_
  show own_Ends p e below s _ _ _ T0 (mkF m 1 #[.val (.long j0), .second, .val (.long j1), .second, .val (.long j2), .second, .val (.long j3), .second, .val (.int i4), .unset, .unset, .unset, .unset, .unset, .unset, .unset, .unset, .unset, .unset, .unset, .unset, .unset] [(.long j0)])
  refine own_step (fun _ => X0.ldc2Long hx hown (mvT hZ (hw _ (List.mem_of_getElem? (i := 0) rfl))) (g := (mkF m 1 #[.val (.long j0), .second, .val (.long j1), .second, .val (.long j2), .second, .val (.long j3), .second, .val (.int i4), .unset, .unset, .unset, .unset, .unset, .unset, .unset, .unset, .unset, .unset, .unset, .unset, .unset] [(.long j0)])) rfl (hb hby at_1) _) ?_
  show own_Ends p e below s _ _ _ T0 (mkF m 4 #[.val (.long j0), .second, .val (.long j1), .second, .val (.long j2), .second, .val (.long j3), .second, .val (.int i4), .unset, .unset, .unset, .unset, .unset, .unset, .unset, .unset, .unset, .unset, .unset, .unset, .unset] [(.long (9223372036854775807 : Int64)), (.long j0)])
  refine own_step (fun _ => XS.land X0.here hx rfl (hb hby at_4) rfl) ?_
  show own_Ends p e below s _ _ _ T0 (mkF m 5 #[.val (.long j0), .second, .val (.long j1), .second, .val (.long j2), .second, .val (.long j3), .second, .val (.int i4), .unset, .unset, .unset, .unset, .unset, .unset, .unset, .unset, .unset, .unset, .unset, .unset, .unset] [(.long (j0 &&& (9223372036854775807 : Int64)))])
  refine own_step (fun _ => XS.lstore X0.here hx rfl (hb hby at_5) rfl (l' := #[.val (.long j0), .second, .val (.long j1), .second, .val (.long j2), .second, .val (.long j3), .second, .val (.int i4), .val (.long (j0 &&& (9223372036854775807 : Int64))), .second, .unset, .unset, .unset, .unset, .unset, .unset, .unset, .unset, .unset, .unset, .unset]) rfl) ?_
  show own_Ends p e below s _ _ _ T0 (mkF m 7 #[.val (.long j0), .second, .val (.long j1), .second, .val (.long j2), .second, .val (.long j3), .second, .val (.int i4), .val (.long (j0 &&& (9223372036854775807 : Int64))), .second, .unset, .unset, .unset, .unset, .unset, .unset, .unset, .unset, .unset, .unset, .unset] [])
  refine own_step (fun _ => XS.lloadN X0.here hx rfl (hb hby at_7) rfl) ?_
  show own_Ends p e below s _ _ _ T0 (mkF m 8 #[.val (.long j0), .second, .val (.long j1), .second, .val (.long j2), .second, .val (.long j3), .second, .val (.int i4), .val (.long (j0 &&& (9223372036854775807 : Int64))), .second, .unset, .unset, .unset, .unset, .unset, .unset, .unset, .unset, .unset, .unset, .unset] [(.long j1)])
  refine own_step (fun _ => X0.ldc2Long hx hown (mvT hZ (hw _ (List.mem_of_getElem? (i := 0) rfl))) (g := (mkF m 8 #[.val (.long j0), .second, .val (.long j1), .second, .val (.long j2), .second, .val (.long j3), .second, .val (.int i4), .val (.long (j0 &&& (9223372036854775807 : Int64))), .second, .unset, .unset, .unset, .unset, .unset, .unset, .unset, .unset, .unset, .unset, .unset] [(.long j1)])) rfl (hb hby at_8) _) ?_
  show own_Ends p e below s _ _ _ T0 (mkF m 11 #[.val (.long j0), .second, .val (.long j1), .second, .val (.long j2), .second, .val (.long j3), .second, .val (.int i4), .val (.long (j0 &&& (9223372036854775807 : Int64))), .second, .unset, .unset, .unset, .unset, .unset, .unset, .unset, .unset, .unset, .unset, .unset] [(.long (9223372036854775807 : Int64)), (.long j1)])
  refine own_step (fun _ => XS.land X0.here hx rfl (hb hby at_11) rfl) ?_
  show own_Ends p e below s _ _ _ T0 (mkF m 12 #[.val (.long j0), .second, .val (.long j1), .second, .val (.long j2), .second, .val (.long j3), .second, .val (.int i4), .val (.long (j0 &&& (9223372036854775807 : Int64))), .second, .unset, .unset, .unset, .unset, .unset, .unset, .unset, .unset, .unset, .unset, .unset] [(.long (j1 &&& (9223372036854775807 : Int64)))])
  refine own_step (fun _ => XS.lstore X0.here hx rfl (hb hby at_12) rfl (l' := #[.val (.long j0), .second, .val (.long j1), .second, .val (.long j2), .second, .val (.long j3), .second, .val (.int i4), .val (.long (j0 &&& (9223372036854775807 : Int64))), .second, .val (.long (j1 &&& (9223372036854775807 : Int64))), .second, .unset, .unset, .unset, .unset, .unset, .unset, .unset, .unset, .unset]) rfl) ?_
  show own_Ends p e below s _ _ _ T0 (mkF m 14 #[.val (.long j0), .second, .val (.long j1), .second, .val (.long j2), .second, .val (.long j3), .second, .val (.int i4), .val (.long (j0 &&& (9223372036854775807 : Int64))), .second, .val (.long (j1 &&& (9223372036854775807 : Int64))), .second, .unset, .unset, .unset, .unset, .unset, .unset, .unset, .unset, .unset] [])
  refine own_step (fun _ => XS.iload X0.here hx rfl (hb hby at_14) rfl) ?_
  show own_Ends p e below s _ _ _ T0 (mkF m 16 #[.val (.long j0), .second, .val (.long j1), .second, .val (.long j2), .second, .val (.long j3), .second, .val (.int i4), .val (.long (j0 &&& (9223372036854775807 : Int64))), .second, .val (.long (j1 &&& (9223372036854775807 : Int64))), .second, .unset, .unset, .unset, .unset, .unset, .unset, .unset, .unset, .unset] [(.int i4)])
  refine own_step (fun _ => XS.iconst X0.here hx rfl (hb hby at_16)) ?_
  show own_Ends p e below s _ _ _ T0 (mkF m 17 #[.val (.long j0), .second, .val (.long j1), .second, .val (.long j2), .second, .val (.long j3), .second, .val (.int i4), .val (.long (j0 &&& (9223372036854775807 : Int64))), .second, .val (.long (j1 &&& (9223372036854775807 : Int64))), .second, .unset, .unset, .unset, .unset, .unset, .unset, .unset, .unset, .unset] [(.int (1 : Int32)), (.int i4)])
  refine own_step (fun _ => XS.iand X0.here hx rfl (hb hby at_17) rfl) ?_
  show own_Ends p e below s _ _ _ T0 (mkF m 18 #[.val (.long j0), .second, .val (.long j1), .second, .val (.long j2), .second, .val (.long j3), .second, .val (.int i4), .val (.long (j0 &&& (9223372036854775807 : Int64))), .second, .val (.long (j1 &&& (9223372036854775807 : Int64))), .second, .unset, .unset, .unset, .unset, .unset, .unset, .unset, .unset, .unset] [(.int (i4 &&& (1 : Int32)))])
  by_cases hc18 : (i4 &&& (1 : Int32)) = (0 : Int32)
  · have hv_t := hv.trans (if_pos hc18)
    refine own_step (fun _ => XS.ifYes X0.here hx rfl (pc0 := 18) (pc' := 26) rfl (hb hby at_18) rfl ((if0 _ _).trans (teq hc18).1) (by decide) (by decide)) ?_
    show own_Ends p e below s _ _ _ T0 (mkF m 26 #[.val (.long j0), .second, .val (.long j1), .second, .val (.long j2), .second, .val (.long j3), .second, .val (.int i4), .val (.long (j0 &&& (9223372036854775807 : Int64))), .second, .val (.long (j1 &&& (9223372036854775807 : Int64))), .second, .unset, .unset, .unset, .unset, .unset, .unset, .unset, .unset, .unset] [])
    refine own_step (fun _ => XS.lload X0.here hx rfl (hb hby at_26) rfl) ?_
    show own_Ends p e below s _ _ _ T0 (mkF m 28 #[.val (.long j0), .second, .val (.long j1), .second, .val (.long j2), .second, .val (.long j3), .second, .val (.int i4), .val (.long (j0 &&& (9223372036854775807 : Int64))), .second, .val (.long (j1 &&& (9223372036854775807 : Int64))), .second, .unset, .unset, .unset, .unset, .unset, .unset, .unset, .unset, .unset] [(.long j2)])
    refine own_step (fun _ => X0.ldc2Long hx hown (mvT hZ (hw _ (List.mem_of_getElem? (i := 0) rfl))) (g := (mkF m 28 #[.val (.long j0), .second, .val (.long j1), .second, .val (.long j2), .second, .val (.long j3), .second, .val (.int i4), .val (.long (j0 &&& (9223372036854775807 : Int64))), .second, .val (.long (j1 &&& (9223372036854775807 : Int64))), .second, .unset, .unset, .unset, .unset, .unset, .unset, .unset, .unset, .unset] [(.long j2)])) rfl (hb hby at_28) _) ?_
    show own_Ends p e below s _ _ _ T0 (mkF m 31 #[.val (.long j0), .second, .val (.long j1), .second, .val (.long j2), .second, .val (.long j3), .second, .val (.int i4), .val (.long (j0 &&& (9223372036854775807 : Int64))), .second, .val (.long (j1 &&& (9223372036854775807 : Int64))), .second, .unset, .unset, .unset, .unset, .unset, .unset, .unset, .unset, .unset] [(.long (9223372036854775807 : Int64)), (.long j2)])
    refine own_step (fun _ => XS.land X0.here hx rfl (hb hby at_31) rfl) ?_
    show own_Ends p e below s _ _ _ T0 (mkF m 32 #[.val (.long j0), .second, .val (.long j1), .second, .val (.long j2), .second, .val (.long j3), .second, .val (.int i4), .val (.long (j0 &&& (9223372036854775807 : Int64))), .second, .val (.long (j1 &&& (9223372036854775807 : Int64))), .second, .unset, .unset, .unset, .unset, .unset, .unset, .unset, .unset, .unset] [(.long (j2 &&& (9223372036854775807 : Int64)))])
    exact b0_32 C Z0 X0 e0 N0 j0 j1 j2 j3 i4 (j2 &&& (9223372036854775807 : Int64)) (own_nn63 _) _ hv_t
  · have hv_f := hv.trans (if_neg hc18)
    refine own_step (fun _ => XS.ifNo X0.here hx rfl (hb hby at_18) rfl ((if0 _ _).trans (feq hc18).1)) ?_
    show own_Ends p e below s _ _ _ T0 (mkF m 21 #[.val (.long j0), .second, .val (.long j1), .second, .val (.long j2), .second, .val (.long j3), .second, .val (.int i4), .val (.long (j0 &&& (9223372036854775807 : Int64))), .second, .val (.long (j1 &&& (9223372036854775807 : Int64))), .second, .unset, .unset, .unset, .unset, .unset, .unset, .unset, .unset, .unset] [])
    refine own_step (fun _ => XS.lload X0.here hx rfl (hb hby at_21) rfl) ?_
    show own_Ends p e below s _ _ _ T0 (mkF m 23 #[.val (.long j0), .second, .val (.long j1), .second, .val (.long j2), .second, .val (.long j3), .second, .val (.int i4), .val (.long (j0 &&& (9223372036854775807 : Int64))), .second, .val (.long (j1 &&& (9223372036854775807 : Int64))), .second, .unset, .unset, .unset, .unset, .unset, .unset, .unset, .unset, .unset] [(.long (j0 &&& (9223372036854775807 : Int64)))])
    refine own_step (fun _ => XS.goto X0.here hx rfl (pc0 := 23) (pc' := 32) rfl (hb hby at_23) (by decide) (by decide)) ?_
    show own_Ends p e below s _ _ _ T0 (mkF m 32 #[.val (.long j0), .second, .val (.long j1), .second, .val (.long j2), .second, .val (.long j3), .second, .val (.int i4), .val (.long (j0 &&& (9223372036854775807 : Int64))), .second, .val (.long (j1 &&& (9223372036854775807 : Int64))), .second, .unset, .unset, .unset, .unset, .unset, .unset, .unset, .unset, .unset] [(.long (j0 &&& (9223372036854775807 : Int64)))])
    exact b0_32 C Z0 X0 e0 N0 j0 j1 j2 j3 i4 (j0 &&& (9223372036854775807 : Int64)) (own_nn63 _) _ hv_f
theorem ef_rm0 (m : MethodId) (j0 : Int64) (j1 : Int64) (j2 : Int64) (j3 : Int64) (i4 : Int32) : entryFrame m #[(.long j0), (.long j1), (.long j2), (.long j3), (.int i4)] maxLocals = mkF m 0 #[.val (.long j0), .second, .val (.long j1), .second, .val (.long j2), .second, .val (.long j3), .second, .val (.int i4), .unset, .unset, .unset, .unset, .unset, .unset, .unset, .unset, .unset, .unset, .unset, .unset, .unset] [] := by first | (simp [entryFrame, mkF, argsToLocals, Value.category, maxLocals]; done) | rfl
set_option maxRecDepth 65536 in
set_option maxHeartbeats 40000000 in
theorem rm0 (l : Launch) (Z : State) (a0 : Array Value) (hw : ∀ d ∈ tables_1, d.before a0 Z = true) (ws : List Jvm.Cond) (j0 : Int64) (j1 : Int64) (j2 : Int64) (j3 : Int64) (i4 : Int32) (h0 : Heap) (n0 : Nat) (Z0 : n0 ≤ h0.size) :
    MetFree l x (head1 (Jvm.Cond.code x code maxLocals ret :: ws) room_1) (fun a U => a = #[(.long j0), (.long j1), (.long j2), (.long j3), (.int i4)] ∧ Z.Warmed39 U.vm ∧ U.heap = h0) (fun _ _ _ _ _ => True) (fun _ U o U' => ∃ v L, o = .returned v ∧ (own_QL n0 (some (.int (f0_0 j0 j1 j2 j3 i4)))) v U'.heap L ∧ FrameEnd U o U' L room_1.cells room_1.slots) := by
  refine MetFree.of_bodySF (plainFor_of_name pn_2) hisR ?_
  intro p e s m args below meth c s₁ Bd hml0 hP hK
  obtain ⟨rfl, hZ, hh⟩ := hP
  have X0 : Stand p l e room_1 s m #[(.long j0), (.long j1), (.long j2), (.long j3), (.int i4)] below meth c s₁ [] 0 0 := Stand.of_body Bd
  have e0 : s₁.heap = h0 := by rw [← hh, Bd.state]; rfl
  have C : own_C "com/example/rollforth/rollforth/log/LogInstantCompareToPinLaw" code maxLocals ret x.name p s m meth c Z a0 := ⟨Bd.exec, hZ, hw, Bd.bytes, hml0, findClass_of_methodNamed Bd.named, Bd.returns, Bd.notSynchronized, (name_of_methodNamed Bd.named Bd.method).1⟩
  have r := b0_0 C Z0 X0 e0 (Fr.nil n0) j0 j1 j2 j3 i4 _ rfl
  rw [ef_rm0 m j0 j1 j2 j3 i4]
  exact r
theorem own_core (a b c d : Int64) :
    (a < c → f6_0 (own_cmp a b c d) = -1 ∧ f6_0 (own_cmp c d a b) = 1) ∧ (¬ a < c → c < a → f6_0 (own_cmp a b c d) = 1 ∧ f6_0 (own_cmp c d a b) = -1) ∧
    (¬ a < c → ¬ c < a → b < d → f6_0 (own_cmp a b c d) = -1 ∧ f6_0 (own_cmp c d a b) = 1) ∧ (¬ a < c → ¬ c < a → ¬ b < d → d < b → f6_0 (own_cmp a b c d) = 1 ∧ f6_0 (own_cmp c d a b) = -1) ∧
    (¬ a < c → ¬ c < a → ¬ b < d → ¬ d < b → f6_0 (own_cmp a b c d) = 0 ∧ f6_0 (own_cmp c d a b) = 0) := by
  have asym : ∀ x y : Int64, x < y → ¬ y < x := fun x y h => by rw [Int64.lt_iff_toInt_lt] at *; omega
  have ne : ∀ x y : Int64, x < y → ¬ x = y := fun x y h q => by subst q; rw [Int64.lt_iff_toInt_lt] at h; omega
  have eq : ∀ x y : Int64, ¬ x < y → ¬ y < x → x = y := fun x y h q => by apply Int64.toInt_inj.mp; rw [Int64.lt_iff_toInt_lt] at *; omega
  have lt : ∀ x y : Int64, x < y → f5_0 x y = -1 ∧ f5_0 y x = 1 := fun x y h => by
    unfold f5_0
    exact ⟨if_pos h, by rw [if_neg (asym _ _ h), if_neg (fun q => ne _ _ h q.symm)]⟩
  have self : ∀ x : Int64, f5_0 x x = 0 := fun x => by
    unfold f5_0
    rw [if_neg (fun h => asym _ _ h h), if_pos rfl]
  unfold own_cmp
  refine ⟨fun h => ?_, fun _ h => ?_, fun h1 h2 h => ?_, fun h1 h2 _ h => ?_, fun h1 h2 h3 h4 => ?_⟩
  · rw [(lt _ _ h).1, (lt _ _ h).2]; exact ⟨rfl, rfl⟩
  · rw [(lt _ _ h).1, (lt _ _ h).2]; exact ⟨rfl, rfl⟩
  · obtain rfl := eq _ _ h1 h2; rw [self, (lt _ _ h).1, (lt _ _ h).2]; exact ⟨rfl, rfl⟩
  · obtain rfl := eq _ _ h1 h2; rw [self, (lt _ _ h).1, (lt _ _ h).2]; exact ⟨rfl, rfl⟩
  · obtain rfl := eq _ _ h1 h2; obtain rfl := eq _ _ h3 h4; rw [self, self]; exact ⟨rfl, rfl⟩
theorem own_law2 (j0 j1 j2 j3 : Int64) (i4 : Int32) (c d : Int64) : f0_52 j0 j1 j2 j3 i4 c d = 1 := by
  unfold f0_52
  generalize (j0 &&& (9223372036854775807 : Int64)) = a
  generalize (j1 &&& (9223372036854775807 : Int64)) = b
  obtain ⟨c1, c2, c3, c4, c5⟩ := own_core a b c d
  by_cases h1 : a < c
  · rw [if_pos h1, (c1 h1).1, (c1 h1).2]; rfl
  · rw [if_neg h1]
    by_cases h2 : c < a
    · rw [if_pos h2, (c2 h1 h2).1, (c2 h1 h2).2]; rfl
    · rw [if_neg h2]
      by_cases h3 : b < d
      · rw [if_pos h3, (c3 h1 h2 h3).1, (c3 h1 h2 h3).2]; rfl
      · rw [if_neg h3]
        by_cases h4 : d < b
        · rw [if_pos h4, (c4 h1 h2 h3 h4).1, (c4 h1 h2 h3 h4).2]; rfl
        · rw [if_neg h4, (c5 h1 h2 h3 h4).1, (c5 h1 h2 h3 h4).2]; rfl
theorem own_law (j0 j1 j2 j3 : Int64) (i4 : Int32) : f0_0 j0 j1 j2 j3 i4 = 1 := by
  unfold f0_0
  split <;> unfold f0_32 <;> split <;> exact own_law2 _ _ _ _ _ _ _

set_option maxRecDepth 65536 in
set_option maxHeartbeats 40000000 in
theorem comes_1 {Post : Tables → Env → Array Value → State → Outcome → State → Prop} (hpost : ∀ tb e args s v u, (limb_1_1.after args s (.returned v) u = true ∧ limb_1_2.after args s (.returned v) u = true ∧ True) → FrameEnd s (.returned v) u (Jvm.fieldLocs frame_1_writes args s ++ Jvm.arrayLocs frame_1_arrays args s ++ Jvm.staticLocs frame_1_statics s) 16 128 → Post tb e args s (.returned v) u) :
    ArmFor flags0 classFile x code maxLocals ret World_1 tables_1 room_1 Calls_1 rest_1 Pre_1 Post := by
  intro l hfl _ _ p e ha hc hk s m args below hf hA hF happ hP
  obtain ⟨hcalls, hrest, hpre⟩ := hP
  obtain ⟨-, -, -, hnamed, -, -, -, hat⟩ := (Spec.applies_iff hf).mp happ
  obtain ⟨hg, hn⟩ := and_e (Cond.before_iff.mp (show (Jvm.Cond.and given_1 narrow_1).before args s = true from hpre))
  obtain ⟨g1, g2⟩ := and_e hg
  obtain ⟨g3, g4⟩ := and_e g2
  obtain ⟨g5, g6⟩ := and_e g4
  obtain ⟨g7, g8⟩ := and_e g6
  obtain ⟨g9, g10⟩ := and_e g8
  obtain ⟨w0, w1, w2, w3, w4, rfl⟩ : ∃ w0 w1 w2 w3 w4 : Value, args = #[w0, w1, w2, w3, w4] := by
    have hs : args.size = 5 := by simpa [Cond.value, given_1] using g1
    obtain ⟨L⟩ := args
    match L, hs with
    | [w0, w1, w2, w3, w4], _ => exact ⟨w0, w1, w2, w3, w4, rfl⟩
  have hw := fun d (hd : d ∈ tables_1) => atoms_spec (ws := Jvm.Cond.code x code maxLocals ret :: tables_1) hat d (List.mem_cons_of_mem _ hd)
  have hfit : Fit s := fun {y c} hc i hi => by
    obtain ⟨ha, rfl⟩ := Array.getElem?_eq_some_iff.mp hc
    have q := List.all_eq_true.mp ((Array.all_eq_true_iff_forall_mem.mp hF) _ (Array.getElem_mem ha)) i (List.mem_range.mpr hi)
    simpa [Array.getElem?_eq_getElem hi] using q
  obtain ⟨i0, ei0⟩ := isL_v g3
  obtain rfl : w0 = (.long i0) := Option.some.inj ei0
  obtain ⟨i1, ei1⟩ := isL_v g5
  obtain rfl : w1 = (.long i1) := Option.some.inj ei1
  obtain ⟨i2, ei2⟩ := isL_v g7
  obtain rfl : w2 = (.long i2) := Option.some.inj ei2
  obtain ⟨i3, ei3⟩ := isL_v g9
  obtain rfl : w3 = (.long i3) := Option.some.inj ei3
  obtain ⟨i4, ei4⟩ := is_v g10
  obtain rfl : w4 = (.int i4) := Option.some.inj ei4
  obtain ⟨n, o, h1, h2, h3, _, L, rfl, ⟨rfl, N, -⟩, hq⟩ := rm0 l s _ hw tables_1 i0 i1 i2 i3 i4 s.heap s.heap.size (Nat.le_refl _) p e ha hc hk s m _ below hf ((Spec.applies_iff_loose hf).mp happ).1 ⟨rfl, State.Warmed39.refl s, rfl⟩ trivial
  refine ⟨n, _, h1, h2, h3, hpost _ _ _ _ _ _ ⟨Cond.after_iff.mpr rfl, Cond.after_iff.mpr (eq_i res_at (Term.int_eval (1)) (congrArg Value.int (own_law i0 i1 i2 i3 i4))), trivial⟩ ⟨hq.1, hq.2.1, (hq.2.2.sift fun y hy => Or.inr (N y hy)).mono (by decide) (by decide)⟩⟩
theorem main_1_1 : Claimed_1_1 := comes_1 fun _ _ _ _ _ _ h hF => ⟨h.1, hF⟩
theorem main_1_2 : Claimed_1_2 := comes_1 fun _ _ _ _ _ _ h hF => ⟨h.2.1, hF⟩
end Jvm.Pilot.@@N@@
namespace Jvm.Pilot.@@N@@
open Jvm Jvm.ClassFile Sem Op Lib Jvm.Free Jvm.Stand Jvm.Pilot.@@N@@.Jvm.D
/-! MADE BY PROGRAM (witnessworld.py) out of the Statement's table words and the real class files: 13 classes; the members and pool entries that the words name. The judged class is class 1, her method 2. -/
namespace start1
open Jvm.ClassFile
def u (s : String) : CpInfo := .utf8 (stringToUtf16 s)
/-- a pool by its gaps: so many unusable entries, then the entry; so many at the end -/
def gap : Nat → List CpInfo → List CpInfo
  | 0, r => r
  | n + 1, r => .unusable :: gap n r
def poolList (es : List (Nat × CpInfo)) (last : Nat) : List CpInfo := es.foldr (fun e r => gap e.1 (e.2 :: r)) (gap last [])
def pool (es : List (Nat × CpInfo)) (last : Nat) : Array CpInfo := ⟨poolList es last⟩
def fileOf (pool : Array CpInfo) (this : Nat) (attrs : Array Attribute := #[]) (ms : Array MethodInfo := #[]) (fl : Nat := 33) (sup : Nat := 0) (ifs : Array Nat := #[]) (fds : Array FieldInfo := #[]) : ClassFile where
  minorVersion := 0
  majorVersion := 65
  constantPool := pool
  accessFlags := fl
  thisClass := this
  superClass := sup
  interfaces := ifs
  fields := fds
  methods := ms
  attributes := attrs
def plain (name : String) (sup : Option ClassId) : Class where
  name := name
  kind := .ordinary
  loader := none
  accessFlags := 33
  super := sup
  interfaces := #[]
  cf := none
  fields := #[]
  methods := #[]
  instanceTypes := #[]
  staticTypes := #[]
  resolved := #[]
  callSites := []
  init := .initialized
  statics := none
  mirror := none

def pool0 : Array CpInfo := pool [(5, u "<init>"), (0, u "()V"), (1, .class_ 10), (1, u "java/lang/Object")] 113

def k0c0 : Code := { maxStack := 0, maxLocals := 1, code := object_method_1_code, exceptionTable := #[], attributes := #[] }
def k0m0 : Method := { name := "<init>", desc := "()V", sig := { parameters := [], returnType := none }, accessFlags := 1, code := some k0c0 }
/-- java/lang/Object -/
def k0 : Class := { plain "java/lang/Object" none with
  accessFlags := 33
  interfaces := #[]
  cf := some (fileOf pool0 8 #[] #[{ accessFlags := 1, nameIndex := 5, descriptorIndex := 6, attributes := #[] }] 33 0 #[] #[])
  fields := #[]
  methods := #[k0m0]
  instanceTypes := #[]
  staticTypes := #[]
  resolved := Array.replicate 124 none
  statics := none }

def pool1 : Array CpInfo := pool [(2, .class_ 4), (1, u "java/lang/Object"), (0, u "<init>"), (0, u "()V"), (2, .long 9223372036854775807), (1, .class_ 12), (0, u "com/example/rollforth/rollforth/log/LogInstant"), (0, .methodref 11 14), (0, .nameAndType 5 15), (0, u "(JJ)V"), (0, .methodref 11 17), (0, .nameAndType 18 19), (0, u "compareTo"), (0, u "(Lcom/example/rollforth/rollforth/log/LogInstant;)I"), (0, .methodref 21 22), (0, .class_ 23), (0, .nameAndType 24 25), (0, u "com/example/rollforth/rollforth/log/LogInstantCompareToPinLaw"), (0, u "sign"), (0, u "(I)I"), (3, u "law"), (0, u "(JJJJI)Z")] 2

def k1m0 : Method := { name := "<init>", desc := "()V", sig := { parameters := [], returnType := none }, accessFlags := 1, code := none }
def k1c1 : Code := { maxStack := 1, maxLocals := 1, code := method_2_code, exceptionTable := #[], attributes := #[] }
def k1m1 : Method := { name := "sign", desc := "(I)I", sig := { parameters := [.int], returnType := some .int }, accessFlags := 10, code := some k1c1 }
def k1c2 : Code := { maxStack := 6, maxLocals := 22, code := code, exceptionTable := #[], attributes := #[] }
def k1m2 : Method := { name := "law", desc := "(JJJJI)Z", sig := { parameters := [.long, .long, .long, .long, .int], returnType := some .boolean }, accessFlags := 9, code := some k1c2 }
/-- com/example/rollforth/rollforth/log/LogInstantCompareToPinLaw -/
def k1 : Class := { plain "com/example/rollforth/rollforth/log/LogInstantCompareToPinLaw" (some 0) with
  accessFlags := 49
  interfaces := #[]
  cf := some (fileOf pool1 21 #[] #[{ accessFlags := 1, nameIndex := 5, descriptorIndex := 6, attributes := #[] }, { accessFlags := 10, nameIndex := 24, descriptorIndex := 25, attributes := #[] }, { accessFlags := 9, nameIndex := 29, descriptorIndex := 30, attributes := #[] }] 49 2 #[] #[])
  fields := #[]
  methods := #[k1m0, k1m1, k1m2]
  instanceTypes := #[]
  staticTypes := #[]
  resolved := Array.replicate 33 none
  statics := none }

def pool2 : Array CpInfo := pool [(1, .methodref 2 3), (0, .class_ 4), (0, .nameAndType 5 6), (0, u "java/lang/Object"), (0, u "<init>"), (0, u "()V"), (0, .class_ 8), (0, u "java/lang/Record")] 13

def k2c0 : Code := { maxStack := 1, maxLocals := 1, code := jdk_30_method_1_code, exceptionTable := #[], attributes := #[] }
def k2m0 : Method := { name := "<init>", desc := "()V", sig := { parameters := [], returnType := none }, accessFlags := 4, code := some k2c0 }
/-- java/lang/Record -/
def k2 : Class := { plain "java/lang/Record" (some 0) with
  accessFlags := 1057
  interfaces := #[]
  cf := some (fileOf pool2 7 #[] #[{ accessFlags := 4, nameIndex := 5, descriptorIndex := 6, attributes := #[] }] 1057 2 #[] #[])
  fields := #[]
  methods := #[k2m0]
  instanceTypes := #[]
  staticTypes := #[]
  resolved := Array.replicate 22 none
  statics := none }

def pool3 : Array CpInfo := pool [(1, .class_ 2), (0, u "java/lang/Comparable"), (0, .class_ 4), (0, u "java/lang/Object")] 7

/-- java/lang/Comparable -/
def k3 : Class := { plain "java/lang/Comparable" (some 0) with
  accessFlags := 1537
  interfaces := #[]
  cf := some (fileOf pool3 1 #[] #[] 1537 3 #[] #[])
  fields := #[]
  methods := #[]
  instanceTypes := #[]
  staticTypes := #[]
  resolved := Array.replicate 12 none
  statics := none }

def pool4 : Array CpInfo := pool [(1, .methodref 2 3), (0, .class_ 4), (0, .nameAndType 5 6), (0, u "java/lang/Record"), (0, u "<init>"), (0, u "()V"), (9, .fieldref 17 18), (0, .class_ 19), (0, .nameAndType 20 21), (0, u "com/example/rollforth/rollforth/log/LogInstant"), (0, u "file"), (0, u "J"), (0, .fieldref 17 23), (0, .nameAndType 24 21), (0, u "offset"), (0, .methodref 26 27), (0, .class_ 28), (0, .nameAndType 29 30), (0, u "java/lang/Long"), (0, u "compare"), (0, u "(JJ)I"), (3, u "compareTo"), (0, u "(Lcom/example/rollforth/rollforth/log/LogInstant;)I"), (9, u "(JJ)V"), (2, u "NONE"), (0, u "Lcom/example/rollforth/rollforth/log/LogInstant;"), (0, .class_ 51), (0, u "java/lang/Comparable")] 44

def k4c0 : Code := { maxStack := 6, maxLocals := 5, code := prog_53_method_1_code, exceptionTable := #[], attributes := #[] }
def k4m0 : Method := { name := "<init>", desc := "(JJ)V", sig := { parameters := [.long, .long], returnType := none }, accessFlags := 1, code := some k4c0 }
def k4c1 : Code := { maxStack := 4, maxLocals := 3, code := prog_53_method_2_code, exceptionTable := #[], attributes := #[] }
def k4m1 : Method := { name := "compareTo", desc := "(Lcom/example/rollforth/rollforth/log/LogInstant;)I", sig := { parameters := [(.object "com/example/rollforth/rollforth/log/LogInstant")], returnType := some .int }, accessFlags := 1, code := some k4c1 }
/-- com/example/rollforth/rollforth/log/LogInstant -/
def k4 : Class := { plain "com/example/rollforth/rollforth/log/LogInstant" (some 2) with
  accessFlags := 49
  interfaces := #[3]
  cf := some (fileOf pool4 17 #[] #[{ accessFlags := 1, nameIndex := 5, descriptorIndex := 45, attributes := #[] }, { accessFlags := 1, nameIndex := 34, descriptorIndex := 35, attributes := #[] }] 49 2 #[50] #[{ accessFlags := 18, nameIndex := 20, descriptorIndex := 21, attributes := #[] }, { accessFlags := 18, nameIndex := 24, descriptorIndex := 21, attributes := #[] }, { accessFlags := 25, nameIndex := 48, descriptorIndex := 49, attributes := #[] }])
  fields := #[{ name := "file", type := .long, accessFlags := 18, slot := 0, constantValue := 0 }, { name := "offset", type := .long, accessFlags := 18, slot := 1, constantValue := 0 }, { name := "NONE", type := (.object "com/example/rollforth/rollforth/log/LogInstant"), accessFlags := 25, slot := 0, constantValue := 0 }]
  methods := #[k4m0, k4m1]
  instanceTypes := #[.long, .long]
  staticTypes := #[(.object "com/example/rollforth/rollforth/log/LogInstant")]
  resolved := Array.replicate 96 none
  statics := none }

def pool5 : Array CpInfo := pool [(1, .class_ 2), (0, u "java/io/Serializable"), (0, .class_ 4), (0, u "java/lang/Object")] 2

/-- java/io/Serializable -/
def k5 : Class := { plain "java/io/Serializable" (some 0) with
  accessFlags := 1537
  interfaces := #[]
  cf := some (fileOf pool5 1 #[] #[] 1537 3 #[] #[])
  fields := #[]
  methods := #[]
  instanceTypes := #[]
  staticTypes := #[]
  resolved := Array.replicate 7 none
  statics := none }

def pool6 : Array CpInfo := pool [(2, .class_ 4), (1, u "java/lang/Object"), (0, u "<init>"), (0, u "()V"), (1, .class_ 10), (1, u "java/lang/Number"), (2, .class_ 14), (0, u "java/io/Serializable"), (0, u "serialVersionUID"), (0, u "J")] 20

def k6m0 : Method := { name := "<init>", desc := "()V", sig := { parameters := [], returnType := none }, accessFlags := 1, code := none }
/-- java/lang/Number -/
def k6 : Class := { plain "java/lang/Number" (some 0) with
  accessFlags := 1057
  interfaces := #[5]
  cf := some (fileOf pool6 8 #[] #[{ accessFlags := 1, nameIndex := 5, descriptorIndex := 6, attributes := #[] }] 1057 2 #[13] #[{ accessFlags := 26, nameIndex := 15, descriptorIndex := 16, attributes := #[] }])
  fields := #[{ name := "serialVersionUID", type := .long, accessFlags := 26, slot := 0, constantValue := 0 }]
  methods := #[k6m0]
  instanceTypes := #[]
  staticTypes := #[.long]
  resolved := Array.replicate 37 none
  statics := none }

def pool7 : Array CpInfo := pool [(1, .class_ 2), (0, u "java/lang/constant/Constable"), (0, .class_ 4), (0, u "java/lang/Object")] 6

/-- java/lang/constant/Constable -/
def k7 : Class := { plain "java/lang/constant/Constable" (some 0) with
  accessFlags := 1537
  interfaces := #[]
  cf := some (fileOf pool7 1 #[] #[] 1537 3 #[] #[])
  fields := #[]
  methods := #[]
  instanceTypes := #[]
  staticTypes := #[]
  resolved := Array.replicate 11 none
  statics := none }

def pool8 : Array CpInfo := pool [(1, .class_ 2), (0, u "java/lang/constant/ConstantDesc"), (0, .class_ 4), (0, u "java/lang/Object")] 32

/-- java/lang/constant/ConstantDesc -/
def k8 : Class := { plain "java/lang/constant/ConstantDesc" (some 0) with
  accessFlags := 1537
  interfaces := #[]
  cf := some (fileOf pool8 1 #[] #[] 1537 3 #[] #[])
  fields := #[]
  methods := #[]
  instanceTypes := #[]
  staticTypes := #[]
  resolved := Array.replicate 37 none
  statics := none }

def pool9 : Array CpInfo := pool [(1, .class_ 2), (0, u "java/lang/Long"), (232, .class_ 237), (1, u "java/lang/Long$LongCache"), (33, .class_ 272), (0, u "java/lang/Number"), (2, u "value"), (0, u "J"), (27, u "compare"), (0, u "(JJ)I"), (55, u "TYPE"), (0, u "Ljava/lang/Class;"), (0, .class_ 364), (0, u "java/lang/Comparable"), (0, .class_ 366), (0, u "java/lang/constant/Constable"), (0, .class_ 368), (0, u "java/lang/constant/ConstantDesc"), (0, u "MIN_VALUE"), (1, u "MAX_VALUE"), (4, u "SIZE"), (0, u "I"), (1, u "BYTES"), (1, u "serialVersionUID")] 142

def k9c0 : Code := { maxStack := 4, maxLocals := 4, code := jdk_35_method_42_code, exceptionTable := #[], attributes := #[] }
def k9m0 : Method := { name := "compare", desc := "(JJ)I", sig := { parameters := [.long, .long], returnType := some .int }, accessFlags := 9, code := some k9c0 }
/-- java/lang/Long -/
def k9 : Class := { plain "java/lang/Long" (some 6) with
  accessFlags := 49
  interfaces := #[3, 7, 8]
  cf := some (fileOf pool9 1 #[.nestMembers #[235]] #[{ accessFlags := 9, nameIndex := 304, descriptorIndex := 305, attributes := #[] }] 49 271 #[363, 365, 367] #[{ accessFlags := 25, nameIndex := 369, descriptorIndex := 276, attributes := #[] }, { accessFlags := 25, nameIndex := 371, descriptorIndex := 276, attributes := #[] }, { accessFlags := 25, nameIndex := 361, descriptorIndex := 362, attributes := #[] }, { accessFlags := 18, nameIndex := 275, descriptorIndex := 276, attributes := #[] }, { accessFlags := 25, nameIndex := 376, descriptorIndex := 377, attributes := #[] }, { accessFlags := 25, nameIndex := 379, descriptorIndex := 377, attributes := #[] }, { accessFlags := 26, nameIndex := 381, descriptorIndex := 276, attributes := #[] }])
  fields := #[{ name := "MIN_VALUE", type := .long, accessFlags := 25, slot := 0, constantValue := 0 }, { name := "MAX_VALUE", type := .long, accessFlags := 25, slot := 1, constantValue := 0 }, { name := "TYPE", type := (.object "java/lang/Class"), accessFlags := 25, slot := 2, constantValue := 0 }, { name := "value", type := .long, accessFlags := 18, slot := 0, constantValue := 0 }, { name := "SIZE", type := .int, accessFlags := 25, slot := 3, constantValue := 0 }, { name := "BYTES", type := .int, accessFlags := 25, slot := 4, constantValue := 0 }, { name := "serialVersionUID", type := .long, accessFlags := 26, slot := 5, constantValue := 0 }]
  methods := #[k9m0]
  instanceTypes := #[.long]
  staticTypes := #[.long, .long, (.object "java/lang/Class"), .int, .int, .long]
  resolved := Array.replicate 524 none
  statics := none }

def pool10 : Array CpInfo := pool [(1, u "java/lang/Cloneable"), (0, .class_ 1), (0, u "java/lang/Object"), (0, .class_ 3)] 3

/-- java/lang/Cloneable -/
def k10 : Class := { plain "java/lang/Cloneable" (some 0) with
  accessFlags := 1537
  interfaces := #[]
  cf := some (fileOf pool10 2 #[] #[] 1537 4 #[] #[])
  fields := #[]
  methods := #[]
  instanceTypes := #[]
  staticTypes := #[]
  resolved := Array.replicate 8 none
  statics := none }

/-- the primitive byte -/
def k11 : Class := { plain "byte" none with kind := .primitive 'B', accessFlags := 0x411 }
/-- [B -/
def k12 : Class := { plain "[B" (some 0) with kind := .array 11 .byte, interfaces := #[10, 5], accessFlags := 1041 }

def heap : Heap := #[]
def classes : Array Class := #[k0, k1, k2, k3, k4, k5, k6, k7, k8, k9, k10, k11, k12]
def interned : List (Array UInt16 × Addr) := []
def slotsUsed : Nat := 0
def theMethod : MethodId := ⟨1, 2⟩
def args0 : Array Value := #[.long 5, .long 3, .long 7, .long 1, .int 0]
def aboutOver (below : List Frame) : State where
  vm := { classes := classes, interned := interned.toArray }
  heap := heap
  slotsUsed := slotsUsed
  threads := #[{ frames := .invoking theMethod args0 :: below }]
def below0 : List Frame := [.native { method := ⟨0, 0⟩, args := #[] }]
def about1 : State := aboutOver below0
def p0 : Program := .bare "" "" ""
def e0 : Env := launch0.env 0 0 0
theorem w_frames : about1.frames = Frame.invoking theMethod args0 :: below0 := rfl
set_option maxRecDepth 65536 in
theorem w_args : argsFit about1.vm theMethod args0 = true := by decide +kernel
set_option maxRecDepth 65536 in
theorem w_heap : heapFits about1 = true := by decide +kernel
set_option maxRecDepth 65536 in
theorem w_runnable : about1.curStatus? = some .runnable := by decide +kernel
set_option maxRecDepth 65536 in
theorem w_alone : about1.alone = true := by decide +kernel
set_option maxRecDepth 65536 in
theorem w_named : about1.methodNamed? x = some theMethod := by decide +kernel
set_option maxRecDepth 65536 in
theorem w_hears : about1.hears theMethod below0 = true := by decide +kernel
set_option maxRecDepth 65536 in
theorem w_ripe : about1.ripe theMethod args0 below0 = true := by decide +kernel
theorem w_running : about1.status = .running := rfl
set_option maxRecDepth 65536 in
theorem w_room : about1.hasRoom e0.platform room_1 = true :=
  launch0.hasRoom_least _ room_1 (by decide +kernel) (by decide +kernel) (by decide +kernel) (by decide +kernel) (by decide +kernel) (by decide +kernel)
theorem allAtoms_all (ts : List Jvm.Cond) (a : Array Jvm.Value) (st : Jvm.State) : (allAtoms ts).before a st = ts.all (fun c => c.before a st) := by
  induction ts with
  | nil => rfl
  | cons c t ih =>
    show (Jvm.Cond.and c (allAtoms t)).before a st = _
    rw [Jvm.Cond.before_and, ih, List.all_cons]
def words1 : List Jvm.Cond := Jvm.Cond.code x code maxLocals ret :: tables_1
/-- a 'code' word, met by the world's own term for the bytes: nothing is compared byte by byte -/
theorem code_word {y : MethodName} {bytes : ByteArray} {mx : Nat} {rt : Option FieldType} {a : Array Value} {s : State} {m : MethodId} {meth : Method} {c : Code} (h1 : s.methodNamed? y = some m) (h2 : s.vm.method? m = some meth) (h3 : meth.code = some c) (h4 : c.code = bytes)
    (h5 : (c.maxLocals == mx && c.exceptionTable.isEmpty && decide (c.maxStack ≤ mostOperands) && decide (meth.sig.returnType = rt) && !meth.locks && decide (parseMethodDescriptor y.desc = some meth.sig)) = true) : (Jvm.Cond.code y bytes mx rt).before a s = true := by
  simp only [Bool.and_eq_true, beq_iff_eq, Bool.not_eq_true', decide_eq_true_eq] at h5
  obtain ⟨⟨⟨⟨⟨g1, g2⟩, g3⟩, g4⟩, g5⟩, g6⟩ := h5
  simp [Cond.before, Cond.holds, Cond.value, h1, h2, h3, h4, g1, g2, g3, g4, g5, g6]
def isCode : Jvm.Cond → Bool
  | .code _ _ _ _ => true
  | _ => false
theorem all_split {L : List Jvm.Cond} {P : Jvm.Cond → Bool} (h1 : L.all (fun c => isCode c || P c) = true) (h2 : ∀ c ∈ L.filter isCode, P c = true) : L.all P = true := by
  refine List.all_eq_true.mpr fun c hc => ?_
  have h := List.all_eq_true.mp h1 c hc
  rcases Bool.eq_false_or_eq_true (isCode c) with hi | hi
  · exact h2 c (List.mem_filter.mpr ⟨hc, hi⟩)
  · simpa [hi] using h
set_option maxRecDepth 65536 in
theorem w_c0 : (Jvm.Cond.code x code maxLocals ret).before args0 about1 = true := code_word (m := ⟨1, 2⟩) (meth := k1m2) (c := k1c2) (by decide +kernel) rfl rfl rfl (by decide +kernel)
set_option maxRecDepth 65536 in
theorem w_c1 : (Jvm.Cond.code ({ cls := "com/example/rollforth/rollforth/log/LogInstant", name := "<init>", desc := "(JJ)V" } : Jvm.MethodName) prog_53_method_1_code (5 : Nat) (Option.none : Option Jvm.ClassFile.FieldType)).before args0 about1 = true := code_word (m := ⟨4, 0⟩) (meth := k4m0) (c := k4c0) (by decide +kernel) rfl rfl rfl (by decide +kernel)
set_option maxRecDepth 65536 in
theorem w_c2 : (Jvm.Cond.code ({ cls := "java/lang/Record", name := "<init>", desc := "()V" } : Jvm.MethodName) jdk_30_method_1_code (1 : Nat) (Option.none : Option Jvm.ClassFile.FieldType)).before args0 about1 = true := code_word (m := ⟨2, 0⟩) (meth := k2m0) (c := k2c0) (by decide +kernel) rfl rfl rfl (by decide +kernel)
set_option maxRecDepth 65536 in
theorem w_c3 : (Jvm.Cond.code ({ cls := "java/lang/Object", name := "<init>", desc := "()V" } : Jvm.MethodName) object_method_1_code (1 : Nat) (Option.none : Option Jvm.ClassFile.FieldType)).before args0 about1 = true := code_word (m := ⟨0, 0⟩) (meth := k0m0) (c := k0c0) (by decide +kernel) rfl rfl rfl (by decide +kernel)
set_option maxRecDepth 65536 in
theorem w_c4 : (Jvm.Cond.code ({ cls := "com/example/rollforth/rollforth/log/LogInstant", name := "compareTo", desc := "(Lcom/example/rollforth/rollforth/log/LogInstant;)I" } : Jvm.MethodName) prog_53_method_2_code (3 : Nat) (Option.some Jvm.ClassFile.FieldType.int)).before args0 about1 = true := code_word (m := ⟨4, 1⟩) (meth := k4m1) (c := k4c1) (by decide +kernel) rfl rfl rfl (by decide +kernel)
set_option maxRecDepth 65536 in
theorem w_c5 : (Jvm.Cond.code ({ cls := "java/lang/Long", name := "compare", desc := "(JJ)I" } : Jvm.MethodName) jdk_35_method_42_code (4 : Nat) (Option.some Jvm.ClassFile.FieldType.int)).before args0 about1 = true := code_word (m := ⟨9, 0⟩) (meth := k9m0) (c := k9c0) (by decide +kernel) rfl rfl rfl (by decide +kernel)
set_option maxRecDepth 65536 in
theorem w_c6 : (Jvm.Cond.code ({ cls := "com/example/rollforth/rollforth/log/LogInstantCompareToPinLaw", name := "sign", desc := "(I)I" } : Jvm.MethodName) method_2_code (1 : Nat) (Option.some Jvm.ClassFile.FieldType.int)).before args0 about1 = true := code_word (m := ⟨1, 1⟩) (meth := k1m1) (c := k1c1) (by decide +kernel) rfl rfl rfl (by decide +kernel)
def codes1 : List Jvm.Cond := [Jvm.Cond.code x code maxLocals ret, Jvm.Cond.code ({ cls := "com/example/rollforth/rollforth/log/LogInstant", name := "<init>", desc := "(JJ)V" } : Jvm.MethodName) prog_53_method_1_code (5 : Nat) (Option.none : Option Jvm.ClassFile.FieldType), Jvm.Cond.code ({ cls := "java/lang/Record", name := "<init>", desc := "()V" } : Jvm.MethodName) jdk_30_method_1_code (1 : Nat) (Option.none : Option Jvm.ClassFile.FieldType), Jvm.Cond.code ({ cls := "java/lang/Object", name := "<init>", desc := "()V" } : Jvm.MethodName) object_method_1_code (1 : Nat) (Option.none : Option Jvm.ClassFile.FieldType), Jvm.Cond.code ({ cls := "com/example/rollforth/rollforth/log/LogInstant", name := "compareTo", desc := "(Lcom/example/rollforth/rollforth/log/LogInstant;)I" } : Jvm.MethodName) prog_53_method_2_code (3 : Nat) (Option.some Jvm.ClassFile.FieldType.int), Jvm.Cond.code ({ cls := "java/lang/Long", name := "compare", desc := "(JJ)I" } : Jvm.MethodName) jdk_35_method_42_code (4 : Nat) (Option.some Jvm.ClassFile.FieldType.int), Jvm.Cond.code ({ cls := "com/example/rollforth/rollforth/log/LogInstantCompareToPinLaw", name := "sign", desc := "(I)I" } : Jvm.MethodName) method_2_code (1 : Nat) (Option.some Jvm.ClassFile.FieldType.int)]
set_option maxRecDepth 65536 in
theorem codes_eq : words1.filter isCode = codes1 := rfl
theorem w_codes : ∀ c ∈ words1.filter isCode, c.before args0 about1 = true := by
  rw [codes_eq]
  intro c hc
  simp only [codes1, List.mem_cons, List.not_mem_nil, or_false] at hc
  rcases hc with rfl | rfl | rfl | rfl | rfl | rfl | rfl
  · exact w_c0
  · exact w_c1
  · exact w_c2
  · exact w_c3
  · exact w_c4
  · exact w_c5
  · exact w_c6
set_option maxRecDepth 65536 in
theorem w_t1 : (words1.take 24).all (fun c => isCode c || c.before args0 about1) = true := by decide +kernel
set_option maxRecDepth 65536 in
theorem w_t2 : (words1.drop 24).all (fun c => isCode c || c.before args0 about1) = true := by decide +kernel
theorem w_tables : (allAtoms (Jvm.Cond.code x code maxLocals ret :: tables_1)).before args0 about1 = true := by
  rw [allAtoms_all]
  show words1.all (fun c => c.before args0 about1) = true
  refine all_split ?_ w_codes
  rw [← List.take_append_drop 24 words1, List.all_append, w_t1, w_t2]
  rfl
set_option maxRecDepth 65536 in
theorem w_case : (Jvm.Cond.and given_1 narrow_1).before args0 about1 = true := by decide +kernel
theorem w_applies : (headSpec (Jvm.Cond.code x code maxLocals ret :: tables_1) room_1).applies x e0.platform about1 = true :=
  (Spec.applies_iff w_frames).mpr ⟨w_running, w_runnable, w_alone, w_named, w_hears, w_ripe, w_room, w_tables⟩
theorem atStart : AtStart classFile x code maxLocals ret World_1 tables_1 room_1 Calls_1 rest_1 Pre_1 launch0 p0 e0 about1 theMethod args0 below0 :=
  ⟨lists_1, trivial, launch0.admits_env _ _ _, launch0.least_env, fairChoices_fair.cas, fairChoices_fair.clock, w_frames, w_args, w_heap, w_applies, trivial, trivial, w_case⟩
end start1
theorem witness_1 : WitnessClaimed_1 := ⟨start1.p0, start1.e0, start1.about1, start1.theMethod, start1.args0, start1.below0, start1.atStart⟩
end Jvm.Pilot.@@N@@
