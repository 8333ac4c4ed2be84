import JvmDerived
import JvmDerived.Pilot.@@N@@Statement
import JvmDerived.Pilot.@@N@@Code
set_option linter.unusedVariables false
set_option linter.unusedSimpArgs false
namespace Jvm.Pilot.@@N@@
open Jvm Jvm.ClassFile Sem Op Lib Jvm.Free Jvm.Stand Jvm.LawKit Jvm.RoadKit Bundle Jvm.Pilot.@@N@@.Jvm.D
/-! own words: where a body stands (own_C), how it ends (own_Ends), one step ahead of that (own_step), the returns -/
def own_C (cls : String) (code : ByteArray) (ml : Nat) (rt : Option FieldType) (nm : String) (p : Program) (s : State) (m : MethodId) (meth : Method) (c : Code) (Z : State) (a0 : Array Value) : Prop :=
  p.tables.exec = Jvm.exec ∧ Z.Warmed39 s.vm ∧ (∀ d ∈ tables_1, d.before a0 Z = true) ∧ c.code = code ∧ c.maxLocals = ml ∧ s.vm.findClass cls = some m.cls ∧ meth.sig.returnType = rt ∧ meth.locks = false ∧ meth.name = nm
def own_Q (n0 : Nat) (h0 : Heap) (w : Option Value) (v : Option Value) (h : Heap) (L : List Loc) : Prop := v = w ∧ Fr n0 L ∧ h = h0
def own_QL (n0 : Nat) (w : Option Value) (v : Option Value) (h : Heap) (L : List Loc) : Prop := v = w ∧ Fr n0 L ∧ True
def own_QR (n0 : Nat) (h0 : Heap) (v : Option Value) (h : Heap) (L : List Loc) : Prop := ∃ b : Addr, v = some (.ref b) ∧ Fr n0 L ∧ Keep h0 h []
def own_Ends (p : Program) (e : Env) (below : List Frame) (s : State) (kc ks : Nat) (Q : Option Value → Heap → List Loc → Prop) (T : State) (g : JFrame) : Prop :=
  ∃ s₂ o, Steps p.tables e below (T.setTop g) s₂ ∧ s₂.status = .running ∧ Ended s₂ below o ∧ ∃ v L, o = .returned v ∧ Q v s₂.heap L ∧ FrameEnd s o s₂ L kc ks
theorem own_step {p : Program} {e : Env} {below : List Frame} {s : State} {kc ks : Nat} {Q : Option Value → Heap → List Loc → Prop} {T T' : State} {g g' : JFrame}
    (st : ∀ target, Steps p.tables e below (T'.setTop g') target → Steps p.tables e below (T.setTop g) target) (h : own_Ends p e below s kc ks Q T' g') : own_Ends p e below s kc ks Q T g := by
  obtain ⟨s₂, o, h1, r⟩ := h
  exact ⟨s₂, o, st _ h1, r⟩
theorem own_mono {p : Program} {e : Env} {below : List Frame} {s : State} {kc ks : Nat} {Q Q' : Option Value → Heap → List Loc → Prop} {T : State} {g : JFrame} (h : own_Ends p e below s kc ks Q T g) (hq : ∀ v h L, Q v h L → Q' v h L) : own_Ends p e below s kc ks Q' T g := by
  obtain ⟨s₂, o, h1, h2, h3, v, L, h4, h5, h6⟩ := h
  exact ⟨s₂, o, h1, h2, h3, v, L, h4, hq _ _ _ h5, h6⟩
theorem own_nn {v : Value} (h : v.isRef = true) (q : ¬ v = .null) : ∃ y, v = .ref y := (ref_cases h).resolve_left q
theorem own_eqR {Z : State} {args : Array Value} {X F : Term} {idx : List Nat} {y : Addr} (hF : F.eval args Z none idx Z = some (.ref y)) (h : (Cond.eq X F).value args Z none Z idx = some true) : X.eval args Z none idx Z = some (.ref y) := by
  obtain ⟨x, y', e1, e2, k1, k2⟩ := cmp_v (Or.inl h)
  cases hF.symm.trans e2
  have hx : x.isRef = true := k2.2
  have := gotT (eq_R e1 hF hx rfl) h
  exact e1.trans (congrArg some this)
section OwnRet
variable {p : Program} {l : Launch} {e : Env} {R : Room} {s : State} {m : MethodId} {args : Array Value} {below : List Frame} {meth : Method} {c : Code} {T : State} {locs : List Loc} {cells slots : Nat} {kc ks : Nat} {Q : Option Value → Heap → List Loc → Prop}
theorem own_retO (X : Stand p l e R s m args below meth c T locs cells slots) (hx : p.tables.exec = Jvm.exec) {t : FieldType} (hret : meth.sig.returnType = some t) (hlk : meth.locks = false) {pc : Nat} {Ls : Array Slot} {w : Value} {i : Instr} {rest : List Value} (hn : narrow t w = w)
    (hi : (i = .ireturn ∧ (t = .int ∨ t = .boolean ∨ t = .byte ∨ t = .char ∨ t = .short) ∧ ∃ z, w = .int z) ∨ (i = .lreturn ∧ t = .long ∧ ∃ z, w = .long z) ∨ (i = .dreturn ∧ t = .double ∧ ∃ z, w = .double z) ∨ (i = .freturn ∧ t = .float ∧ ∃ z, w = .float z) ∨ (i = .areturn ∧ t.isReference = true ∧ w.isRef = true))
    (hd : decode c.code pc = .ok (i, 1)) (hc : cells ≤ kc) (hs : slots ≤ ks) (hQ : Q (some w) T.heap locs) : own_Ends p e below s kc ks Q T (mkF m pc Ls (w :: rest)) := by
  obtain ⟨fs, hr, hrun, hended, hW, hsame⟩ := X.leave (v := some w) (fun h => by rw [hret] at h; cases h) hlk
  exact ⟨_, _, retOut X hx hret hn hi hd hr, hrun, hended, _, _, rfl, hQ, ⟨_, rfl⟩, hW, hsame.mono hc hs⟩
theorem own_retI (X : Stand p l e R s m args below meth c T locs cells slots) (hx : p.tables.exec = Jvm.exec) (hret : meth.sig.returnType = some .int) (hlk : meth.locks = false) {pc : Nat} {Ls : Array Slot} {z : Int32} {rest : List Value}
    (hd : decode c.code pc = .ok (.ireturn, 1)) (hc : cells ≤ kc) (hs : slots ≤ ks) (hQ : Q (some (.int z)) T.heap locs) : own_Ends p e below s kc ks Q T (mkF m pc Ls (.int z :: rest)) :=
  own_retO X hx hret hlk rfl (Or.inl ⟨rfl, Or.inl rfl, z, rfl⟩) hd hc hs hQ
theorem own_retJ (X : Stand p l e R s m args below meth c T locs cells slots) (hx : p.tables.exec = Jvm.exec) (hret : meth.sig.returnType = some .long) (hlk : meth.locks = false) {pc : Nat} {Ls : Array Slot} {z : Int64} {rest : List Value}
    (hd : decode c.code pc = .ok (.lreturn, 1)) (hc : cells ≤ kc) (hs : slots ≤ ks) (hQ : Q (some (.long z)) T.heap locs) : own_Ends p e below s kc ks Q T (mkF m pc Ls (.long z :: rest)) :=
  own_retO X hx hret hlk rfl (Or.inr (Or.inl ⟨rfl, rfl, z, rfl⟩)) hd hc hs hQ
theorem own_retR (X : Stand p l e R s m args below meth c T locs cells slots) (hx : p.tables.exec = Jvm.exec) {t : FieldType} (hret : meth.sig.returnType = some t) (hlk : meth.locks = false) {pc : Nat} {Ls : Array Slot} {w : Value} {rest : List Value}
    (hd : decode c.code pc = .ok (.areturn, 1)) (hc : cells ≤ kc) (hs : slots ≤ ks) (ht : t.isReference = true) (hw : w.isRef = true) (hQ : Q (some w) T.heap locs) : own_Ends p e below s kc ks Q T (mkF m pc Ls (w :: rest)) :=
  own_retO X hx hret hlk (by cases t <;> first | rfl | cases ht) (Or.inr (Or.inr (Or.inr (Or.inr ⟨rfl, ht, hw⟩)))) hd hc hs hQ
theorem own_retN (X : Stand p l e R s m args below meth c T locs cells slots) {t : FieldType} (hx : p.tables.exec = Jvm.exec) (hret : meth.sig.returnType = some t) (hlk : meth.locks = false) {pc : Nat} {Ls : Array Slot} {z : Int32} {rest : List Value}
    (hd : decode c.code pc = .ok (.ireturn, 1)) (hc : cells ≤ kc) (hs : slots ≤ ks) (ht : t = .boolean ∨ t = .byte ∨ t = .char ∨ t = .short) (hQ : Q (some (.int (nar t z))) T.heap locs) : own_Ends p e below s kc ks Q T (mkF m pc Ls (.int z :: rest)) := by
  obtain ⟨fs, hr, hrun, hended, hW, hsame⟩ := X.leave (v := some (.int (nar t z))) (fun h => by rw [hret] at h; cases h) hlk
  exact ⟨_, _, retN X hx hret ht hd hr, hrun, hended, _, _, rfl, hQ, ⟨_, rfl⟩, hW, hsame.mono hc hs⟩
theorem own_retV (X : Stand p l e R s m args below meth c T locs cells slots) (hx : p.tables.exec = Jvm.exec) (hret : meth.sig.returnType = none) (hlk : meth.locks = false) {pc : Nat} {Ls : Array Slot}
    (hd : decode c.code pc = .ok (.return_, 1)) (hc : cells ≤ kc) (hs : slots ≤ ks) (hQ : Q none T.heap locs) : own_Ends p e below s kc ks Q T (mkF m pc Ls []) := by
  obtain ⟨fs, hr, hrun, hended, hW, hsame⟩ := X.leave (v := none) (fun _ => rfl) hlk
  exact ⟨_, _, X.returnOut hx hret hd hr, hrun, hended, _, _, rfl, hQ, ⟨_, rfl⟩, hW, hsame.mono hc hs⟩
end OwnRet
/-! the same for a body that may load String constants (the wide frame) -/
def own_EndsW (p : Program) (e : Env) (below : List Frame) (s : State) (kc ks : Nat) (Q : Option Value → Heap → List Loc → Prop) (T : State) (g : JFrame) : Prop :=
  ∃ s₂ o, Steps p.tables e below (T.setTop g) s₂ ∧ s₂.status = .running ∧ Ended s₂ below o ∧ ∃ v L, o = .returned v ∧ Q v s₂.heap L ∧ ReturnedEndW s o s₂ L kc ks
theorem own_stepW {p : Program} {e : Env} {below : List Frame} {s : State} {kc ks : Nat} {Q : Option Value → Heap → List Loc → Prop} {T T' : State} {g g' : JFrame}
    (st : ∀ target, Steps p.tables e below (T'.setTop g') target → Steps p.tables e below (T.setTop g) target) (h : own_EndsW p e below s kc ks Q T' g') : own_EndsW p e below s kc ks Q T g := by
  obtain ⟨s₂, o, h1, r⟩ := h
  exact ⟨s₂, o, st _ h1, r⟩
section OwnRetW
variable {p : Program} {l : Launch} {e : Env} {R : Room} {s : State} {vm0 : Vm} {k0 : Nat} {m : MethodId} {args : Array Value} {below : List Frame} {meth : Method} {c : Code} {T : State} {locs : List Loc} {cells slots : Nat} {kc ks : Nat} {Q : Option Value → Heap → List Loc → Prop}
theorem own_retOW (X : Stand p l e R (s.setVm vm0) m args below meth c T locs cells slots) (hS : s.Since vm0 k0) (hk : k0 ≤ T.heap.size) (hx : p.tables.exec = Jvm.exec) {t : FieldType} (hret : meth.sig.returnType = some t) (hlk : meth.locks = false) {pc : Nat} {Ls : Array Slot} {w : Value} {i : Instr} {rest : List Value} (hn : narrow t w = w)
    (hi : (i = .ireturn ∧ (t = .int ∨ t = .boolean ∨ t = .byte ∨ t = .char ∨ t = .short) ∧ ∃ z, w = .int z) ∨ (i = .lreturn ∧ t = .long ∧ ∃ z, w = .long z) ∨ (i = .dreturn ∧ t = .double ∧ ∃ z, w = .double z) ∨ (i = .freturn ∧ t = .float ∧ ∃ z, w = .float z) ∨ (i = .areturn ∧ t.isReference = true ∧ w.isRef = true))
    (hd : decode c.code pc = .ok (i, 1)) (hc : cells ≤ kc) (hs : slots ≤ ks) (hQ : Q (some w) T.heap locs) : own_EndsW p e below s kc ks Q T (mkF m pc Ls (w :: rest)) := by
  obtain ⟨fs, hr, hrun, hended, e1, e2, e3, e4⟩ := X.leaveW hS hk (v := some w) (fun h => by rw [hret] at h; cases h) hlk
  exact ⟨_, _, retOut X hx hret hn hi hd hr, hrun, hended, _, _, rfl, hQ, e1, e2, e3, e4.mono hc hs⟩
theorem own_retRW (X : Stand p l e R (s.setVm vm0) m args below meth c T locs cells slots) (hS : s.Since vm0 k0) (hk : k0 ≤ T.heap.size) (hx : p.tables.exec = Jvm.exec) {t : FieldType} (hret : meth.sig.returnType = some t) (hlk : meth.locks = false) {pc : Nat} {Ls : Array Slot} {w : Value} {rest : List Value}
    (hd : decode c.code pc = .ok (.areturn, 1)) (hc : cells ≤ kc) (hs : slots ≤ ks) (ht : t.isReference = true) (hw : w.isRef = true) (hQ : Q (some w) T.heap locs) : own_EndsW p e below s kc ks Q T (mkF m pc Ls (w :: rest)) :=
  own_retOW X hS hk hx hret hlk (by cases t <;> first | rfl | cases ht) (Or.inr (Or.inr (Or.inr (Or.inr ⟨rfl, ht, hw⟩)))) hd hc hs hQ
theorem own_retNW (X : Stand p l e R (s.setVm vm0) m args below meth c T locs cells slots) (hS : s.Since vm0 k0) (hk : k0 ≤ T.heap.size) {t : FieldType} (hx : p.tables.exec = Jvm.exec) (hret : meth.sig.returnType = some t) (hlk : meth.locks = false) {pc : Nat} {Ls : Array Slot} {z : Int32} {rest : List Value}
    (hd : decode c.code pc = .ok (.ireturn, 1)) (hc : cells ≤ kc) (hs : slots ≤ ks) (ht : t = .boolean ∨ t = .byte ∨ t = .char ∨ t = .short) (hQ : Q (some (.int (nar t z))) T.heap locs) : own_EndsW p e below s kc ks Q T (mkF m pc Ls (.int z :: rest)) := by
  obtain ⟨fs, hr, hrun, hended, e1, e2, e3, e4⟩ := X.leaveW hS hk (v := some (.int (nar t z))) (fun h => by rw [hret] at h; cases h) hlk
  exact ⟨_, _, retN X hx hret ht hd hr, hrun, hended, _, _, rfl, hQ, e1, e2, e3, e4.mono hc hs⟩
end OwnRetW

theorem pn_0 : plainName "com/example/graded_queue/gradedqueue/sim/Host" = true := by first | (simp [plainName, overriddenIn]; done) | decide +kernel
theorem pd_0 : parseMethodDescriptor "()Lcom/example/graded_queue/gradedqueue/sim/Host;" = some ⟨[], some (.object "com/example/graded_queue/gradedqueue/sim/Host")⟩ := by decide +kernel
theorem pn_1 : plainName "com/example/graded_queue/gradedqueue/sim/HostOtherPinLaw" = true := by first | (simp [plainName, overriddenIn]; done) | decide +kernel
theorem d1_0 : decode prog_61_method_4_code 0 = .ok (.aload_n 0, 1) := by decide +kernel
theorem d1_1 : decode prog_61_method_4_code 1 = .ok (.getstatic 3, 3) := by decide +kernel
theorem d1_4 : decode prog_61_method_4_code 4 = .ok (.if_acmp .ne 9, 3) := by decide +kernel
theorem d1_7 : decode prog_61_method_4_code 7 = .ok (.getstatic 7, 3) := by decide +kernel
theorem d1_10 : decode prog_61_method_4_code 10 = .ok (.goto 6, 3) := by decide +kernel
theorem d1_16 : decode prog_61_method_4_code 16 = .ok (.areturn, 1) := by decide +kernel
def f1A_0 (wA : Addr) (wB : Addr) : Addr := wB
set_option maxRecDepth 65536 in
set_option maxHeartbeats 40000000 in
theorem b1A_0 {p : Program} {l : Launch} {e : Env} {s : State} {m : MethodId} {args : Array Value} {below : List Frame} {meth : Method} {c : Code} {Z : State} {a0 : Array Value} {h0 : Heap} {n0 : Nat} (C : own_C "com/example/graded_queue/gradedqueue/sim/Host" prog_61_method_4_code 1 (some (.object "com/example/graded_queue/gradedqueue/sim/Host")) "other" p s m meth c Z a0) (Z0 : n0 ≤ h0.size) {T0 : State} {locs : List Loc} (X0 : Stand p l e ({ frames := 0, cells := 0, slots := 0, locals := 0 } : Room) s m args below meth c T0 locs 0 0) (e0 : T0.heap = h0) (N0 : Fr n0 locs) (wA : Addr) (wB : Addr) (SA : Sta Z h0 "com/example/graded_queue/gradedqueue/sim/Host" "A" "Lcom/example/graded_queue/gradedqueue/sim/Host;" (.ref wA)) (SB : Sta Z h0 "com/example/graded_queue/gradedqueue/sim/Host" "B" "Lcom/example/graded_queue/gradedqueue/sim/Host;" (.ref wB)) (hne : wA ≠ wB) (W : Addr) (hv : W = f1A_0 wA wB) :
    own_Ends p e below s ({ frames := 0, cells := 0, slots := 0, locals := 0 } : Room).cells ({ frames := 0, cells := 0, slots := 0, locals := 0 } : Room).slots (own_Q n0 h0 (some (.ref W))) T0 (mkF m 0 #[.val (.ref wA)] []) := by
  obtain ⟨hx, hZ, hw, hby, hml, hown, hret, hlk, hnm⟩ := C
  have C : own_C "com/example/graded_queue/gradedqueue/sim/Host" prog_61_method_4_code 1 (some (.object "com/example/graded_queue/gradedqueue/sim/Host")) "other" p s m meth c Z a0 := ⟨hx, hZ, hw, hby, hml, hown, hret, hlk, hnm⟩
  unfold f1A_0 at hv
  refine own_step (fun _ => XS.aloadN X0.here hx rfl (hb hby d1_0) rfl rfl) ?_
  show own_Ends p e below s _ _ _ T0 (mkF m 1 #[.val (.ref wA)] [(.ref wA)])
  obtain ⟨T3, X3, e3, st3⟩ := getS2 X0 hx hZ hown (host := "") (Or.inl (hw _ (List.mem_of_getElem? (i := 8) rfl))) Via.refl e0 SA (g := (mkF m 1 #[.val (.ref wA)] [(.ref wA)])) rfl (hb hby d1_1)
  refine own_step st3 ?_
  show own_Ends p e below s _ _ _ T3 (mkF m 4 #[.val (.ref wA)] [(.ref wA), (.ref wA)])
  refine own_step (fun _ => Jvm.RoadKit.acmp (g := (mkF m 4 #[.val (.ref wA)] [(.ref wA), (.ref wA)])) X3 hx rfl rfl rfl (pc0 := 4) (pc' := 7) (same := true) rfl (hb hby d1_4) rfl (decide_eq_true rfl) (by decide) (by decide)) ?_
  show own_Ends p e below s _ _ _ T3 (mkF m 7 #[.val (.ref wA)] [])
  obtain ⟨T4, X4, e4, st4⟩ := getS2 X3 hx hZ hown (host := "") (Or.inl (hw _ (List.mem_of_getElem? (i := 9) rfl))) Via.refl e3 SB (g := (mkF m 7 #[.val (.ref wA)] [])) rfl (hb hby d1_7)
  refine own_step st4 ?_
  show own_Ends p e below s _ _ _ T4 (mkF m 10 #[.val (.ref wA)] [(.ref wB)])
  refine own_step (fun _ => XS.goto X4.here hx rfl (pc0 := 10) (pc' := 16) rfl (hb hby d1_10) (by decide) (by decide)) ?_
  show own_Ends p e below s _ _ _ T4 (mkF m 16 #[.val (.ref wA)] [(.ref wB)])
  exact own_retR X4 hx hret hlk (hb hby d1_16) (by decide) (by decide) rfl rfl ⟨congrArg (fun z => some (Value.ref z)) hv.symm, N0, e4⟩
theorem ef_rm1A (m : MethodId) (wA : Addr) : entryFrame m #[(.ref wA)] 1 = mkF m 0 #[.val (.ref wA)] [] := by first | (simp [entryFrame, mkF, argsToLocals, Value.category]; done) | rfl
set_option maxRecDepth 65536 in
set_option maxHeartbeats 40000000 in
theorem rm1A (l : Launch) (Z : State) (a0 : Array Value) (hw : ∀ d ∈ tables_1, d.before a0 Z = true) (ws : List Jvm.Cond) (wA : Addr) (wB : Addr) (h0 : Heap) (n0 : Nat) (Z0 : n0 ≤ h0.size) (SA : Sta Z h0 "com/example/graded_queue/gradedqueue/sim/Host" "A" "Lcom/example/graded_queue/gradedqueue/sim/Host;" (.ref wA)) (SB : Sta Z h0 "com/example/graded_queue/gradedqueue/sim/Host" "B" "Lcom/example/graded_queue/gradedqueue/sim/Host;" (.ref wB)) (hne : wA ≠ wB) :
    MetFree l (⟨"com/example/graded_queue/gradedqueue/sim/Host", "other", "()Lcom/example/graded_queue/gradedqueue/sim/Host;"⟩ : MethodName) (head1 (Jvm.Cond.code (⟨"com/example/graded_queue/gradedqueue/sim/Host", "other", "()Lcom/example/graded_queue/gradedqueue/sim/Host;"⟩ : MethodName) prog_61_method_4_code 1 (some (.object "com/example/graded_queue/gradedqueue/sim/Host")) :: ws) ({ frames := 0, cells := 0, slots := 0, locals := 0 } : Room)) (fun a U => a = #[(.ref wA)] ∧ Z.Warmed39 U.vm ∧ U.heap = h0) (fun _ _ _ _ _ => True) (fun _ U o U' => ∃ v L, o = .returned v ∧ (own_Q n0 h0 (some (.ref (f1A_0 wA wB)))) v U'.heap L ∧ FrameEnd U o U' L ({ frames := 0, cells := 0, slots := 0, locals := 0 } : Room).cells ({ frames := 0, cells := 0, slots := 0, locals := 0 } : Room).slots) := by
  refine MetFree.of_bodySF (plainFor_of_name pn_0) hisR ?_
  intro p e s m args below meth c s₁ Bd hml0 hP hK
  obtain ⟨rfl, hZ, hh⟩ := hP
  have X0 : Stand p l e ({ frames := 0, cells := 0, slots := 0, locals := 0 } : Room) s m #[(.ref wA)] below meth c s₁ [] 0 0 := Stand.of_body Bd
  have e0 : s₁.heap = h0 := by rw [← hh, Bd.state]; rfl
  have C : own_C "com/example/graded_queue/gradedqueue/sim/Host" prog_61_method_4_code 1 (some (.object "com/example/graded_queue/gradedqueue/sim/Host")) "other" p s m meth c Z a0 := ⟨Bd.exec, hZ, hw, Bd.bytes, hml0, findClass_of_methodNamed Bd.named, Bd.returns, Bd.notSynchronized, (name_of_methodNamed Bd.named Bd.method).1⟩
  have r := b1A_0 C Z0 X0 e0 (Fr.nil n0) wA wB SA SB hne _ rfl
  rw [ef_rm1A m wA]
  exact r
theorem d1_13 : decode prog_61_method_4_code 13 = .ok (.getstatic 3, 3) := by decide +kernel
def f1B_0 (wA : Addr) (wB : Addr) : Addr := wA
set_option maxRecDepth 65536 in
set_option maxHeartbeats 40000000 in
theorem b1B_0 {p : Program} {l : Launch} {e : Env} {s : State} {m : MethodId} {args : Array Value} {below : List Frame} {meth : Method} {c : Code} {Z : State} {a0 : Array Value} {h0 : Heap} {n0 : Nat} (C : own_C "com/example/graded_queue/gradedqueue/sim/Host" prog_61_method_4_code 1 (some (.object "com/example/graded_queue/gradedqueue/sim/Host")) "other" p s m meth c Z a0) (Z0 : n0 ≤ h0.size) {T0 : State} {locs : List Loc} (X0 : Stand p l e ({ frames := 0, cells := 0, slots := 0, locals := 0 } : Room) s m args below meth c T0 locs 0 0) (e0 : T0.heap = h0) (N0 : Fr n0 locs) (wA : Addr) (wB : Addr) (SA : Sta Z h0 "com/example/graded_queue/gradedqueue/sim/Host" "A" "Lcom/example/graded_queue/gradedqueue/sim/Host;" (.ref wA)) (SB : Sta Z h0 "com/example/graded_queue/gradedqueue/sim/Host" "B" "Lcom/example/graded_queue/gradedqueue/sim/Host;" (.ref wB)) (hne : wA ≠ wB) (W : Addr) (hv : W = f1B_0 wA wB) :
    own_Ends p e below s ({ frames := 0, cells := 0, slots := 0, locals := 0 } : Room).cells ({ frames := 0, cells := 0, slots := 0, locals := 0 } : Room).slots (own_Q n0 h0 (some (.ref W))) T0 (mkF m 0 #[.val (.ref wB)] []) := by
  obtain ⟨hx, hZ, hw, hby, hml, hown, hret, hlk, hnm⟩ := C
  have C : own_C "com/example/graded_queue/gradedqueue/sim/Host" prog_61_method_4_code 1 (some (.object "com/example/graded_queue/gradedqueue/sim/Host")) "other" p s m meth c Z a0 := ⟨hx, hZ, hw, hby, hml, hown, hret, hlk, hnm⟩
  unfold f1B_0 at hv
  refine own_step (fun _ => XS.aloadN X0.here hx rfl (hb hby d1_0) rfl rfl) ?_
  show own_Ends p e below s _ _ _ T0 (mkF m 1 #[.val (.ref wB)] [(.ref wB)])
  obtain ⟨T3, X3, e3, st3⟩ := getS2 X0 hx hZ hown (host := "") (Or.inl (hw _ (List.mem_of_getElem? (i := 8) rfl))) Via.refl e0 SA (g := (mkF m 1 #[.val (.ref wB)] [(.ref wB)])) rfl (hb hby d1_1)
  refine own_step st3 ?_
  show own_Ends p e below s _ _ _ T3 (mkF m 4 #[.val (.ref wB)] [(.ref wA), (.ref wB)])
  refine own_step (fun _ => Jvm.RoadKit.acmp (g := (mkF m 4 #[.val (.ref wB)] [(.ref wA), (.ref wB)])) X3 hx rfl rfl rfl (pc0 := 4) (pc' := 13) (same := false) rfl (hb hby d1_4) rfl (decide_eq_false fun q => (show ¬ (wB = wA) from (Ne.symm hne)) (Value.ref.inj q)) (by decide) (by decide)) ?_
  show own_Ends p e below s _ _ _ T3 (mkF m 13 #[.val (.ref wB)] [])
  obtain ⟨T4, X4, e4, st4⟩ := getS2 X3 hx hZ hown (host := "") (Or.inl (hw _ (List.mem_of_getElem? (i := 8) rfl))) Via.refl e3 SA (g := (mkF m 13 #[.val (.ref wB)] [])) rfl (hb hby d1_13)
  refine own_step st4 ?_
  show own_Ends p e below s _ _ _ T4 (mkF m 16 #[.val (.ref wB)] [(.ref wA)])
  exact own_retR X4 hx hret hlk (hb hby d1_16) (by decide) (by decide) rfl rfl ⟨congrArg (fun z => some (Value.ref z)) hv.symm, N0, e4⟩
theorem ef_rm1B (m : MethodId) (wB : Addr) : entryFrame m #[(.ref wB)] 1 = mkF m 0 #[.val (.ref wB)] [] := by first | (simp [entryFrame, mkF, argsToLocals, Value.category]; done) | rfl
set_option maxRecDepth 65536 in
set_option maxHeartbeats 40000000 in
theorem rm1B (l : Launch) (Z : State) (a0 : Array Value) (hw : ∀ d ∈ tables_1, d.before a0 Z = true) (ws : List Jvm.Cond) (wA : Addr) (wB : Addr) (h0 : Heap) (n0 : Nat) (Z0 : n0 ≤ h0.size) (SA : Sta Z h0 "com/example/graded_queue/gradedqueue/sim/Host" "A" "Lcom/example/graded_queue/gradedqueue/sim/Host;" (.ref wA)) (SB : Sta Z h0 "com/example/graded_queue/gradedqueue/sim/Host" "B" "Lcom/example/graded_queue/gradedqueue/sim/Host;" (.ref wB)) (hne : wA ≠ wB) :
    MetFree l (⟨"com/example/graded_queue/gradedqueue/sim/Host", "other", "()Lcom/example/graded_queue/gradedqueue/sim/Host;"⟩ : MethodName) (head1 (Jvm.Cond.code (⟨"com/example/graded_queue/gradedqueue/sim/Host", "other", "()Lcom/example/graded_queue/gradedqueue/sim/Host;"⟩ : MethodName) prog_61_method_4_code 1 (some (.object "com/example/graded_queue/gradedqueue/sim/Host")) :: ws) ({ frames := 0, cells := 0, slots := 0, locals := 0 } : Room)) (fun a U => a = #[(.ref wB)] ∧ Z.Warmed39 U.vm ∧ U.heap = h0) (fun _ _ _ _ _ => True) (fun _ U o U' => ∃ v L, o = .returned v ∧ (own_Q n0 h0 (some (.ref (f1B_0 wA wB)))) v U'.heap L ∧ FrameEnd U o U' L ({ frames := 0, cells := 0, slots := 0, locals := 0 } : Room).cells ({ frames := 0, cells := 0, slots := 0, locals := 0 } : Room).slots) := by
  refine MetFree.of_bodySF (plainFor_of_name pn_0) hisR ?_
  intro p e s m args below meth c s₁ Bd hml0 hP hK
  obtain ⟨rfl, hZ, hh⟩ := hP
  have X0 : Stand p l e ({ frames := 0, cells := 0, slots := 0, locals := 0 } : Room) s m #[(.ref wB)] below meth c s₁ [] 0 0 := Stand.of_body Bd
  have e0 : s₁.heap = h0 := by rw [← hh, Bd.state]; rfl
  have C : own_C "com/example/graded_queue/gradedqueue/sim/Host" prog_61_method_4_code 1 (some (.object "com/example/graded_queue/gradedqueue/sim/Host")) "other" p s m meth c Z a0 := ⟨Bd.exec, hZ, hw, Bd.bytes, hml0, findClass_of_methodNamed Bd.named, Bd.returns, Bd.notSynchronized, (name_of_methodNamed Bd.named Bd.method).1⟩
  have r := b1B_0 C Z0 X0 e0 (Fr.nil n0) wA wB SA SB hne _ rfl
  rw [ef_rm1B m wB]
  exact r
def f0_0 (i0 : Int32) (wA : Addr) (wB : Addr) : Int32 := (if (i0 &&& (1 : Int32)) = (0 : Int32) then (1 : Int32) else (1 : Int32))
set_option maxRecDepth 65536 in
set_option maxHeartbeats 40000000 in
theorem b0_0 {p : Program} {l : Launch} {e : Env} {s : State} {m : MethodId} {args : Array Value} {below : List Frame} {meth : Method} {c : Code} {Z : State} {a0 : Array Value} {h0 : Heap} {n0 : Nat} (C : own_C "com/example/graded_queue/gradedqueue/sim/HostOtherPinLaw" code maxLocals ret x.name p s m meth c Z a0) (Z0 : n0 ≤ h0.size) {T0 : State} {locs : List Loc} (X0 : Stand p l e room_1 s m args below meth c T0 locs 0 0) (e0 : T0.heap = h0) (N0 : Fr n0 locs) (i0 : Int32) (wA : Addr) (wB : Addr) (SA : Sta Z h0 "com/example/graded_queue/gradedqueue/sim/Host" "A" "Lcom/example/graded_queue/gradedqueue/sim/Host;" (.ref wA)) (SB : Sta Z h0 "com/example/graded_queue/gradedqueue/sim/Host" "B" "Lcom/example/graded_queue/gradedqueue/sim/Host;" (.ref wB)) (EA : Exa Z h0 wA "com/example/graded_queue/gradedqueue/sim/Host") (EB : Exa Z h0 wB "com/example/graded_queue/gradedqueue/sim/Host") (hne : wA ≠ wB) (W : Int32) (hv : W = f0_0 i0 wA wB) :
    own_Ends p e below s room_1.cells room_1.slots (own_Q n0 h0 (some (.int W))) T0 (mkF m 0 #[.val (.int i0), .unset, .unset] []) := by
  obtain ⟨hx, hZ, hw, hby, hml, hown, hret, hlk, hnm⟩ := C
  have C : own_C "com/example/graded_queue/gradedqueue/sim/HostOtherPinLaw" code maxLocals ret x.name p s m meth c Z a0 := ⟨hx, hZ, hw, hby, hml, hown, hret, hlk, hnm⟩
  unfold f0_0 at hv
  refine own_step (fun _ => XS.iloadN X0.here hx rfl (hb hby at_0) rfl) ?_
  show own_Ends p e below s _ _ _ T0 (mkF m 1 #[.val (.int i0), .unset, .unset] [(.int i0)])
  refine own_step (fun _ => XS.iconst X0.here hx rfl (hb hby at_1)) ?_
  show own_Ends p e below s _ _ _ T0 (mkF m 2 #[.val (.int i0), .unset, .unset] [(.int (1 : Int32)), (.int i0)])
  refine own_step (fun _ => XS.iand X0.here hx rfl (hb hby at_2) rfl) ?_
  show own_Ends p e below s _ _ _ T0 (mkF m 3 #[.val (.int i0), .unset, .unset] [(.int (i0 &&& (1 : Int32)))])
  by_cases hc3 : (i0 &&& (1 : Int32)) = (0 : Int32)
  · have hv_t := hv.trans (if_pos hc3)
    refine own_step (fun _ => XS.ifNo X0.here hx rfl (hb hby at_3) rfl ((if0 _ _).trans (teq hc3).2)) ?_
    show own_Ends p e below s _ _ _ T0 (mkF m 6 #[.val (.int i0), .unset, .unset] [])
    obtain ⟨T7, X7, e7, st7⟩ := getS2 X0 hx hZ hown (host := "") (Or.inl (hw _ (List.mem_of_getElem? (i := 0) rfl))) Via.refl e0 SA (g := (mkF m 6 #[.val (.int i0), .unset, .unset] [])) rfl (hb hby at_6)
    refine own_step st7 ?_
    show own_Ends p e below s _ _ _ T7 (mkF m 9 #[.val (.int i0), .unset, .unset] [(.ref wA)])
    refine own_step (fun _ => XS.goto X7.here hx rfl (pc0 := 9) (pc' := 15) rfl (hb hby at_9) (by decide) (by decide)) ?_
    show own_Ends p e below s _ _ _ T7 (mkF m 15 #[.val (.int i0), .unset, .unset] [(.ref wA)])
    refine own_step (fun _ => XS.astoreN X7.here hx rfl (hb hby at_15) rfl rfl (l' := #[.val (.int i0), .val (.ref wA), .unset]) rfl) ?_
    show own_Ends p e below s _ _ _ T7 (mkF m 16 #[.val (.int i0), .val (.ref wA), .unset] [])
    refine own_step (fun _ => XS.aloadN X7.here hx rfl (hb hby at_16) rfl rfl) ?_
    show own_Ends p e below s _ _ _ T7 (mkF m 17 #[.val (.int i0), .val (.ref wA), .unset] [(.ref wA)])
    obtain ⟨cq8, kq8, q8a, q8b, q8c⟩ := isOf hZ e7 EA
    obtain ⟨_, _, ⟨T8, L8, k8, n8⟩, -, X8, ⟨Lc8, hQ8, l8, y8, z8⟩, st8⟩ := X7.virtualBack hx (y := (⟨"com/example/graded_queue/gradedqueue/sim/Host", "other", "()Lcom/example/graded_queue/gradedqueue/sim/Host;"⟩ : MethodName)) (z := (⟨"com/example/graded_queue/gradedqueue/sim/Host", "other", "()Lcom/example/graded_queue/gradedqueue/sim/Host;"⟩ : MethodName)) hown (mvT hZ (hw _ (List.mem_of_getElem? (i := 3) rfl))) (mvT hZ (hw _ (List.mem_of_getElem? (i := 4) rfl))) (notFace_of_selects (args := #[]) (mvT hZ (hw _ (List.mem_of_getElem? (i := 6) rfl)))) (mvT hZ (hw _ (List.mem_of_getElem? (i := 6) rfl))) (mvT hZ (hw _ (List.mem_of_getElem? (i := 5) rfl))) (by decide) (backOf (W := 0) (rm1A l Z a0 hw [] wA wB h0 n0 Z0 SA SB hne) hZ (hw _ (List.mem_of_getElem? (i := 7) rfl)) (hw _ (List.mem_of_getElem? (i := 1) rfl)) (by decide) (by decide)) q8a q8c (g := (mkF m 17 #[.val (.int i0), .val (.ref wA), .unset] [(.ref wA)])) rfl (by rw [hml]; rfl) (Steps.refl _) (argsL := []) (rest := []) (lenOf pd_0 rfl) rfl (by show 2 * 0 + _ ≤ _; exact Nat.le_of_eq rfl) (hb hby at_17) (fun _ _ => ⟨rfl, e7, (by decide : 0 + 0 ≤ _), (by decide : 0 + 0 ≤ _)⟩)
    dsimp only [Pt.U, Pt.locs, Pt.cells, Pt.slots] at X8 l8 y8 z8 st8 hQ8
    subst l8 y8 z8
    obtain ⟨rfl, N8q, hh8⟩ := hQ8
    have N8 := Fr.app N0 N8q
    refine own_step (fun _ => st8.trans) ?_
    show own_Ends p e below s _ _ _ T8 (mkF m 20 #[.val (.int i0), .val (.ref wA), .unset] [(.ref wB)])
    refine own_step (fun _ => XS.astoreN X8.here hx rfl (hb hby at_20) rfl rfl (l' := #[.val (.int i0), .val (.ref wA), .val (.ref wB)]) rfl) ?_
    show own_Ends p e below s _ _ _ T8 (mkF m 21 #[.val (.int i0), .val (.ref wA), .val (.ref wB)] [])
    refine own_step (fun _ => XS.aloadN X8.here hx rfl (hb hby at_21) rfl rfl) ?_
    show own_Ends p e below s _ _ _ T8 (mkF m 22 #[.val (.int i0), .val (.ref wA), .val (.ref wB)] [(.ref wB)])
    refine own_step (fun _ => XS.ifnonnullYes X8.here hx rfl (pc0 := 22) (pc' := 27) rfl (hb hby at_22) rfl (by decide) (by decide)) ?_
    show own_Ends p e below s _ _ _ T8 (mkF m 27 #[.val (.int i0), .val (.ref wA), .val (.ref wB)] [])
    refine own_step (fun _ => XS.aloadN X8.here hx rfl (hb hby at_27) rfl rfl) ?_
    show own_Ends p e below s _ _ _ T8 (mkF m 28 #[.val (.int i0), .val (.ref wA), .val (.ref wB)] [(.ref wB)])
    refine own_step (fun _ => XS.aloadN X8.here hx rfl (hb hby at_28) rfl rfl) ?_
    show own_Ends p e below s _ _ _ T8 (mkF m 29 #[.val (.int i0), .val (.ref wA), .val (.ref wB)] [(.ref wA), (.ref wB)])
    refine own_step (fun _ => Jvm.RoadKit.acmp (g := (mkF m 29 #[.val (.int i0), .val (.ref wA), .val (.ref wB)] [(.ref wA), (.ref wB)])) X8 hx rfl rfl rfl (pc0 := 29) (pc' := 34) (same := false) rfl (hb hby at_29) rfl (decide_eq_false fun q => (show ¬ (wB = wA) from (Ne.symm hne)) (Value.ref.inj q)) (by decide) (by decide)) ?_
    show own_Ends p e below s _ _ _ T8 (mkF m 34 #[.val (.int i0), .val (.ref wA), .val (.ref wB)] [])
    refine own_step (fun _ => XS.aloadN X8.here hx rfl (hb hby at_34) rfl rfl) ?_
    show own_Ends p e below s _ _ _ T8 (mkF m 35 #[.val (.int i0), .val (.ref wA), .val (.ref wB)] [(.ref wB)])
    obtain ⟨cq9, kq9, q9a, q9b, q9c⟩ := isOf hZ hh8 EB
    obtain ⟨_, _, ⟨T9, L9, k9, n9⟩, -, X9, ⟨Lc9, hQ9, l9, y9, z9⟩, st9⟩ := X8.virtualBack hx (y := (⟨"com/example/graded_queue/gradedqueue/sim/Host", "other", "()Lcom/example/graded_queue/gradedqueue/sim/Host;"⟩ : MethodName)) (z := (⟨"com/example/graded_queue/gradedqueue/sim/Host", "other", "()Lcom/example/graded_queue/gradedqueue/sim/Host;"⟩ : MethodName)) hown (mvT hZ (hw _ (List.mem_of_getElem? (i := 3) rfl))) (mvT hZ (hw _ (List.mem_of_getElem? (i := 4) rfl))) (notFace_of_selects (args := #[]) (mvT hZ (hw _ (List.mem_of_getElem? (i := 6) rfl)))) (mvT hZ (hw _ (List.mem_of_getElem? (i := 6) rfl))) (mvT hZ (hw _ (List.mem_of_getElem? (i := 5) rfl))) (by decide) (backOf (W := 0) (rm1B l Z a0 hw [] wA wB h0 n0 Z0 SA SB hne) hZ (hw _ (List.mem_of_getElem? (i := 7) rfl)) (hw _ (List.mem_of_getElem? (i := 1) rfl)) (by decide) (by decide)) q9a q9c (g := (mkF m 35 #[.val (.int i0), .val (.ref wA), .val (.ref wB)] [(.ref wB)])) rfl (by rw [hml]; rfl) (Steps.refl _) (argsL := []) (rest := []) (lenOf pd_0 rfl) rfl (by show 2 * 0 + _ ≤ _; exact Nat.le_of_eq rfl) (hb hby at_35) (fun _ _ => ⟨rfl, hh8, (by decide : 0 + 0 ≤ _), (by decide : 0 + 0 ≤ _)⟩)
    dsimp only [Pt.U, Pt.locs, Pt.cells, Pt.slots] at X9 l9 y9 z9 st9 hQ9
    subst l9 y9 z9
    obtain ⟨rfl, N9q, hh9⟩ := hQ9
    have N9 := Fr.app N8 N9q
    refine own_step (fun _ => st9.trans) ?_
    show own_Ends p e below s _ _ _ T9 (mkF m 38 #[.val (.int i0), .val (.ref wA), .val (.ref wB)] [(.ref wA)])
    refine own_step (fun _ => XS.aloadN X9.here hx rfl (hb hby at_38) rfl rfl) ?_
    show own_Ends p e below s _ _ _ T9 (mkF m 39 #[.val (.int i0), .val (.ref wA), .val (.ref wB)] [(.ref wA), (.ref wA)])
    refine own_step (fun _ => Jvm.RoadKit.acmp (g := (mkF m 39 #[.val (.int i0), .val (.ref wA), .val (.ref wB)] [(.ref wA), (.ref wA)])) X9 hx rfl rfl rfl (pc0 := 39) (pc' := 42) (same := true) rfl (hb hby at_39) rfl (decide_eq_true rfl) (by decide) (by decide)) ?_
    show own_Ends p e below s _ _ _ T9 (mkF m 42 #[.val (.int i0), .val (.ref wA), .val (.ref wB)] [])
    refine own_step (fun _ => XS.iconst X9.here hx rfl (hb hby at_42)) ?_
    show own_Ends p e below s _ _ _ T9 (mkF m 43 #[.val (.int i0), .val (.ref wA), .val (.ref wB)] [(.int (1 : Int32))])
    refine own_step (fun _ => XS.goto X9.here hx rfl (pc0 := 43) (pc' := 47) rfl (hb hby at_43) (by decide) (by decide)) ?_
    show own_Ends p e below s _ _ _ T9 (mkF m 47 #[.val (.int i0), .val (.ref wA), .val (.ref wB)] [(.int (1 : Int32))])
    exact own_retN X9 (t := .boolean) hx hret hlk (hb hby at_47) (by decide) (by decide) (by simp) ⟨congrArg (fun z => some (Value.int z)) hv_t.symm, N9, hh9⟩
  · have hv_f := hv.trans (if_neg hc3)
    refine own_step (fun _ => XS.ifYes X0.here hx rfl (pc0 := 3) (pc' := 12) rfl (hb hby at_3) rfl ((if0 _ _).trans (feq hc3).2) (by decide) (by decide)) ?_
    show own_Ends p e below s _ _ _ T0 (mkF m 12 #[.val (.int i0), .unset, .unset] [])
    obtain ⟨T10, X10, e10, st10⟩ := getS2 X0 hx hZ hown (host := "") (Or.inl (hw _ (List.mem_of_getElem? (i := 11) rfl))) Via.refl e0 SB (g := (mkF m 12 #[.val (.int i0), .unset, .unset] [])) rfl (hb hby at_12)
    refine own_step st10 ?_
    show own_Ends p e below s _ _ _ T10 (mkF m 15 #[.val (.int i0), .unset, .unset] [(.ref wB)])
    refine own_step (fun _ => XS.astoreN X10.here hx rfl (hb hby at_15) rfl rfl (l' := #[.val (.int i0), .val (.ref wB), .unset]) rfl) ?_
    show own_Ends p e below s _ _ _ T10 (mkF m 16 #[.val (.int i0), .val (.ref wB), .unset] [])
    refine own_step (fun _ => XS.aloadN X10.here hx rfl (hb hby at_16) rfl rfl) ?_
    show own_Ends p e below s _ _ _ T10 (mkF m 17 #[.val (.int i0), .val (.ref wB), .unset] [(.ref wB)])
    obtain ⟨cq11, kq11, q11a, q11b, q11c⟩ := isOf hZ e10 EB
    obtain ⟨_, _, ⟨T11, L11, k11, n11⟩, -, X11, ⟨Lc11, hQ11, l11, y11, z11⟩, st11⟩ := X10.virtualBack hx (y := (⟨"com/example/graded_queue/gradedqueue/sim/Host", "other", "()Lcom/example/graded_queue/gradedqueue/sim/Host;"⟩ : MethodName)) (z := (⟨"com/example/graded_queue/gradedqueue/sim/Host", "other", "()Lcom/example/graded_queue/gradedqueue/sim/Host;"⟩ : MethodName)) hown (mvT hZ (hw _ (List.mem_of_getElem? (i := 3) rfl))) (mvT hZ (hw _ (List.mem_of_getElem? (i := 4) rfl))) (notFace_of_selects (args := #[]) (mvT hZ (hw _ (List.mem_of_getElem? (i := 6) rfl)))) (mvT hZ (hw _ (List.mem_of_getElem? (i := 6) rfl))) (mvT hZ (hw _ (List.mem_of_getElem? (i := 5) rfl))) (by decide) (backOf (W := 0) (rm1B l Z a0 hw [] wA wB h0 n0 Z0 SA SB hne) hZ (hw _ (List.mem_of_getElem? (i := 7) rfl)) (hw _ (List.mem_of_getElem? (i := 1) rfl)) (by decide) (by decide)) q11a q11c (g := (mkF m 17 #[.val (.int i0), .val (.ref wB), .unset] [(.ref wB)])) rfl (by rw [hml]; rfl) (Steps.refl _) (argsL := []) (rest := []) (lenOf pd_0 rfl) rfl (by show 2 * 0 + _ ≤ _; exact Nat.le_of_eq rfl) (hb hby at_17) (fun _ _ => ⟨rfl, e10, (by decide : 0 + 0 ≤ _), (by decide : 0 + 0 ≤ _)⟩)
    dsimp only [Pt.U, Pt.locs, Pt.cells, Pt.slots] at X11 l11 y11 z11 st11 hQ11
    subst l11 y11 z11
    obtain ⟨rfl, N11q, hh11⟩ := hQ11
    have N11 := Fr.app N0 N11q
    refine own_step (fun _ => st11.trans) ?_
    show own_Ends p e below s _ _ _ T11 (mkF m 20 #[.val (.int i0), .val (.ref wB), .unset] [(.ref wA)])
    refine own_step (fun _ => XS.astoreN X11.here hx rfl (hb hby at_20) rfl rfl (l' := #[.val (.int i0), .val (.ref wB), .val (.ref wA)]) rfl) ?_
    show own_Ends p e below s _ _ _ T11 (mkF m 21 #[.val (.int i0), .val (.ref wB), .val (.ref wA)] [])
    refine own_step (fun _ => XS.aloadN X11.here hx rfl (hb hby at_21) rfl rfl) ?_
    show own_Ends p e below s _ _ _ T11 (mkF m 22 #[.val (.int i0), .val (.ref wB), .val (.ref wA)] [(.ref wA)])
    refine own_step (fun _ => XS.ifnonnullYes X11.here hx rfl (pc0 := 22) (pc' := 27) rfl (hb hby at_22) rfl (by decide) (by decide)) ?_
    show own_Ends p e below s _ _ _ T11 (mkF m 27 #[.val (.int i0), .val (.ref wB), .val (.ref wA)] [])
    refine own_step (fun _ => XS.aloadN X11.here hx rfl (hb hby at_27) rfl rfl) ?_
    show own_Ends p e below s _ _ _ T11 (mkF m 28 #[.val (.int i0), .val (.ref wB), .val (.ref wA)] [(.ref wA)])
    refine own_step (fun _ => XS.aloadN X11.here hx rfl (hb hby at_28) rfl rfl) ?_
    show own_Ends p e below s _ _ _ T11 (mkF m 29 #[.val (.int i0), .val (.ref wB), .val (.ref wA)] [(.ref wB), (.ref wA)])
    refine own_step (fun _ => Jvm.RoadKit.acmp (g := (mkF m 29 #[.val (.int i0), .val (.ref wB), .val (.ref wA)] [(.ref wB), (.ref wA)])) X11 hx rfl rfl rfl (pc0 := 29) (pc' := 34) (same := false) rfl (hb hby at_29) rfl (decide_eq_false fun q => (show ¬ (wA = wB) from hne) (Value.ref.inj q)) (by decide) (by decide)) ?_
    show own_Ends p e below s _ _ _ T11 (mkF m 34 #[.val (.int i0), .val (.ref wB), .val (.ref wA)] [])
    refine own_step (fun _ => XS.aloadN X11.here hx rfl (hb hby at_34) rfl rfl) ?_
    show own_Ends p e below s _ _ _ T11 (mkF m 35 #[.val (.int i0), .val (.ref wB), .val (.ref wA)] [(.ref wA)])
    obtain ⟨cq12, kq12, q12a, q12b, q12c⟩ := isOf hZ hh11 EA
    obtain ⟨_, _, ⟨T12, L12, k12, n12⟩, -, X12, ⟨Lc12, hQ12, l12, y12, z12⟩, st12⟩ := X11.virtualBack hx (y := (⟨"com/example/graded_queue/gradedqueue/sim/Host", "other", "()Lcom/example/graded_queue/gradedqueue/sim/Host;"⟩ : MethodName)) (z := (⟨"com/example/graded_queue/gradedqueue/sim/Host", "other", "()Lcom/example/graded_queue/gradedqueue/sim/Host;"⟩ : MethodName)) hown (mvT hZ (hw _ (List.mem_of_getElem? (i := 3) rfl))) (mvT hZ (hw _ (List.mem_of_getElem? (i := 4) rfl))) (notFace_of_selects (args := #[]) (mvT hZ (hw _ (List.mem_of_getElem? (i := 6) rfl)))) (mvT hZ (hw _ (List.mem_of_getElem? (i := 6) rfl))) (mvT hZ (hw _ (List.mem_of_getElem? (i := 5) rfl))) (by decide) (backOf (W := 0) (rm1A l Z a0 hw [] wA wB h0 n0 Z0 SA SB hne) hZ (hw _ (List.mem_of_getElem? (i := 7) rfl)) (hw _ (List.mem_of_getElem? (i := 1) rfl)) (by decide) (by decide)) q12a q12c (g := (mkF m 35 #[.val (.int i0), .val (.ref wB), .val (.ref wA)] [(.ref wA)])) rfl (by rw [hml]; rfl) (Steps.refl _) (argsL := []) (rest := []) (lenOf pd_0 rfl) rfl (by show 2 * 0 + _ ≤ _; exact Nat.le_of_eq rfl) (hb hby at_35) (fun _ _ => ⟨rfl, hh11, (by decide : 0 + 0 ≤ _), (by decide : 0 + 0 ≤ _)⟩)
    dsimp only [Pt.U, Pt.locs, Pt.cells, Pt.slots] at X12 l12 y12 z12 st12 hQ12
    subst l12 y12 z12
    obtain ⟨rfl, N12q, hh12⟩ := hQ12
    have N12 := Fr.app N11 N12q
    refine own_step (fun _ => st12.trans) ?_
    show own_Ends p e below s _ _ _ T12 (mkF m 38 #[.val (.int i0), .val (.ref wB), .val (.ref wA)] [(.ref wB)])
    refine own_step (fun _ => XS.aloadN X12.here hx rfl (hb hby at_38) rfl rfl) ?_
    show own_Ends p e below s _ _ _ T12 (mkF m 39 #[.val (.int i0), .val (.ref wB), .val (.ref wA)] [(.ref wB), (.ref wB)])
    refine own_step (fun _ => Jvm.RoadKit.acmp (g := (mkF m 39 #[.val (.int i0), .val (.ref wB), .val (.ref wA)] [(.ref wB), (.ref wB)])) X12 hx rfl rfl rfl (pc0 := 39) (pc' := 42) (same := true) rfl (hb hby at_39) rfl (decide_eq_true rfl) (by decide) (by decide)) ?_
    show own_Ends p e below s _ _ _ T12 (mkF m 42 #[.val (.int i0), .val (.ref wB), .val (.ref wA)] [])
    refine own_step (fun _ => XS.iconst X12.here hx rfl (hb hby at_42)) ?_
    show own_Ends p e below s _ _ _ T12 (mkF m 43 #[.val (.int i0), .val (.ref wB), .val (.ref wA)] [(.int (1 : Int32))])
    refine own_step (fun _ => XS.goto X12.here hx rfl (pc0 := 43) (pc' := 47) rfl (hb hby at_43) (by decide) (by decide)) ?_
    show own_Ends p e below s _ _ _ T12 (mkF m 47 #[.val (.int i0), .val (.ref wB), .val (.ref wA)] [(.int (1 : Int32))])
    exact own_retN X12 (t := .boolean) hx hret hlk (hb hby at_47) (by decide) (by decide) (by simp) ⟨congrArg (fun z => some (Value.int z)) hv_f.symm, N12, hh12⟩
theorem ef_rm0 (m : MethodId) (i0 : Int32) : entryFrame m #[(.int i0)] maxLocals = mkF m 0 #[.val (.int i0), .unset, .unset] [] := by first | (simp [entryFrame, mkF, argsToLocals, Value.category, maxLocals]; done) | rfl
set_option maxRecDepth 65536 in
set_option maxHeartbeats 40000000 in
theorem rm0 (l : Launch) (Z : State) (a0 : Array Value) (hw : ∀ d ∈ tables_1, d.before a0 Z = true) (ws : List Jvm.Cond) (i0 : Int32) (wA : Addr) (wB : Addr) (h0 : Heap) (n0 : Nat) (Z0 : n0 ≤ h0.size) (SA : Sta Z h0 "com/example/graded_queue/gradedqueue/sim/Host" "A" "Lcom/example/graded_queue/gradedqueue/sim/Host;" (.ref wA)) (SB : Sta Z h0 "com/example/graded_queue/gradedqueue/sim/Host" "B" "Lcom/example/graded_queue/gradedqueue/sim/Host;" (.ref wB)) (EA : Exa Z h0 wA "com/example/graded_queue/gradedqueue/sim/Host") (EB : Exa Z h0 wB "com/example/graded_queue/gradedqueue/sim/Host") (hne : wA ≠ wB) :
    MetFree l x (head1 (Jvm.Cond.code x code maxLocals ret :: ws) room_1) (fun a U => a = #[(.int i0)] ∧ Z.Warmed39 U.vm ∧ U.heap = h0) (fun _ _ _ _ _ => True) (fun _ U o U' => ∃ v L, o = .returned v ∧ (own_Q n0 h0 (some (.int (f0_0 i0 wA wB)))) v U'.heap L ∧ FrameEnd U o U' L room_1.cells room_1.slots) := by
  refine MetFree.of_bodySF (plainFor_of_name pn_1) hisR ?_
  intro p e s m args below meth c s₁ Bd hml0 hP hK
  obtain ⟨rfl, hZ, hh⟩ := hP
  have X0 : Stand p l e room_1 s m #[(.int i0)] below meth c s₁ [] 0 0 := Stand.of_body Bd
  have e0 : s₁.heap = h0 := by rw [← hh, Bd.state]; rfl
  have C : own_C "com/example/graded_queue/gradedqueue/sim/HostOtherPinLaw" code maxLocals ret x.name p s m meth c Z a0 := ⟨Bd.exec, hZ, hw, Bd.bytes, hml0, findClass_of_methodNamed Bd.named, Bd.returns, Bd.notSynchronized, (name_of_methodNamed Bd.named Bd.method).1⟩
  have r := b0_0 C Z0 X0 e0 (Fr.nil n0) i0 wA wB SA SB EA EB hne _ rfl
  rw [ef_rm0 m i0]
  exact r
theorem own_law (i0 : Int32) (wA wB : Addr) : f0_0 i0 wA wB = 1 := by unfold f0_0; split <;> rfl
set_option maxRecDepth 65536 in
set_option maxHeartbeats 40000000 in
theorem comes_1 {Post : Tables → Env → Array Value → State → Outcome → State → Prop} (hpost : ∀ tb e args s v u, (limb_1_1.after args s (.returned v) u = true ∧ limb_1_2.after args s (.returned v) u = true ∧ True) → FrameEnd s (.returned v) u (Jvm.fieldLocs frame_1_writes args s ++ Jvm.arrayLocs frame_1_arrays args s ++ Jvm.staticLocs frame_1_statics s) 0 0 → Post tb e args s (.returned v) u) :
    ArmFor flags0 classFile x code maxLocals ret World_1 tables_1 room_1 Calls_1 rest_1 Pre_1 Post := by
  intro l hfl _ _ p e ha hc hk s m args below hf hA hF happ hP
  obtain ⟨hcalls, hrest, hpre⟩ := hP
  obtain ⟨-, -, -, hnamed, -, -, -, hat⟩ := (Spec.applies_iff hf).mp happ
  obtain ⟨hg, hn⟩ := and_e (Cond.before_iff.mp (show (Jvm.Cond.and given_1 narrow_1).before args s = true from hpre))
  obtain ⟨g1, g2⟩ := and_e hg
  obtain ⟨w0, rfl⟩ : ∃ w0 : Value, args = #[w0] := by
    have hs : args.size = 1 := by simpa [Cond.value, given_1] using g1
    obtain ⟨L⟩ := args
    match L, hs with
    | [w0], _ => exact ⟨w0, rfl⟩
  have hw := fun d (hd : d ∈ tables_1) => atoms_spec (ws := Jvm.Cond.code x code maxLocals ret :: tables_1) hat d (List.mem_cons_of_mem _ hd)
  have hfit : Fit s := fun {y c} hc i hi => by
    obtain ⟨ha, rfl⟩ := Array.getElem?_eq_some_iff.mp hc
    have q := List.all_eq_true.mp ((Array.all_eq_true_iff_forall_mem.mp hF) _ (Array.getElem_mem ha)) i (List.mem_range.mpr hi)
    simpa [Array.getElem?_eq_getElem hi] using q
  obtain ⟨i0, ei0⟩ := is_v g2
  obtain rfl : w0 = (.int i0) := Option.some.inj ei0
  obtain ⟨n1, n2⟩ := and_e hn
  obtain ⟨w3, e4⟩ := exa_v n1
  have S5 : Sta s s.heap "com/example/graded_queue/gradedqueue/sim/Host" "A" "Lcom/example/graded_queue/gradedqueue/sim/Host;" (.ref w3) := Sta.start e4 (Or.inr ⟨(hw _ (List.mem_of_getElem? (i := 1) rfl)), (hw _ (List.mem_of_getElem? (i := 2) rfl))⟩)
  have E6 : Exa s s.heap w3 "com/example/graded_queue/gradedqueue/sim/Host" := Exa.start e4 n1
  obtain ⟨n7, n8⟩ := and_e n2
  obtain ⟨w9, e10⟩ := exa_v n7
  have S11 : Sta s s.heap "com/example/graded_queue/gradedqueue/sim/Host" "B" "Lcom/example/graded_queue/gradedqueue/sim/Host;" (.ref w9) := Sta.start e10 (Or.inr ⟨(hw _ (List.mem_of_getElem? (i := 1) rfl)), (hw _ (List.mem_of_getElem? (i := 10) rfl))⟩)
  have E12 : Exa s s.heap w9 "com/example/graded_queue/gradedqueue/sim/Host" := Exa.start e10 n7
  obtain ⟨n13, n14⟩ := and_e n8
  have e15 := eqv_i (Term.int_eval (1 : Int32)) n13
  have F16 : Fld s s.heap w9 "java/lang/Enum" "ordinal" "I" (.int (1 : Int32)) := Fld.start ((fld_at e10).symm.trans e15)
  have e17 := eqv_i (Term.int_eval (0 : Int32)) n14
  have F18 : Fld s s.heap w3 "java/lang/Enum" "ordinal" "I" (.int (0 : Int32)) := Fld.start ((fld_at e4).symm.trans e17)
  have hne : w3 ≠ w9 := fun q => absurd (Fld.ne F16 F18 (by decide)) (fun r => r q.symm)
  obtain ⟨n, o, h1, h2, h3, _, L, rfl, ⟨rfl, N, -⟩, hq⟩ := rm0 l s _ hw tables_1 i0 w3 w9 s.heap s.heap.size (Nat.le_refl _) S5 S11 E6 E12 hne p e ha hc hk s m _ below hf ((Spec.applies_iff_loose hf).mp happ).1 ⟨rfl, State.Warmed39.refl s, rfl⟩ trivial
  refine ⟨n, _, h1, h2, h3, hpost _ _ _ _ _ _ ⟨Cond.after_iff.mpr rfl, Cond.after_iff.mpr (eq_i res_at (Term.int_eval (1)) (congrArg Value.int (own_law i0 w3 w9))), trivial⟩ ⟨hq.1, hq.2.1, (hq.2.2.sift fun y hy => Or.inr (N y hy)).mono (by decide) (by decide)⟩⟩
theorem main_1_1 : Claimed_1_1 := comes_1 fun _ _ _ _ _ _ h hF => ⟨h.1, hF⟩
theorem main_1_2 : Claimed_1_2 := comes_1 fun _ _ _ _ _ _ h hF => ⟨h.2.1, hF⟩
end Jvm.Pilot.@@N@@
namespace Jvm.Pilot.@@N@@
open Jvm Jvm.ClassFile Sem Op Lib Jvm.Free Jvm.Stand Jvm.Pilot.@@N@@.Jvm.D
/-! MADE BY PROGRAM (witnessworld.py) out of the Statement's table words and the real class files: 10 classes; the members and pool entries that the words name. The judged class is class 1, her method 1. -/
namespace start1
open Jvm.ClassFile
def u (s : String) : CpInfo := .utf8 (stringToUtf16 s)
/-- a pool by its gaps: so many unusable entries, then the entry; so many at the end -/
def gap : Nat → List CpInfo → List CpInfo
  | 0, r => r
  | n + 1, r => .unusable :: gap n r
def poolList (es : List (Nat × CpInfo)) (last : Nat) : List CpInfo := es.foldr (fun e r => gap e.1 (e.2 :: r)) (gap last [])
def pool (es : List (Nat × CpInfo)) (last : Nat) : Array CpInfo := ⟨poolList es last⟩
def fileOf (pool : Array CpInfo) (this : Nat) (attrs : Array Attribute := #[]) (ms : Array MethodInfo := #[]) (fl : Nat := 33) (sup : Nat := 0) (ifs : Array Nat := #[]) (fds : Array FieldInfo := #[]) : ClassFile where
  minorVersion := 0
  majorVersion := 65
  constantPool := pool
  accessFlags := fl
  thisClass := this
  superClass := sup
  interfaces := ifs
  fields := fds
  methods := ms
  attributes := attrs
def plain (name : String) (sup : Option ClassId) : Class where
  name := name
  kind := .ordinary
  loader := none
  accessFlags := 33
  super := sup
  interfaces := #[]
  cf := none
  fields := #[]
  methods := #[]
  instanceTypes := #[]
  staticTypes := #[]
  resolved := #[]
  callSites := []
  init := .initialized
  statics := none
  mirror := none

def pool0 : Array CpInfo := pool [(5, u "<init>"), (0, u "()V"), (1, .class_ 10), (1, u "java/lang/Object")] 113

def k0m0 : Method := { name := "<init>", desc := "()V", sig := { parameters := [], returnType := none }, accessFlags := 1, code := none }
/-- java/lang/Object -/
def k0 : Class := { plain "java/lang/Object" none with
  accessFlags := 33
  interfaces := #[]
  cf := some (fileOf pool0 8 #[] #[{ accessFlags := 1, nameIndex := 5, descriptorIndex := 6, attributes := #[] }] 33 0 #[] #[])
  fields := #[]
  methods := #[k0m0]
  instanceTypes := #[]
  staticTypes := #[]
  resolved := Array.replicate 124 none
  statics := none }

def pool1 : Array CpInfo := pool [(2, .class_ 4), (1, u "java/lang/Object"), (0, u "<init>"), (0, u "()V"), (0, .fieldref 8 9), (0, .class_ 10), (0, .nameAndType 11 12), (0, u "com/example/graded_queue/gradedqueue/sim/Host"), (0, u "A"), (0, u "Lcom/example/graded_queue/gradedqueue/sim/Host;"), (0, .fieldref 8 14), (0, .nameAndType 15 12), (0, u "B"), (0, .methodref 8 17), (0, .nameAndType 18 19), (0, u "other"), (0, u "()Lcom/example/graded_queue/gradedqueue/sim/Host;"), (0, .class_ 21), (0, u "com/example/graded_queue/gradedqueue/sim/HostOtherPinLaw"), (2, u "law"), (0, u "(I)Z")] 3

def k1m0 : Method := { name := "<init>", desc := "()V", sig := { parameters := [], returnType := none }, accessFlags := 1, code := none }
def k1c1 : Code := { maxStack := 2, maxLocals := 3, code := code, exceptionTable := #[], attributes := #[] }
def k1m1 : Method := { name := "law", desc := "(I)Z", sig := { parameters := [.int], returnType := some .boolean }, accessFlags := 9, code := some k1c1 }
/-- com/example/graded_queue/gradedqueue/sim/HostOtherPinLaw -/
def k1 : Class := { plain "com/example/graded_queue/gradedqueue/sim/HostOtherPinLaw" (some 0) with
  accessFlags := 49
  interfaces := #[]
  cf := some (fileOf pool1 20 #[] #[{ accessFlags := 1, nameIndex := 5, descriptorIndex := 6, attributes := #[] }, { accessFlags := 9, nameIndex := 24, descriptorIndex := 25, attributes := #[] }] 49 2 #[] #[])
  fields := #[]
  methods := #[k1m0, k1m1]
  instanceTypes := #[]
  staticTypes := #[]
  resolved := Array.replicate 29 none
  statics := none }

def pool2 : Array CpInfo := pool [(1, .class_ 2), (0, u "java/lang/constant/Constable"), (0, .class_ 4), (0, u "java/lang/Object")] 6

/-- java/lang/constant/Constable -/
def k2 : Class := { plain "java/lang/constant/Constable" (some 0) with
  accessFlags := 1537
  interfaces := #[]
  cf := some (fileOf pool2 1 #[] #[] 1537 3 #[] #[])
  fields := #[]
  methods := #[]
  instanceTypes := #[]
  staticTypes := #[]
  resolved := Array.replicate 11 none
  statics := none }

def pool3 : Array CpInfo := pool [(1, .class_ 2), (0, u "java/lang/Comparable"), (0, .class_ 4), (0, u "java/lang/Object")] 7

/-- java/lang/Comparable -/
def k3 : Class := { plain "java/lang/Comparable" (some 0) with
  accessFlags := 1537
  interfaces := #[]
  cf := some (fileOf pool3 1 #[] #[] 1537 3 #[] #[])
  fields := #[]
  methods := #[]
  instanceTypes := #[]
  staticTypes := #[]
  resolved := Array.replicate 12 none
  statics := none }

def pool4 : Array CpInfo := pool [(1, .class_ 2), (0, u "java/io/Serializable"), (0, .class_ 4), (0, u "java/lang/Object")] 2

/-- java/io/Serializable -/
def k4 : Class := { plain "java/io/Serializable" (some 0) with
  accessFlags := 1537
  interfaces := #[]
  cf := some (fileOf pool4 1 #[] #[] 1537 3 #[] #[])
  fields := #[]
  methods := #[]
  instanceTypes := #[]
  staticTypes := #[]
  resolved := Array.replicate 7 none
  statics := none }

def pool5 : Array CpInfo := pool [(2, .class_ 4), (1, u "java/lang/Enum"), (0, u "name"), (0, u "Ljava/lang/String;"), (2, u "ordinal"), (0, u "I"), (1, .class_ 14), (1, u "java/lang/Object"), (4, u "hash"), (86, .class_ 108), (1, u "java/lang/Enum$EnumDesc"), (2, .class_ 112), (0, u "java/lang/constant/Constable"), (0, .class_ 114), (0, u "java/lang/Comparable"), (0, .class_ 116), (0, u "java/io/Serializable")] 87

/-- java/lang/Enum -/
def k5 : Class := { plain "java/lang/Enum" (some 0) with
  accessFlags := 1057
  interfaces := #[2, 3, 4]
  cf := some (fileOf pool5 2 #[.nestMembers #[106]] #[] 1057 12 #[111, 113, 115] #[{ accessFlags := 18, nameIndex := 5, descriptorIndex := 6, attributes := #[] }, { accessFlags := 18, nameIndex := 9, descriptorIndex := 10, attributes := #[] }, { accessFlags := 2, nameIndex := 19, descriptorIndex := 10, attributes := #[] }])
  fields := #[{ name := "name", type := (.object "java/lang/String"), accessFlags := 18, slot := 0, constantValue := 0 }, { name := "ordinal", type := .int, accessFlags := 18, slot := 1, constantValue := 0 }, { name := "hash", type := .int, accessFlags := 2, slot := 2, constantValue := 0 }]
  methods := #[]
  instanceTypes := #[(.object "java/lang/String"), .int, .int]
  staticTypes := #[]
  resolved := Array.replicate 204 none
  statics := none }

def pool6 : Array CpInfo := pool [(1, .class_ 2), (0, u "com/example/graded_queue/gradedqueue/sim/Host"), (0, .fieldref 1 4), (0, .nameAndType 5 6), (0, u "A"), (0, u "Lcom/example/graded_queue/gradedqueue/sim/Host;"), (0, .fieldref 1 8), (0, .nameAndType 9 6), (0, u "B"), (2, u "$VALUES"), (0, u "[Lcom/example/graded_queue/gradedqueue/sim/Host;"), (6, .class_ 22), (1, u "java/lang/Enum"), (54, u "other"), (0, u "()Lcom/example/graded_queue/gradedqueue/sim/Host;")] 22

def k6c0 : Code := { maxStack := 2, maxLocals := 1, code := prog_61_method_4_code, exceptionTable := #[], attributes := #[] }
def k6m0 : Method := { name := "other", desc := "()Lcom/example/graded_queue/gradedqueue/sim/Host;", sig := { parameters := [], returnType := some (.object "com/example/graded_queue/gradedqueue/sim/Host") }, accessFlags := 1, code := some k6c0 }
/-- com/example/graded_queue/gradedqueue/sim/Host -/
def k6 : Class := { plain "com/example/graded_queue/gradedqueue/sim/Host" (some 5) with
  accessFlags := 16433
  interfaces := #[]
  cf := some (fileOf pool6 1 #[] #[{ accessFlags := 1, nameIndex := 77, descriptorIndex := 78, attributes := #[] }] 16433 20 #[] #[{ accessFlags := 16409, nameIndex := 5, descriptorIndex := 6, attributes := #[] }, { accessFlags := 16409, nameIndex := 9, descriptorIndex := 6, attributes := #[] }, { accessFlags := 4122, nameIndex := 12, descriptorIndex := 13, attributes := #[] }])
  fields := #[{ name := "A", type := (.object "com/example/graded_queue/gradedqueue/sim/Host"), accessFlags := 16409, slot := 0, constantValue := 0 }, { name := "B", type := (.object "com/example/graded_queue/gradedqueue/sim/Host"), accessFlags := 16409, slot := 1, constantValue := 0 }, { name := "$VALUES", type := (.array (.object "com/example/graded_queue/gradedqueue/sim/Host")), accessFlags := 4122, slot := 2, constantValue := 0 }]
  methods := #[k6m0]
  instanceTypes := #[(.object "java/lang/String"), .int, .int]
  staticTypes := #[(.object "com/example/graded_queue/gradedqueue/sim/Host"), (.object "com/example/graded_queue/gradedqueue/sim/Host"), (.array (.object "com/example/graded_queue/gradedqueue/sim/Host"))]
  resolved := Array.replicate 101 none
  statics := some 0 }

def pool7 : Array CpInfo := pool [(1, u "java/lang/Cloneable"), (0, .class_ 1), (0, u "java/lang/Object"), (0, .class_ 3)] 3

/-- java/lang/Cloneable -/
def k7 : Class := { plain "java/lang/Cloneable" (some 0) with
  accessFlags := 1537
  interfaces := #[]
  cf := some (fileOf pool7 2 #[] #[] 1537 4 #[] #[])
  fields := #[]
  methods := #[]
  instanceTypes := #[]
  staticTypes := #[]
  resolved := Array.replicate 8 none
  statics := none }

/-- the primitive byte -/
def k8 : Class := { plain "byte" none with kind := .primitive 'B', accessFlags := 0x411 }
/-- [B -/
def k9 : Class := { plain "[B" (some 0) with kind := .array 8 .byte, interfaces := #[7, 4], accessFlags := 1041 }

def heap : Heap := #[{ cls := 6, slots := #[.ref 1, .ref 2, .null], vm := .statics 6 },
  { cls := 6, slots := #[.null, .int 0, .int 0], vm := .none },
  { cls := 6, slots := #[.null, .int 1, .int 0], vm := .none }]
def classes : Array Class := #[k0, k1, k2, k3, k4, k5, k6, k7, k8, k9]
def interned : List (Array UInt16 × Addr) := []
def slotsUsed : Nat := 9
def theMethod : MethodId := ⟨1, 1⟩
def args0 : Array Value := #[.int 5]
def aboutOver (below : List Frame) : State where
  vm := { classes := classes, interned := interned.toArray }
  heap := heap
  slotsUsed := slotsUsed
  threads := #[{ frames := .invoking theMethod args0 :: below }]
def below0 : List Frame := [.native { method := ⟨0, 0⟩, args := #[] }]
def about1 : State := aboutOver below0
def p0 : Program := .bare "" "" ""
def e0 : Env := launch0.env 0 0 0
theorem w_frames : about1.frames = Frame.invoking theMethod args0 :: below0 := rfl
set_option maxRecDepth 65536 in
theorem w_args : argsFit about1.vm theMethod args0 = true := by decide +kernel
set_option maxRecDepth 65536 in
theorem w_heap : heapFits about1 = true := by decide +kernel
set_option maxRecDepth 65536 in
theorem w_runnable : about1.curStatus? = some .runnable := by decide +kernel
set_option maxRecDepth 65536 in
theorem w_alone : about1.alone = true := by decide +kernel
set_option maxRecDepth 65536 in
theorem w_named : about1.methodNamed? x = some theMethod := by decide +kernel
set_option maxRecDepth 65536 in
theorem w_hears : about1.hears theMethod below0 = true := by decide +kernel
set_option maxRecDepth 65536 in
theorem w_ripe : about1.ripe theMethod args0 below0 = true := by decide +kernel
theorem w_running : about1.status = .running := rfl
set_option maxRecDepth 65536 in
theorem w_room : about1.hasRoom e0.platform room_1 = true :=
  launch0.hasRoom_least _ room_1 (by decide +kernel) (by decide +kernel) (by decide +kernel) (by decide +kernel) (by decide +kernel) (by decide +kernel)
theorem allAtoms_all (ts : List Jvm.Cond) (a : Array Jvm.Value) (st : Jvm.State) : (allAtoms ts).before a st = ts.all (fun c => c.before a st) := by
  induction ts with
  | nil => rfl
  | cons c t ih =>
    show (Jvm.Cond.and c (allAtoms t)).before a st = _
    rw [Jvm.Cond.before_and, ih, List.all_cons]
def words1 : List Jvm.Cond := Jvm.Cond.code x code maxLocals ret :: tables_1
/-- a 'code' word, met by the world's own term for the bytes: nothing is compared byte by byte -/
theorem code_word {y : MethodName} {bytes : ByteArray} {mx : Nat} {rt : Option FieldType} {a : Array Value} {s : State} {m : MethodId} {meth : Method} {c : Code} (h1 : s.methodNamed? y = some m) (h2 : s.vm.method? m = some meth) (h3 : meth.code = some c) (h4 : c.code = bytes)
    (h5 : (c.maxLocals == mx && c.exceptionTable.isEmpty && decide (c.maxStack ≤ mostOperands) && decide (meth.sig.returnType = rt) && !meth.locks && decide (parseMethodDescriptor y.desc = some meth.sig)) = true) : (Jvm.Cond.code y bytes mx rt).before a s = true := by
  simp only [Bool.and_eq_true, beq_iff_eq, Bool.not_eq_true', decide_eq_true_eq] at h5
  obtain ⟨⟨⟨⟨⟨g1, g2⟩, g3⟩, g4⟩, g5⟩, g6⟩ := h5
  simp [Cond.before, Cond.holds, Cond.value, h1, h2, h3, h4, g1, g2, g3, g4, g5, g6]
def isCode : Jvm.Cond → Bool
  | .code _ _ _ _ => true
  | _ => false
theorem all_split {L : List Jvm.Cond} {P : Jvm.Cond → Bool} (h1 : L.all (fun c => isCode c || P c) = true) (h2 : ∀ c ∈ L.filter isCode, P c = true) : L.all P = true := by
  refine List.all_eq_true.mpr fun c hc => ?_
  have h := List.all_eq_true.mp h1 c hc
  rcases Bool.eq_false_or_eq_true (isCode c) with hi | hi
  · exact h2 c (List.mem_filter.mpr ⟨hc, hi⟩)
  · simpa [hi] using h
set_option maxRecDepth 65536 in
theorem w_c0 : (Jvm.Cond.code x code maxLocals ret).before args0 about1 = true := code_word (m := ⟨1, 1⟩) (meth := k1m1) (c := k1c1) (by decide +kernel) rfl rfl rfl (by decide +kernel)
set_option maxRecDepth 65536 in
theorem w_c1 : (Jvm.Cond.code ({ cls := "com/example/graded_queue/gradedqueue/sim/Host", name := "other", desc := "()Lcom/example/graded_queue/gradedqueue/sim/Host;" } : Jvm.MethodName) prog_61_method_4_code (1 : Nat) (Option.some (Jvm.ClassFile.FieldType.object "com/example/graded_queue/gradedqueue/sim/Host"))).before args0 about1 = true := code_word (m := ⟨6, 0⟩) (meth := k6m0) (c := k6c0) (by decide +kernel) rfl rfl rfl (by decide +kernel)
def codes1 : List Jvm.Cond := [Jvm.Cond.code x code maxLocals ret, Jvm.Cond.code ({ cls := "com/example/graded_queue/gradedqueue/sim/Host", name := "other", desc := "()Lcom/example/graded_queue/gradedqueue/sim/Host;" } : Jvm.MethodName) prog_61_method_4_code (1 : Nat) (Option.some (Jvm.ClassFile.FieldType.object "com/example/graded_queue/gradedqueue/sim/Host"))]
set_option maxRecDepth 65536 in
theorem codes_eq : words1.filter isCode = codes1 := rfl
theorem w_codes : ∀ c ∈ words1.filter isCode, c.before args0 about1 = true := by
  rw [codes_eq]
  intro c hc
  simp only [codes1, List.mem_cons, List.not_mem_nil, or_false] at hc
  rcases hc with rfl | rfl
  · exact w_c0
  · exact w_c1
set_option maxRecDepth 65536 in
theorem w_t1 : words1.all (fun c => isCode c || c.before args0 about1) = true := by decide +kernel
theorem w_tables : (allAtoms (Jvm.Cond.code x code maxLocals ret :: tables_1)).before args0 about1 = true := by
  rw [allAtoms_all]
  show words1.all (fun c => c.before args0 about1) = true
  refine all_split ?_ w_codes
  rw [w_t1]
set_option maxRecDepth 65536 in
theorem w_case : (Jvm.Cond.and given_1 narrow_1).before args0 about1 = true := by decide +kernel
theorem w_applies : (headSpec (Jvm.Cond.code x code maxLocals ret :: tables_1) room_1).applies x e0.platform about1 = true :=
  (Spec.applies_iff w_frames).mpr ⟨w_running, w_runnable, w_alone, w_named, w_hears, w_ripe, w_room, w_tables⟩
theorem atStart : AtStart classFile x code maxLocals ret World_1 tables_1 room_1 Calls_1 rest_1 Pre_1 launch0 p0 e0 about1 theMethod args0 below0 :=
  ⟨lists_1, trivial, launch0.admits_env _ _ _, launch0.least_env, fairChoices_fair.cas, fairChoices_fair.clock, w_frames, w_args, w_heap, w_applies, trivial, trivial, w_case⟩
end start1
theorem witness_1 : WitnessClaimed_1 := ⟨start1.p0, start1.e0, start1.about1, start1.theMethod, start1.args0, start1.below0, start1.atStart⟩
end Jvm.Pilot.@@N@@
