import JvmDerived
import JvmDerived.Pilot.@@N@@Statement
import JvmDerived.Pilot.@@N@@Code
set_option linter.unusedVariables false
set_option linter.unusedSimpArgs false
namespace Jvm.Pilot.@@N@@
open Jvm Jvm.ClassFile Sem Op Lib Jvm.Free Jvm.Stand Jvm.LawKit Jvm.RoadKit Bundle Jvm.Pilot.@@N@@.Jvm.D
/-! own words: where a body stands (own_C), how it ends (own_Ends), one step ahead of that (own_step), the returns -/
def own_C (cls : String) (code : ByteArray) (ml : Nat) (rt : Option FieldType) (nm : String) (p : Program) (s : State) (m : MethodId) (meth : Method) (c : Code) (Z : State) (a0 : Array Value) : Prop :=
  p.tables.exec = Jvm.exec ∧ Z.Warmed39 s.vm ∧ (∀ d ∈ tables_1, d.before a0 Z = true) ∧ c.code = code ∧ c.maxLocals = ml ∧ s.vm.findClass cls = some m.cls ∧ meth.sig.returnType = rt ∧ meth.locks = false ∧ meth.name = nm
def own_Q (n0 : Nat) (h0 : Heap) (w : Option Value) (v : Option Value) (h : Heap) (L : List Loc) : Prop := v = w ∧ Fr n0 L ∧ h = h0
def own_QL (n0 : Nat) (w : Option Value) (v : Option Value) (h : Heap) (L : List Loc) : Prop := v = w ∧ Fr n0 L ∧ True
def own_QR (n0 : Nat) (h0 : Heap) (v : Option Value) (h : Heap) (L : List Loc) : Prop := ∃ b : Addr, v = some (.ref b) ∧ Fr n0 L ∧ Keep h0 h []
def own_Ends (p : Program) (e : Env) (below : List Frame) (s : State) (kc ks : Nat) (Q : Option Value → Heap → List Loc → Prop) (T : State) (g : JFrame) : Prop :=
  ∃ s₂ o, Steps p.tables e below (T.setTop g) s₂ ∧ s₂.status = .running ∧ Ended s₂ below o ∧ ∃ v L, o = .returned v ∧ Q v s₂.heap L ∧ FrameEnd s o s₂ L kc ks
theorem own_step {p : Program} {e : Env} {below : List Frame} {s : State} {kc ks : Nat} {Q : Option Value → Heap → List Loc → Prop} {T T' : State} {g g' : JFrame}
    (st : ∀ target, Steps p.tables e below (T'.setTop g') target → Steps p.tables e below (T.setTop g) target) (h : own_Ends p e below s kc ks Q T' g') : own_Ends p e below s kc ks Q T g := by
  obtain ⟨s₂, o, h1, r⟩ := h
  exact ⟨s₂, o, st _ h1, r⟩
theorem own_mono {p : Program} {e : Env} {below : List Frame} {s : State} {kc ks : Nat} {Q Q' : Option Value → Heap → List Loc → Prop} {T : State} {g : JFrame} (h : own_Ends p e below s kc ks Q T g) (hq : ∀ v h L, Q v h L → Q' v h L) : own_Ends p e below s kc ks Q' T g := by
  obtain ⟨s₂, o, h1, h2, h3, v, L, h4, h5, h6⟩ := h
  exact ⟨s₂, o, h1, h2, h3, v, L, h4, hq _ _ _ h5, h6⟩
theorem own_nn {v : Value} (h : v.isRef = true) (q : ¬ v = .null) : ∃ y, v = .ref y := (ref_cases h).resolve_left q
theorem own_eqR {Z : State} {args : Array Value} {X F : Term} {idx : List Nat} {y : Addr} (hF : F.eval args Z none idx Z = some (.ref y)) (h : (Cond.eq X F).value args Z none Z idx = some true) : X.eval args Z none idx Z = some (.ref y) := by
  obtain ⟨x, y', e1, e2, k1, k2⟩ := cmp_v (Or.inl h)
  cases hF.symm.trans e2
  have hx : x.isRef = true := k2.2
  have := gotT (eq_R e1 hF hx rfl) h
  exact e1.trans (congrArg some this)
theorem own_lmod (x y : Int64) : x - (x / y) * y = x % y := by
  apply Int64.toInt_inj.mp
  have h1 := Int64.le_toInt (x % y)
  have h2 := Int64.toInt_lt (x % y)
  rw [Int64.toInt_sub, Int64.toInt_mul, Int64.toInt_div, Int.bmod_mul_bmod, Int.sub_bmod_bmod, Int.mul_comm (x.toInt.tdiv y.toInt), ← Int.tmod_def, ← Int64.toInt_mod]
  exact Int.bmod_eq_of_le_mul_two (by omega) (by omega)
theorem own_lremM {p : Program} {l : Launch} {e : Env} {R : Room} {s : State} {m : MethodId} {args : Array Value} {below : List Frame} {meth : Method} {c : Code} {T target : State} {locs : List Loc} {cells slots : Nat} {g : JFrame} (X : Stand p l e R s m args below meth c T locs cells slots) (hx : p.tables.exec = Jvm.exec) (hg : g.method = m) {x y : Int64} {rest : List Value} (hd : decode c.code g.pc = .ok (.lrem, 1)) (hs : g.stack = .long y :: .long x :: rest) (hy : y ≠ 0)
    (hr : Steps p.tables e below (T.setTop { g with pc := g.pc + 1, stack := .long (x % y) :: rest }) target) : Steps p.tables e below (T.setTop g) target :=
  XS.lrem X.here hx hg hd hs hy (by rw [own_lmod]; exact hr)
section OwnRet
variable {p : Program} {l : Launch} {e : Env} {R : Room} {s : State} {m : MethodId} {args : Array Value} {below : List Frame} {meth : Method} {c : Code} {T : State} {locs : List Loc} {cells slots : Nat} {kc ks : Nat} {Q : Option Value → Heap → List Loc → Prop}
theorem own_retO (X : Stand p l e R s m args below meth c T locs cells slots) (hx : p.tables.exec = Jvm.exec) {t : FieldType} (hret : meth.sig.returnType = some t) (hlk : meth.locks = false) {pc : Nat} {Ls : Array Slot} {w : Value} {i : Instr} {rest : List Value} (hn : narrow t w = w)
    (hi : (i = .ireturn ∧ (t = .int ∨ t = .boolean ∨ t = .byte ∨ t = .char ∨ t = .short) ∧ ∃ z, w = .int z) ∨ (i = .lreturn ∧ t = .long ∧ ∃ z, w = .long z) ∨ (i = .dreturn ∧ t = .double ∧ ∃ z, w = .double z) ∨ (i = .freturn ∧ t = .float ∧ ∃ z, w = .float z) ∨ (i = .areturn ∧ t.isReference = true ∧ w.isRef = true))
    (hd : decode c.code pc = .ok (i, 1)) (hc : cells ≤ kc) (hs : slots ≤ ks) (hQ : Q (some w) T.heap locs) : own_Ends p e below s kc ks Q T (mkF m pc Ls (w :: rest)) := by
  obtain ⟨fs, hr, hrun, hended, hW, hsame⟩ := X.leave (v := some w) (fun h => by rw [hret] at h; cases h) hlk
  exact ⟨_, _, retOut X hx hret hn hi hd hr, hrun, hended, _, _, rfl, hQ, ⟨_, rfl⟩, hW, hsame.mono hc hs⟩
theorem own_retI (X : Stand p l e R s m args below meth c T locs cells slots) (hx : p.tables.exec = Jvm.exec) (hret : meth.sig.returnType = some .int) (hlk : meth.locks = false) {pc : Nat} {Ls : Array Slot} {z : Int32} {rest : List Value}
    (hd : decode c.code pc = .ok (.ireturn, 1)) (hc : cells ≤ kc) (hs : slots ≤ ks) (hQ : Q (some (.int z)) T.heap locs) : own_Ends p e below s kc ks Q T (mkF m pc Ls (.int z :: rest)) :=
  own_retO X hx hret hlk rfl (Or.inl ⟨rfl, Or.inl rfl, z, rfl⟩) hd hc hs hQ
theorem own_retJ (X : Stand p l e R s m args below meth c T locs cells slots) (hx : p.tables.exec = Jvm.exec) (hret : meth.sig.returnType = some .long) (hlk : meth.locks = false) {pc : Nat} {Ls : Array Slot} {z : Int64} {rest : List Value}
    (hd : decode c.code pc = .ok (.lreturn, 1)) (hc : cells ≤ kc) (hs : slots ≤ ks) (hQ : Q (some (.long z)) T.heap locs) : own_Ends p e below s kc ks Q T (mkF m pc Ls (.long z :: rest)) :=
  own_retO X hx hret hlk rfl (Or.inr (Or.inl ⟨rfl, rfl, z, rfl⟩)) hd hc hs hQ
theorem own_retR (X : Stand p l e R s m args below meth c T locs cells slots) (hx : p.tables.exec = Jvm.exec) {t : FieldType} (hret : meth.sig.returnType = some t) (hlk : meth.locks = false) {pc : Nat} {Ls : Array Slot} {w : Value} {rest : List Value}
    (hd : decode c.code pc = .ok (.areturn, 1)) (hc : cells ≤ kc) (hs : slots ≤ ks) (ht : t.isReference = true) (hw : w.isRef = true) (hQ : Q (some w) T.heap locs) : own_Ends p e below s kc ks Q T (mkF m pc Ls (w :: rest)) :=
  own_retO X hx hret hlk (by cases t <;> first | rfl | cases ht) (Or.inr (Or.inr (Or.inr (Or.inr ⟨rfl, ht, hw⟩)))) hd hc hs hQ
theorem own_retN (X : Stand p l e R s m args below meth c T locs cells slots) {t : FieldType} (hx : p.tables.exec = Jvm.exec) (hret : meth.sig.returnType = some t) (hlk : meth.locks = false) {pc : Nat} {Ls : Array Slot} {z : Int32} {rest : List Value}
    (hd : decode c.code pc = .ok (.ireturn, 1)) (hc : cells ≤ kc) (hs : slots ≤ ks) (ht : t = .boolean ∨ t = .byte ∨ t = .char ∨ t = .short) (hQ : Q (some (.int (nar t z))) T.heap locs) : own_Ends p e below s kc ks Q T (mkF m pc Ls (.int z :: rest)) := by
  obtain ⟨fs, hr, hrun, hended, hW, hsame⟩ := X.leave (v := some (.int (nar t z))) (fun h => by rw [hret] at h; cases h) hlk
  exact ⟨_, _, retN X hx hret ht hd hr, hrun, hended, _, _, rfl, hQ, ⟨_, rfl⟩, hW, hsame.mono hc hs⟩
theorem own_retV (X : Stand p l e R s m args below meth c T locs cells slots) (hx : p.tables.exec = Jvm.exec) (hret : meth.sig.returnType = none) (hlk : meth.locks = false) {pc : Nat} {Ls : Array Slot}
    (hd : decode c.code pc = .ok (.return_, 1)) (hc : cells ≤ kc) (hs : slots ≤ ks) (hQ : Q none T.heap locs) : own_Ends p e below s kc ks Q T (mkF m pc Ls []) := by
  obtain ⟨fs, hr, hrun, hended, hW, hsame⟩ := X.leave (v := none) (fun _ => rfl) hlk
  exact ⟨_, _, X.returnOut hx hret hd hr, hrun, hended, _, _, rfl, hQ, ⟨_, rfl⟩, hW, hsame.mono hc hs⟩
end OwnRet
/-! the same for a body that may load String constants (the wide frame) -/
def own_EndsW (p : Program) (e : Env) (below : List Frame) (s : State) (kc ks : Nat) (Q : Option Value → Heap → List Loc → Prop) (T : State) (g : JFrame) : Prop :=
  ∃ s₂ o, Steps p.tables e below (T.setTop g) s₂ ∧ s₂.status = .running ∧ Ended s₂ below o ∧ ∃ v L, o = .returned v ∧ Q v s₂.heap L ∧ ReturnedEndW s o s₂ L kc ks
theorem own_stepW {p : Program} {e : Env} {below : List Frame} {s : State} {kc ks : Nat} {Q : Option Value → Heap → List Loc → Prop} {T T' : State} {g g' : JFrame}
    (st : ∀ target, Steps p.tables e below (T'.setTop g') target → Steps p.tables e below (T.setTop g) target) (h : own_EndsW p e below s kc ks Q T' g') : own_EndsW p e below s kc ks Q T g := by
  obtain ⟨s₂, o, h1, r⟩ := h
  exact ⟨s₂, o, st _ h1, r⟩
section OwnRetW
variable {p : Program} {l : Launch} {e : Env} {R : Room} {s : State} {vm0 : Vm} {k0 : Nat} {m : MethodId} {args : Array Value} {below : List Frame} {meth : Method} {c : Code} {T : State} {locs : List Loc} {cells slots : Nat} {kc ks : Nat} {Q : Option Value → Heap → List Loc → Prop}
theorem own_retOW (X : Stand p l e R (s.setVm vm0) m args below meth c T locs cells slots) (hS : s.Since vm0 k0) (hk : k0 ≤ T.heap.size) (hx : p.tables.exec = Jvm.exec) {t : FieldType} (hret : meth.sig.returnType = some t) (hlk : meth.locks = false) {pc : Nat} {Ls : Array Slot} {w : Value} {i : Instr} {rest : List Value} (hn : narrow t w = w)
    (hi : (i = .ireturn ∧ (t = .int ∨ t = .boolean ∨ t = .byte ∨ t = .char ∨ t = .short) ∧ ∃ z, w = .int z) ∨ (i = .lreturn ∧ t = .long ∧ ∃ z, w = .long z) ∨ (i = .dreturn ∧ t = .double ∧ ∃ z, w = .double z) ∨ (i = .freturn ∧ t = .float ∧ ∃ z, w = .float z) ∨ (i = .areturn ∧ t.isReference = true ∧ w.isRef = true))
    (hd : decode c.code pc = .ok (i, 1)) (hc : cells ≤ kc) (hs : slots ≤ ks) (hQ : Q (some w) T.heap locs) : own_EndsW p e below s kc ks Q T (mkF m pc Ls (w :: rest)) := by
  obtain ⟨fs, hr, hrun, hended, e1, e2, e3, e4⟩ := X.leaveW hS hk (v := some w) (fun h => by rw [hret] at h; cases h) hlk
  exact ⟨_, _, retOut X hx hret hn hi hd hr, hrun, hended, _, _, rfl, hQ, e1, e2, e3, e4.mono hc hs⟩
theorem own_retRW (X : Stand p l e R (s.setVm vm0) m args below meth c T locs cells slots) (hS : s.Since vm0 k0) (hk : k0 ≤ T.heap.size) (hx : p.tables.exec = Jvm.exec) {t : FieldType} (hret : meth.sig.returnType = some t) (hlk : meth.locks = false) {pc : Nat} {Ls : Array Slot} {w : Value} {rest : List Value}
    (hd : decode c.code pc = .ok (.areturn, 1)) (hc : cells ≤ kc) (hs : slots ≤ ks) (ht : t.isReference = true) (hw : w.isRef = true) (hQ : Q (some w) T.heap locs) : own_EndsW p e below s kc ks Q T (mkF m pc Ls (w :: rest)) :=
  own_retOW X hS hk hx hret hlk (by cases t <;> first | rfl | cases ht) (Or.inr (Or.inr (Or.inr (Or.inr ⟨rfl, ht, hw⟩)))) hd hc hs hQ
theorem own_retNW (X : Stand p l e R (s.setVm vm0) m args below meth c T locs cells slots) (hS : s.Since vm0 k0) (hk : k0 ≤ T.heap.size) {t : FieldType} (hx : p.tables.exec = Jvm.exec) (hret : meth.sig.returnType = some t) (hlk : meth.locks = false) {pc : Nat} {Ls : Array Slot} {z : Int32} {rest : List Value}
    (hd : decode c.code pc = .ok (.ireturn, 1)) (hc : cells ≤ kc) (hs : slots ≤ ks) (ht : t = .boolean ∨ t = .byte ∨ t = .char ∨ t = .short) (hQ : Q (some (.int (nar t z))) T.heap locs) : own_EndsW p e below s kc ks Q T (mkF m pc Ls (.int z :: rest)) := by
  obtain ⟨fs, hr, hrun, hended, e1, e2, e3, e4⟩ := X.leaveW hS hk (v := some (.int (nar t z))) (fun h => by rw [hret] at h; cases h) hlk
  exact ⟨_, _, retN X hx hret ht hd hr, hrun, hended, _, _, rfl, hQ, e1, e2, e3, e4.mono hc hs⟩
end OwnRetW

theorem own_xt {h h' h2 : Heap} (A : Ext h h') (B : Ext h' h2) : Ext h h2 := ⟨Nat.le_trans A.1 B.1, fun a c q => B.2 a c (A.2 a c q)⟩
theorem own_wS {Z : State} {a0 : Array Value} (hw : ∀ d ∈ tables_1, d.before a0 Z = true) : ∀ a ∈ Bundle.stringAtoms, a.before a0 Z = true := fun a ha => by
  simp only [Bundle.stringAtoms, List.mem_cons, List.not_mem_nil, or_false] at ha
  rcases ha with rfl | rfl | rfl | rfl | rfl | rfl | rfl
  · exact hw _ (List.mem_of_getElem? (i := 5) rfl)
  · exact hw _ (List.mem_of_getElem? (i := 6) rfl)
  · exact hw _ (List.mem_of_getElem? (i := 7) rfl)
  · exact hw _ (List.mem_of_getElem? (i := 8) rfl)
  · exact hw _ (List.mem_of_getElem? (i := 9) rfl)
  · exact hw _ (List.mem_of_getElem? (i := 10) rfl)
  · exact hw _ (List.mem_of_getElem? (i := 11) rfl)

theorem pn_0 : plainName "java/lang/Number" = true := by first | (simp [plainName, overriddenIn]; done) | decide +kernel
theorem pd_0 : parseMethodDescriptor "()V" = some ⟨[], none⟩ := by decide +kernel
theorem pn_1 : plainName "java/lang/Integer" = true := by first | (simp [plainName, overriddenIn]; done) | decide +kernel
theorem pd_1 : parseMethodDescriptor "(I)V" = some ⟨[.int], none⟩ := by decide +kernel
theorem pn_2 : plainName "com/example/tideshift/tideshift/Result" = true := by first | (simp [plainName, overriddenIn]; done) | decide +kernel
theorem pd_2 : parseMethodDescriptor "(I)Ljava/lang/Integer;" = some ⟨[.int], some (.object "java/lang/Integer")⟩ := by decide +kernel
theorem pd_3 : parseMethodDescriptor "(JJLjava/lang/String;Ljava/lang/Object;)V" = some ⟨[.long, .long, (.object "java/lang/String"), (.object "java/lang/Object")], none⟩ := by decide +kernel
theorem pd_4 : parseMethodDescriptor "()Z" = some ⟨[], some .boolean⟩ := by decide +kernel
theorem pn_3 : plainName "com/example/tideshift/tideshift/ResultSpansWholeStreamPinLaw" = true := by first | (simp [plainName, overriddenIn]; done) | decide +kernel
theorem d6_0 : decode jdk_18_method_1_code 0 = .ok (.aload_n 0, 1) := by decide +kernel
theorem d6_1 : decode jdk_18_method_1_code 1 = .ok (.invokespecial 1, 3) := by decide +kernel
theorem d6_4 : decode jdk_18_method_1_code 4 = .ok (.return_, 1) := by decide +kernel
set_option maxRecDepth 65536 in
set_option maxHeartbeats 40000000 in
theorem b6_0 {p : Program} {l : Launch} {e : Env} {s : State} {m : MethodId} {args : Array Value} {below : List Frame} {meth : Method} {c : Code} {Z : State} {a0 : Array Value} {h0 : Heap} {n0 : Nat} (C : own_C "java/lang/Number" jdk_18_method_1_code 1 none "<init>" p s m meth c Z a0) (Z0 : n0 ≤ h0.size) {T0 : State} {locs : List Loc} (X0 : Stand p l e ({ frames := 1, cells := 0, slots := 0, locals := 12 } : Room) s m args below meth c T0 locs 0 0) (e0 : T0.heap = h0) (N0 : Fr n0 locs) (o0 : Addr) :
    own_Ends p e below s ({ frames := 1, cells := 0, slots := 0, locals := 12 } : Room).cells ({ frames := 1, cells := 0, slots := 0, locals := 12 } : Room).slots (own_Q n0 h0 none) T0 (mkF m 0 #[.val (.ref o0)] []) := by
  obtain ⟨hx, hZ, hw, hby, hml, hown, hret, hlk, hnm⟩ := C
  have C : own_C "java/lang/Number" jdk_18_method_1_code 1 none "<init>" p s m meth c Z a0 := ⟨hx, hZ, hw, hby, hml, hown, hret, hlk, hnm⟩
  refine own_step (fun _ => XS.aloadN X0.here hx rfl (hb hby d6_0) rfl rfl) ?_
  show own_Ends p e below s _ _ _ T0 (mkF m 1 #[.val (.ref o0)] [(.ref o0)])
  obtain ⟨T2, X2, e2, st2⟩ := initO X0 hx hZ hown (hw _ (List.mem_of_getElem? (i := 52) rfl)) (hw _ (List.mem_of_getElem? (i := 23) rfl)) (hw _ (List.mem_of_getElem? (i := 24) rfl)) e0 (g := (mkF m 1 #[.val (.ref o0)] [(.ref o0)])) rfl (by rw [hml]; rfl) rfl (hb hby d6_1) (by decide) (W := 0) (by show 2 * 0 + _ ≤ _; exact Nat.le_of_eq rfl) (by decide)
  refine own_step st2 ?_
  show own_Ends p e below s _ _ _ T2 (mkF m 4 #[.val (.ref o0)] [])
  exact own_retV X2 hx hret hlk (hb hby d6_4) (by decide) (by decide) ⟨rfl, N0, e2⟩
theorem ef_rm6 (m : MethodId) (o0 : Addr) : entryFrame m #[(.ref o0)] 1 = mkF m 0 #[.val (.ref o0)] [] := by first | (simp [entryFrame, mkF, argsToLocals, Value.category]; done) | rfl
set_option maxRecDepth 65536 in
set_option maxHeartbeats 40000000 in
theorem rm6 (l : Launch) (Z : State) (a0 : Array Value) (hw : ∀ d ∈ tables_1, d.before a0 Z = true) (ws : List Jvm.Cond) (o0 : Addr) (h0 : Heap) (n0 : Nat) (Z0 : n0 ≤ h0.size) :
    MetFree l (⟨"java/lang/Number", "<init>", "()V"⟩ : MethodName) (head1 (Jvm.Cond.code (⟨"java/lang/Number", "<init>", "()V"⟩ : MethodName) jdk_18_method_1_code 1 none :: ws) ({ frames := 1, cells := 0, slots := 0, locals := 12 } : Room)) (fun a U => a = #[(.ref o0)] ∧ Z.Warmed39 U.vm ∧ U.heap = h0) (fun _ _ _ _ _ => True) (fun _ U o U' => ∃ v L, o = .returned v ∧ (own_Q n0 h0 none) v U'.heap L ∧ FrameEnd U o U' L ({ frames := 1, cells := 0, slots := 0, locals := 12 } : Room).cells ({ frames := 1, cells := 0, slots := 0, locals := 12 } : Room).slots) := by
  refine MetFree.of_bodySF (plainFor_of_name pn_0) hisR ?_
  intro p e s m args below meth c s₁ Bd hml0 hP hK
  obtain ⟨rfl, hZ, hh⟩ := hP
  have X0 : Stand p l e ({ frames := 1, cells := 0, slots := 0, locals := 12 } : Room) s m #[(.ref o0)] below meth c s₁ [] 0 0 := Stand.of_body Bd
  have e0 : s₁.heap = h0 := by rw [← hh, Bd.state]; rfl
  have C : own_C "java/lang/Number" jdk_18_method_1_code 1 none "<init>" p s m meth c Z a0 := ⟨Bd.exec, hZ, hw, Bd.bytes, hml0, findClass_of_methodNamed Bd.named, Bd.returns, Bd.notSynchronized, (name_of_methodNamed Bd.named Bd.method).1⟩
  have r := b6_0 C Z0 X0 e0 (Fr.nil n0) o0
  rw [ef_rm6 m o0]
  exact r
def own_QI (Z : State) (n0 : Nat) (h0 : Heap) (o0 : Addr) (w : Value) (v : Option Value) (h : Heap) (L : List Loc) : Prop :=
  v = none ∧ Fr n0 L ∧ Keep h0 h [o0] ∧ Exa Z h o0 "java/lang/Integer" ∧ Fld Z h o0 "java/lang/Integer" "value" "I" w
def own_QB (Z : State) (n0 : Nat) (h0 : Heap) (w : Value) (v : Option Value) (h : Heap) (L : List Loc) : Prop :=
  ∃ b : Addr, v = some (.ref b) ∧ Fr n0 L ∧ Keep h0 h [] ∧ Exa Z h b "java/lang/Integer" ∧ Fld Z h b "java/lang/Integer" "value" "I" w
theorem d5_0 : decode jdk_33_method_23_code 0 = .ok (.aload_n 0, 1) := by decide +kernel
theorem d5_1 : decode jdk_33_method_23_code 1 = .ok (.invokespecial 202, 3) := by decide +kernel
theorem d5_4 : decode jdk_33_method_23_code 4 = .ok (.aload_n 0, 1) := by decide +kernel
theorem d5_5 : decode jdk_33_method_23_code 5 = .ok (.iload_n 1, 1) := by decide +kernel
theorem d5_6 : decode jdk_33_method_23_code 6 = .ok (.putfield 205, 3) := by decide +kernel
theorem d5_9 : decode jdk_33_method_23_code 9 = .ok (.return_, 1) := by decide +kernel
set_option maxRecDepth 65536 in
set_option maxHeartbeats 40000000 in
theorem b5_0 {p : Program} {l : Launch} {e : Env} {s : State} {m : MethodId} {args : Array Value} {below : List Frame} {meth : Method} {c : Code} {Z : State} {a0 : Array Value} {h0 : Heap} {n0 : Nat} (C : own_C "java/lang/Integer" jdk_33_method_23_code 2 none "<init>" p s m meth c Z a0) (Z0 : n0 ≤ h0.size) {T0 : State} {locs : List Loc} (X0 : Stand p l e ({ frames := 2, cells := 0, slots := 0, locals := 24 } : Room) s m args below meth c T0 locs 0 0) (e0 : T0.heap = h0) (N0 : Fr n0 locs) (o0 : Addr) (i1 : Int32) (Eo : Exa Z h0 o0 "java/lang/Integer") (Fv : Fld Z h0 o0 "java/lang/Integer" "value" "I" (.int 0)) (g_o0 : n0 ≤ o0) :
    own_Ends p e below s ({ frames := 2, cells := 0, slots := 0, locals := 24 } : Room).cells ({ frames := 2, cells := 0, slots := 0, locals := 24 } : Room).slots (own_QI Z n0 h0 o0 (.int i1)) T0 (mkF m 0 #[.val (.ref o0), .val (.int i1)] []) := by
  obtain ⟨hx, hZ, hw, hby, hml, hown, hret, hlk, hnm⟩ := C
  have C : own_C "java/lang/Integer" jdk_33_method_23_code 2 none "<init>" p s m meth c Z a0 := ⟨hx, hZ, hw, hby, hml, hown, hret, hlk, hnm⟩
  refine own_step (fun _ => XS.aloadN X0.here hx rfl (hb hby d5_0) rfl rfl) ?_
  show own_Ends p e below s _ _ _ T0 (mkF m 1 #[.val (.ref o0), .val (.int i1)] [(.ref o0)])
  obtain ⟨_, _, ⟨T3, L3, k3, n3⟩, -, X3, ⟨Lc3, hQ3, l3, y3, z3⟩, st3⟩ := X0.specialBack hx (y := (⟨"java/lang/Number", "<init>", "()V"⟩ : MethodName)) rfl hown (mvT hZ (hw _ (List.mem_of_getElem? (i := 46) rfl))) (mvT hZ (hw _ (List.mem_of_getElem? (i := 47) rfl))) (mvT hZ (hw _ (List.mem_of_getElem? (i := 51) rfl))) (by decide) (backOf (W := 0) (rm6 l Z a0 hw [] o0 h0 n0 Z0) hZ (hw _ (List.mem_of_getElem? (i := 51) rfl)) (hw _ (List.mem_of_getElem? (i := 50) rfl)) (by decide) (by decide)) (g := (mkF m 1 #[.val (.ref o0), .val (.int i1)] [(.ref o0)])) rfl (by rw [hml]; rfl) (Steps.refl _) (a := o0) (argsL := []) (rest := []) (lenOf pd_0 rfl) rfl (by show 2 * 0 + _ ≤ _; exact Nat.le_of_eq rfl) (hb hby d5_1) (fun _ _ => ⟨rfl, e0, (by decide : 0 + 0 ≤ _), (by decide : 0 + 0 ≤ _)⟩)
  dsimp only [Pt.U, Pt.locs, Pt.cells, Pt.slots] at X3 l3 y3 z3 st3 hQ3
  subst l3 y3 z3
  obtain ⟨rfl, N3q, hh3⟩ := hQ3
  have N3 := Fr.app N0 N3q
  refine own_step (fun _ => st3.trans) ?_
  show own_Ends p e below s _ _ _ T3 (mkF m 4 #[.val (.ref o0), .val (.int i1)] [])
  refine own_step (fun _ => XS.aloadN X3.here hx rfl (hb hby d5_4) rfl rfl) ?_
  show own_Ends p e below s _ _ _ T3 (mkF m 5 #[.val (.ref o0), .val (.int i1)] [(.ref o0)])
  refine own_step (fun _ => XS.iloadN X3.here hx rfl (hb hby d5_5) rfl) ?_
  show own_Ends p e below s _ _ _ T3 (mkF m 6 #[.val (.ref o0), .val (.int i1)] [(.int i1), (.ref o0)])
  obtain ⟨T4, h4, X4, e4, W4, st4⟩ := putF X3 hx hZ hown (host := "") (Or.inl (hw _ (List.mem_of_getElem? (i := 53) rfl))) Via.refl hh3 Fv Eo (Or.inr ⟨(hw _ (List.mem_of_getElem? (i := 54) rfl)), rfl, hnm⟩) (hw _ (List.mem_of_getElem? (i := 41) rfl)) (ty := .int) (by decide) rfl rfl (g := (mkF m 6 #[.val (.ref o0), .val (.int i1)] [(.int i1), (.ref o0)])) rfl rfl (hb hby d5_6)
  have Fw4 := Fv.same W4
  have K4 : Keep h0 h4 [o0] := (Keep.refl h0 [o0]).wr W4 (Or.inl (List.mem_of_getElem? (i := 0) rfl))
  have Zs4 : n0 ≤ h4.size := (by rw [W4.size]; exact Z0)
  have N4 := Fr.snoc X4 N3 g_o0
  refine own_step st4 ?_
  show own_Ends p e below s _ _ _ T4 (mkF m 9 #[.val (.ref o0), .val (.int i1)] [])
  exact own_retV X4 hx hret hlk (hb hby d5_9) (by decide) (by decide) ⟨rfl, N4, (show _ from by rw [e4]; exact K4), (show _ from by rw [e4]; exact (Eo.wr W4)), (show _ from by rw [e4]; exact Fw4)⟩
theorem ef_rm5 (m : MethodId) (o0 : Addr) (i1 : Int32) : entryFrame m #[(.ref o0), (.int i1)] 2 = mkF m 0 #[.val (.ref o0), .val (.int i1)] [] := by first | (simp [entryFrame, mkF, argsToLocals, Value.category]; done) | rfl
set_option maxRecDepth 65536 in
set_option maxHeartbeats 40000000 in
theorem rm5 (l : Launch) (Z : State) (a0 : Array Value) (hw : ∀ d ∈ tables_1, d.before a0 Z = true) (ws : List Jvm.Cond) (o0 : Addr) (i1 : Int32) (h0 : Heap) (n0 : Nat) (Z0 : n0 ≤ h0.size) (Eo : Exa Z h0 o0 "java/lang/Integer") (Fv : Fld Z h0 o0 "java/lang/Integer" "value" "I" (.int 0)) (g_o0 : n0 ≤ o0) :
    MetFree l (⟨"java/lang/Integer", "<init>", "(I)V"⟩ : MethodName) (head1 (Jvm.Cond.code (⟨"java/lang/Integer", "<init>", "(I)V"⟩ : MethodName) jdk_33_method_23_code 2 none :: ws) ({ frames := 2, cells := 0, slots := 0, locals := 24 } : Room)) (fun a U => a = #[(.ref o0), (.int i1)] ∧ Z.Warmed39 U.vm ∧ U.heap = h0) (fun _ _ _ _ _ => True) (fun _ U o U' => ∃ v L, o = .returned v ∧ (own_QI Z n0 h0 o0 (.int i1)) v U'.heap L ∧ FrameEnd U o U' L ({ frames := 2, cells := 0, slots := 0, locals := 24 } : Room).cells ({ frames := 2, cells := 0, slots := 0, locals := 24 } : Room).slots) := by
  refine MetFree.of_bodySF (plainFor_of_name pn_1) hisR ?_
  intro p e s m args below meth c s₁ Bd hml0 hP hK
  obtain ⟨rfl, hZ, hh⟩ := hP
  have X0 : Stand p l e ({ frames := 2, cells := 0, slots := 0, locals := 24 } : Room) s m #[(.ref o0), (.int i1)] below meth c s₁ [] 0 0 := Stand.of_body Bd
  have e0 : s₁.heap = h0 := by rw [← hh, Bd.state]; rfl
  have C : own_C "java/lang/Integer" jdk_33_method_23_code 2 none "<init>" p s m meth c Z a0 := ⟨Bd.exec, hZ, hw, Bd.bytes, hml0, findClass_of_methodNamed Bd.named, Bd.returns, Bd.notSynchronized, (name_of_methodNamed Bd.named Bd.method).1⟩
  have r := b5_0 C Z0 X0 e0 (Fr.nil n0) o0 i1 Eo Fv g_o0
  rw [ef_rm5 m o0 i1]
  exact r
theorem own_in256 {x : Int32} (h1 : ¬ x < (-128 : Int32)) (h2 : ¬ (127 : Int32) < x) : ¬ (x + (128 : Int32)) < 0 ∧ (x + (128 : Int32)) < (256 : Int32) := by
  rw [Int32.lt_iff_toInt_lt] at h1 h2
  have d1 : (-128 : Int32).toInt = -128 := rfl
  have d2 : (127 : Int32).toInt = 127 := rfl
  have e0 : (0 : Int32).toInt = 0 := rfl
  have e1 : (128 : Int32).toInt = 128 := rfl
  have e2 : (256 : Int32).toInt = 256 := rfl
  have e3 : (x + (128 : Int32)).toInt = x.toInt + 128 := by rw [Int32.toInt_add, e1]; exact Int.bmod_eq_of_le (by simp; omega) (by simp; omega)
  rw [Int32.lt_iff_toInt_lt, Int32.lt_iff_toInt_lt, e3, e0, e2]; omega
theorem own_bxv {x : Int32} (h1 : ¬ x < (-128 : Int32)) (h2 : ¬ (127 : Int32) < x) : Value.int ((x + (128 : Int32)) - 128) = .int x := by
  rw [Int32.add_sub_cancel]
theorem own_len2 {s : State} {args : Array Value} {t : Term} {w : Addr} {cl : Cell} {z : Int32} (ew : t.eval args s none [] s = some (.ref w)) (hA : s.arrayAt? w = some cl) (e : (Term.length t).eval args s none [] s = some (.int z)) : cl.slots.size < 2 ^ 31 ∧ cl.slots.size.toInt32 = z := by
  simp only [Term.eval] at e
  simp [ew, hA] at e
  exact e
theorem own_cache {s : State} {args : Array Value} (hw : ∀ d ∈ tables_1, d.before args s = true) (hS : ∀ d ∈ jdkStatics_1, d.before args s = true) : ∃ (wc : Addr) (cw : Cell), Sta s s.heap "java/lang/Integer$IntegerCache" "cache" "[Ljava/lang/Integer;" (.ref wc) ∧ Sta s s.heap "java/lang/Integer$IntegerCache" "high" "I" (.int 127) ∧ Bxs s wc cw "java/lang/Integer" "I" (256 : Int32) (fun j => .int (j - 128)) := by
  have h3 := Cond.before_iff.mp (hS _ (List.mem_of_getElem? (i := 3) rfl))
  have h4 := Cond.before_iff.mp (hS _ (List.mem_of_getElem? (i := 4) rfl))
  have h6 := Cond.before_iff.mp (hS _ (List.mem_of_getElem? (i := 6) rfl))
  have h7 := Cond.before_iff.mp (hS _ (List.mem_of_getElem? (i := 7) rfl))
  obtain ⟨wc, ew⟩ := arr_v h4
  obtain ⟨cw, A⟩ := Arr.start ew h4
  have e6 := eqv_i (Term.int_eval (256 : Int32)) h6
  have hA : s.arrayAt? wc = some cw := A.fin (Vm.Alike.refl _)
  have hsz := own_len2 ew hA e6
  refine ⟨wc, cw, Sta.start ew (Or.inr ⟨hw _ (List.mem_of_getElem? (i := 17) rfl), hS _ (List.mem_of_getElem? (i := 2) rfl)⟩), Sta.start (eqv_i (Term.int_eval (127 : Int32)) h3) (Or.inl (hS _ (List.mem_of_getElem? (i := 1) rfl))), Bxs.start (fun idx => by simpa only [Term.eval] using ew) A hsz.1 hsz.2 (by decide) h7 (fun X j hj hq => eqv_i ?_ hq)⟩
  simp [Term.eval]
  exact (back32 hj).1

theorem d1_0 : decode jdk_33_method_22_code 0 = .ok (.iload_n 0, 1) := by decide +kernel
theorem d1_1 : decode jdk_33_method_22_code 1 = .ok (.bipush (-128), 2) := by decide +kernel
theorem d1_3 : decode jdk_33_method_22_code 3 = .ok (.if_icmp .lt 20, 3) := by decide +kernel
theorem d1_6 : decode jdk_33_method_22_code 6 = .ok (.iload_n 0, 1) := by decide +kernel
theorem d1_7 : decode jdk_33_method_22_code 7 = .ok (.getstatic 191, 3) := by decide +kernel
theorem d1_10 : decode jdk_33_method_22_code 10 = .ok (.if_icmp .gt 13, 3) := by decide +kernel
theorem d1_13 : decode jdk_33_method_22_code 13 = .ok (.getstatic 195, 3) := by decide +kernel
theorem d1_16 : decode jdk_33_method_22_code 16 = .ok (.iload_n 0, 1) := by decide +kernel
theorem d1_17 : decode jdk_33_method_22_code 17 = .ok (.sipush 128, 3) := by decide +kernel
theorem d1_20 : decode jdk_33_method_22_code 20 = .ok (.iadd, 1) := by decide +kernel
theorem d1_21 : decode jdk_33_method_22_code 21 = .ok (.aaload, 1) := by decide +kernel
theorem d1_22 : decode jdk_33_method_22_code 22 = .ok (.areturn, 1) := by decide +kernel
theorem d1_23 : decode jdk_33_method_22_code 23 = .ok (.new 1, 3) := by decide +kernel
theorem d1_26 : decode jdk_33_method_22_code 26 = .ok (.dup, 1) := by decide +kernel
theorem d1_27 : decode jdk_33_method_22_code 27 = .ok (.iload_n 0, 1) := by decide +kernel
theorem d1_28 : decode jdk_33_method_22_code 28 = .ok (.invokespecial 199, 3) := by decide +kernel
theorem d1_31 : decode jdk_33_method_22_code 31 = .ok (.areturn, 1) := by decide +kernel
set_option maxRecDepth 65536 in
set_option maxHeartbeats 40000000 in
theorem b1_0 {p : Program} {l : Launch} {e : Env} {s : State} {m : MethodId} {args : Array Value} {below : List Frame} {meth : Method} {c : Code} {Z : State} {a0 : Array Value} {h0 : Heap} {n0 : Nat} (C : own_C "java/lang/Integer" jdk_33_method_22_code 1 (some (.object "java/lang/Integer")) "valueOf" p s m meth c Z a0) (Z0 : n0 ≤ h0.size) {T0 : State} {locs : List Loc} (X0 : Stand p l e ({ frames := 3, cells := 1, slots := 1, locals := 38 } : Room) s m args below meth c T0 locs 0 0) (e0 : T0.heap = h0) (N0 : Fr n0 locs) (i0 : Int32) (wc : Addr) (cw : Cell) (Sc : Sta Z h0 "java/lang/Integer$IntegerCache" "cache" "[Ljava/lang/Integer;" (.ref wc)) (hE : Ext Z.heap h0) (Sh : Sta Z h0 "java/lang/Integer$IntegerCache" "high" "I" (.int 127)) (Bx : Bxs Z wc cw "java/lang/Integer" "I" (256 : Int32) (fun j => .int (j - 128))) :
    own_Ends p e below s ({ frames := 3, cells := 1, slots := 1, locals := 38 } : Room).cells ({ frames := 3, cells := 1, slots := 1, locals := 38 } : Room).slots (own_QB Z n0 h0 (.int i0)) T0 (mkF m 0 #[.val (.int i0)] []) := by
  obtain ⟨hx, hZ, hw, hby, hml, hown, hret, hlk, hnm⟩ := C
  have C : own_C "java/lang/Integer" jdk_33_method_22_code 1 (some (.object "java/lang/Integer")) "valueOf" p s m meth c Z a0 := ⟨hx, hZ, hw, hby, hml, hown, hret, hlk, hnm⟩
  refine own_step (fun _ => XS.iloadN X0.here hx rfl (hb hby d1_0) rfl) ?_
  show own_Ends p e below s _ _ _ T0 (mkF m 1 #[.val (.int i0)] [(.int i0)])
  refine own_step (fun _ => XS.bipush X0.here hx rfl (hb hby d1_1)) ?_
  show own_Ends p e below s _ _ _ T0 (mkF m 3 #[.val (.int i0)] [(.int (-128 : Int32)), (.int i0)])
  by_cases hc3 : i0 < (-128 : Int32)
  · refine own_step (fun _ => XS.icmpYes X0.here hx rfl (pc0 := 3) (pc' := 23) rfl (hb hby d1_3) rfl (tlt hc3).1 (by decide) (by decide)) ?_
    show own_Ends p e below s _ _ _ T0 (mkF m 23 #[.val (.int i0)] [])
    obtain ⟨T7, h7, X7, e7, E7, A7, D7, U7, st7⟩ := newO X0 hx hZ hown (hw _ (List.mem_of_getElem? (i := 40) rfl)) (hw _ (List.mem_of_getElem? (i := 41) rfl)) (hw _ (List.mem_of_getElem? (i := 14) rfl)) e0 (g := (mkF m 23 #[.val (.int i0)] [])) rfl (hb hby d1_23) (by decide) (by decide)
    obtain ⟨b7, g7⟩ : ∃ z, z = h0.size := ⟨_, rfl⟩
    rw [← g7] at A7 D7 U7 st7
    have g_b7 : n0 ≤ b7 := Nat.le_trans Z0 (Nat.le_of_eq g7.symm)
    have sz_b7 : h0.size ≤ b7 := Nat.le_trans (Keep.refl h0 []).1 (Nat.le_of_eq g7.symm)
    have K7 : Keep h0 h7 [] := (Keep.refl h0 []).ext E7
    have Zs7 : n0 ≤ h7.size := Nat.le_trans Z0 E7.1
    have F7_value : Fld Z h7 b7 "java/lang/Integer" "value" "I" (.int (0 : Int32)) := D7 (Or.inr (hw _ (List.mem_of_getElem? (i := 54) rfl))) (ty := .int) (by decide)
    refine own_step st7 ?_
    show own_Ends p e below s _ _ _ T7 (mkF m 26 #[.val (.int i0)] [(.ref b7)])
    refine own_step (fun _ => XS.dup X7.here hx rfl (hb hby d1_26) rfl rfl) ?_
    show own_Ends p e below s _ _ _ T7 (mkF m 27 #[.val (.int i0)] [(.ref b7), (.ref b7)])
    refine own_step (fun _ => XS.iloadN X7.here hx rfl (hb hby d1_27) rfl) ?_
    show own_Ends p e below s _ _ _ T7 (mkF m 28 #[.val (.int i0)] [(.int i0), (.ref b7), (.ref b7)])
    obtain ⟨_, _, ⟨T8, L8, k8, n8⟩, -, X8, ⟨Lc8, hQ8, l8, y8, z8⟩, st8⟩ := X7.specialBack hx (y := (⟨"java/lang/Integer", "<init>", "(I)V"⟩ : MethodName)) rfl hown (mvT hZ (hw _ (List.mem_of_getElem? (i := 42) rfl))) (mvT hZ (hw _ (List.mem_of_getElem? (i := 43) rfl))) (mvT hZ (hw _ (List.mem_of_getElem? (i := 45) rfl))) (by decide) (backOf (W := 1) (rm5 l Z a0 hw [] b7 i0 h7 n0 Zs7 A7 F7_value g_b7) hZ (hw _ (List.mem_of_getElem? (i := 45) rfl)) (hw _ (List.mem_of_getElem? (i := 14) rfl)) (by decide) (by decide)) (g := (mkF m 28 #[.val (.int i0)] [(.int i0), (.ref b7), (.ref b7)])) rfl (by rw [hml]; rfl) (Steps.refl _) (a := b7) (argsL := [(.int i0)]) (rest := [(.ref b7)]) (lenOf pd_1 rfl) rfl (by show 2 * 0 + _ ≤ _; exact Nat.le_of_eq rfl) (hb hby d1_28) (fun _ _ => ⟨rfl, e7, (by decide : 1 + 0 ≤ _), (by decide : 1 + 0 ≤ _)⟩)
    dsimp only [Pt.U, Pt.locs, Pt.cells, Pt.slots] at X8 l8 y8 z8 st8 hQ8
    subst l8 y8 z8
    obtain ⟨rfl, N8q, K8, Ex8, F8a⟩ := hQ8
    have N8 := Fr.app N0 N8q
    have KK8 : Keep h0 T8.heap [] := K7.trans K8 (allS (Or.inr sz_b7) all0)
    have Zs8 : n0 ≤ T8.heap.size := Nat.le_trans Zs7 K8.1
    refine own_step (fun _ => st8.trans) ?_
    show own_Ends p e below s _ _ _ T8 (mkF m 31 #[.val (.int i0)] [(.ref b7)])
    exact own_retR X8 hx hret hlk (hb hby d1_31) (by decide) (by decide) rfl rfl ⟨b7, rfl, N8, KK8, Ex8, F8a⟩
  · refine own_step (fun _ => XS.icmpNo X0.here hx rfl (hb hby d1_3) rfl (flt hc3).1) ?_
    show own_Ends p e below s _ _ _ T0 (mkF m 6 #[.val (.int i0)] [])
    refine own_step (fun _ => XS.iloadN X0.here hx rfl (hb hby d1_6) rfl) ?_
    show own_Ends p e below s _ _ _ T0 (mkF m 7 #[.val (.int i0)] [(.int i0)])
    obtain ⟨T9, X9, e9, st9⟩ := getS2 X0 hx hZ hown (host := "") (Or.inl (hw _ (List.mem_of_getElem? (i := 16) rfl))) Via.refl e0 Sh (g := (mkF m 7 #[.val (.int i0)] [(.int i0)])) rfl (hb hby d1_7)
    refine own_step st9 ?_
    show own_Ends p e below s _ _ _ T9 (mkF m 10 #[.val (.int i0)] [(.int (127 : Int32)), (.int i0)])
    by_cases hc10 : (127 : Int32) < i0
    · refine own_step (fun _ => XS.icmpYes X9.here hx rfl (pc0 := 10) (pc' := 23) rfl (hb hby d1_10) rfl (tlt hc10).2.2.1 (by decide) (by decide)) ?_
      show own_Ends p e below s _ _ _ T9 (mkF m 23 #[.val (.int i0)] [])
      obtain ⟨T10, h10, X10, e10, E10, A10, D10, U10, st10⟩ := newO X9 hx hZ hown (hw _ (List.mem_of_getElem? (i := 40) rfl)) (hw _ (List.mem_of_getElem? (i := 41) rfl)) (hw _ (List.mem_of_getElem? (i := 14) rfl)) e9 (g := (mkF m 23 #[.val (.int i0)] [])) rfl (hb hby d1_23) (by decide) (by decide)
      obtain ⟨b10, g10⟩ : ∃ z, z = h0.size := ⟨_, rfl⟩
      rw [← g10] at A10 D10 U10 st10
      have g_b10 : n0 ≤ b10 := Nat.le_trans Z0 (Nat.le_of_eq g10.symm)
      have sz_b10 : h0.size ≤ b10 := Nat.le_trans (Keep.refl h0 []).1 (Nat.le_of_eq g10.symm)
      have K10 : Keep h0 h10 [] := (Keep.refl h0 []).ext E10
      have Zs10 : n0 ≤ h10.size := Nat.le_trans Z0 E10.1
      have F10_value : Fld Z h10 b10 "java/lang/Integer" "value" "I" (.int (0 : Int32)) := D10 (Or.inr (hw _ (List.mem_of_getElem? (i := 54) rfl))) (ty := .int) (by decide)
      refine own_step st10 ?_
      show own_Ends p e below s _ _ _ T10 (mkF m 26 #[.val (.int i0)] [(.ref b10)])
      refine own_step (fun _ => XS.dup X10.here hx rfl (hb hby d1_26) rfl rfl) ?_
      show own_Ends p e below s _ _ _ T10 (mkF m 27 #[.val (.int i0)] [(.ref b10), (.ref b10)])
      refine own_step (fun _ => XS.iloadN X10.here hx rfl (hb hby d1_27) rfl) ?_
      show own_Ends p e below s _ _ _ T10 (mkF m 28 #[.val (.int i0)] [(.int i0), (.ref b10), (.ref b10)])
      obtain ⟨_, _, ⟨T11, L11, k11, n11⟩, -, X11, ⟨Lc11, hQ11, l11, y11, z11⟩, st11⟩ := X10.specialBack hx (y := (⟨"java/lang/Integer", "<init>", "(I)V"⟩ : MethodName)) rfl hown (mvT hZ (hw _ (List.mem_of_getElem? (i := 42) rfl))) (mvT hZ (hw _ (List.mem_of_getElem? (i := 43) rfl))) (mvT hZ (hw _ (List.mem_of_getElem? (i := 45) rfl))) (by decide) (backOf (W := 1) (rm5 l Z a0 hw [] b10 i0 h10 n0 Zs10 A10 F10_value g_b10) hZ (hw _ (List.mem_of_getElem? (i := 45) rfl)) (hw _ (List.mem_of_getElem? (i := 14) rfl)) (by decide) (by decide)) (g := (mkF m 28 #[.val (.int i0)] [(.int i0), (.ref b10), (.ref b10)])) rfl (by rw [hml]; rfl) (Steps.refl _) (a := b10) (argsL := [(.int i0)]) (rest := [(.ref b10)]) (lenOf pd_1 rfl) rfl (by show 2 * 0 + _ ≤ _; exact Nat.le_of_eq rfl) (hb hby d1_28) (fun _ _ => ⟨rfl, e10, (by decide : 1 + 0 ≤ _), (by decide : 1 + 0 ≤ _)⟩)
      dsimp only [Pt.U, Pt.locs, Pt.cells, Pt.slots] at X11 l11 y11 z11 st11 hQ11
      subst l11 y11 z11
      obtain ⟨rfl, N11q, K11, Ex11, F11a⟩ := hQ11
      have N11 := Fr.app N0 N11q
      have KK11 : Keep h0 T11.heap [] := K10.trans K11 (allS (Or.inr sz_b10) all0)
      have Zs11 : n0 ≤ T11.heap.size := Nat.le_trans Zs10 K11.1
      refine own_step (fun _ => st11.trans) ?_
      show own_Ends p e below s _ _ _ T11 (mkF m 31 #[.val (.int i0)] [(.ref b10)])
      exact own_retR X11 hx hret hlk (hb hby d1_31) (by decide) (by decide) rfl rfl ⟨b10, rfl, N11, KK11, Ex11, F11a⟩
    · refine own_step (fun _ => XS.icmpNo X9.here hx rfl (hb hby d1_10) rfl (flt hc10).2.2.1) ?_
      show own_Ends p e below s _ _ _ T9 (mkF m 13 #[.val (.int i0)] [])
      obtain ⟨T12, X12, e12, st12⟩ := getS2 X9 hx hZ hown (host := "") (Or.inl (hw _ (List.mem_of_getElem? (i := 18) rfl))) Via.refl e9 Sc (g := (mkF m 13 #[.val (.int i0)] [])) rfl (hb hby d1_13)
      refine own_step st12 ?_
      show own_Ends p e below s _ _ _ T12 (mkF m 16 #[.val (.int i0)] [(.ref wc)])
      refine own_step (fun _ => XS.iloadN X12.here hx rfl (hb hby d1_16) rfl) ?_
      show own_Ends p e below s _ _ _ T12 (mkF m 17 #[.val (.int i0)] [(.int i0), (.ref wc)])
      refine own_step (fun _ => XS.sipush X12.here hx rfl (hb hby d1_17)) ?_
      show own_Ends p e below s _ _ _ T12 (mkF m 20 #[.val (.int i0)] [(.int (128 : Int32)), (.int i0), (.ref wc)])
      refine own_step (fun _ => XS.iadd X12.here hx rfl (hb hby d1_20) rfl) ?_
      show own_Ends p e below s _ _ _ T12 (mkF m 21 #[.val (.int i0)] [(.int (i0 + (128 : Int32))), (.ref wc)])
      have hin : ¬ ((i0 + (128 : Int32)) < 0 ∨ cw.slots.size ≤ ((i0 + (128 : Int32))).toNatClampNeg) := inb_of Bx.2.1 (own_in256 hc3 hc10)
      obtain ⟨bx, hbx, Ebx, Fbx⟩ := Bx.2.2.2 _ hin
      refine own_step (fun _ => X12.aaload hx (j := (i0 + (128 : Int32))) (v := .ref bx) (by rw [e12]; exact (Bx.1.ext hE).1) (State.isArrayOf_alike hZ.alike (Bx.1.ext hE).2.1) rfl (Bx.1.ext hE).2.2 hin hbx (g := (mkF m 21 #[.val (.int i0)] [(.int (i0 + (128 : Int32))), (.ref wc)])) rfl rfl (hb hby d1_21) _) ?_
      show own_Ends p e below s _ _ _ T12 (mkF m 22 #[.val (.int i0)] [(.ref bx)])
      exact own_retR X12 hx hret hlk (hb hby d1_22) (by decide) (by decide) rfl rfl ⟨bx, rfl, N0, (show _ from by rw [e12]; exact Keep.refl _ _), (show _ from by rw [e12]; exact Ebx.ext hE), (show _ from by rw [e12]; exact (own_bxv hc3 hc10 ▸ Fbx.ext hE))⟩
theorem ef_rm1 (m : MethodId) (i0 : Int32) : entryFrame m #[(.int i0)] 1 = mkF m 0 #[.val (.int i0)] [] := by first | (simp [entryFrame, mkF, argsToLocals, Value.category]; done) | rfl
set_option maxRecDepth 65536 in
set_option maxHeartbeats 40000000 in
theorem rm1 (l : Launch) (Z : State) (a0 : Array Value) (hw : ∀ d ∈ tables_1, d.before a0 Z = true) (ws : List Jvm.Cond) (i0 : Int32) (wc : Addr) (cw : Cell) (h0 : Heap) (n0 : Nat) (Z0 : n0 ≤ h0.size) (Sc : Sta Z h0 "java/lang/Integer$IntegerCache" "cache" "[Ljava/lang/Integer;" (.ref wc)) (hE : Ext Z.heap h0) (Sh : Sta Z h0 "java/lang/Integer$IntegerCache" "high" "I" (.int 127)) (Bx : Bxs Z wc cw "java/lang/Integer" "I" (256 : Int32) (fun j => .int (j - 128))) :
    MetFree l (⟨"java/lang/Integer", "valueOf", "(I)Ljava/lang/Integer;"⟩ : MethodName) (head1 (Jvm.Cond.code (⟨"java/lang/Integer", "valueOf", "(I)Ljava/lang/Integer;"⟩ : MethodName) jdk_33_method_22_code 1 (some (.object "java/lang/Integer")) :: ws) ({ frames := 3, cells := 1, slots := 1, locals := 38 } : Room)) (fun a U => a = #[(.int i0)] ∧ Z.Warmed39 U.vm ∧ U.heap = h0) (fun _ _ _ _ _ => True) (fun _ U o U' => ∃ v L, o = .returned v ∧ (own_QB Z n0 h0 (.int i0)) v U'.heap L ∧ FrameEnd U o U' L ({ frames := 3, cells := 1, slots := 1, locals := 38 } : Room).cells ({ frames := 3, cells := 1, slots := 1, locals := 38 } : Room).slots) := by
  refine MetFree.of_bodySF (plainFor_of_name pn_1) hisR ?_
  intro p e s m args below meth c s₁ Bd hml0 hP hK
  obtain ⟨rfl, hZ, hh⟩ := hP
  have X0 : Stand p l e ({ frames := 3, cells := 1, slots := 1, locals := 38 } : Room) s m #[(.int i0)] below meth c s₁ [] 0 0 := Stand.of_body Bd
  have e0 : s₁.heap = h0 := by rw [← hh, Bd.state]; rfl
  have C : own_C "java/lang/Integer" jdk_33_method_22_code 1 (some (.object "java/lang/Integer")) "valueOf" p s m meth c Z a0 := ⟨Bd.exec, hZ, hw, Bd.bytes, hml0, findClass_of_methodNamed Bd.named, Bd.returns, Bd.notSynchronized, (name_of_methodNamed Bd.named Bd.method).1⟩
  have r := b1_0 C Z0 X0 e0 (Fr.nil n0) i0 wc cw Sc hE Sh Bx
  rw [ef_rm1 m i0]
  exact r
def own_Q2 (Z : State) (n0 : Nat) (h0 : Heap) (o0 : Addr) (j1 : Int64) (v : Option Value) (h : Heap) (L : List Loc) : Prop :=
  v = none ∧ Fr n0 L ∧ Keep h0 h [o0] ∧ Exa Z h o0 "com/example/tideshift/tideshift/Result" ∧ Fld Z h o0 "com/example/tideshift/tideshift/Result" "start" "J" (.long j1)
theorem d2_0 : decode prog_67_method_1_code 0 = .ok (.aload_n 0, 1) := by decide +kernel
theorem d2_1 : decode prog_67_method_1_code 1 = .ok (.invokespecial 1, 3) := by decide +kernel
theorem d2_4 : decode prog_67_method_1_code 4 = .ok (.aload_n 0, 1) := by decide +kernel
theorem d2_5 : decode prog_67_method_1_code 5 = .ok (.lload_n 1, 1) := by decide +kernel
theorem d2_6 : decode prog_67_method_1_code 6 = .ok (.putfield 7, 3) := by decide +kernel
theorem d2_9 : decode prog_67_method_1_code 9 = .ok (.aload_n 0, 1) := by decide +kernel
theorem d2_10 : decode prog_67_method_1_code 10 = .ok (.lload_n 3, 1) := by decide +kernel
theorem d2_11 : decode prog_67_method_1_code 11 = .ok (.putfield 13, 3) := by decide +kernel
theorem d2_14 : decode prog_67_method_1_code 14 = .ok (.aload_n 0, 1) := by decide +kernel
theorem d2_15 : decode prog_67_method_1_code 15 = .ok (.aload 5, 2) := by decide +kernel
theorem d2_17 : decode prog_67_method_1_code 17 = .ok (.putfield 16, 3) := by decide +kernel
theorem d2_20 : decode prog_67_method_1_code 20 = .ok (.aload_n 0, 1) := by decide +kernel
theorem d2_21 : decode prog_67_method_1_code 21 = .ok (.aload 6, 2) := by decide +kernel
theorem d2_23 : decode prog_67_method_1_code 23 = .ok (.putfield 20, 3) := by decide +kernel
theorem d2_26 : decode prog_67_method_1_code 26 = .ok (.return_, 1) := by decide +kernel
set_option maxRecDepth 65536 in
set_option maxHeartbeats 40000000 in
theorem b2_0 {p : Program} {l : Launch} {e : Env} {s : State} {m : MethodId} {args : Array Value} {below : List Frame} {meth : Method} {c : Code} {Z : State} {a0 : Array Value} {h0 : Heap} {n0 : Nat} (C : own_C "com/example/tideshift/tideshift/Result" prog_67_method_1_code 7 none "<init>" p s m meth c Z a0) (Z0 : n0 ≤ h0.size) {T0 : State} {locs : List Loc} (X0 : Stand p l e ({ frames := 1, cells := 0, slots := 0, locals := 12 } : Room) s m args below meth c T0 locs 0 0) (e0 : T0.heap = h0) (N0 : Fr n0 locs) (o0 : Addr) (j1 : Int64) (j2 : Int64) (o3 : Addr) (o4 : Addr) (Eo : Exa Z h0 o0 "com/example/tideshift/tideshift/Result") (F0 : Fld Z h0 o0 "com/example/tideshift/tideshift/Result" "start" "J" (.long 0)) (F1 : Fld Z h0 o0 "com/example/tideshift/tideshift/Result" "end" "J" (.long 0)) (F2 : Fld Z h0 o0 "com/example/tideshift/tideshift/Result" "key" "Ljava/lang/String;" .null) (F3 : Fld Z h0 o0 "com/example/tideshift/tideshift/Result" "value" "Ljava/lang/Object;" .null) (g_o0 : n0 ≤ o0) :
    own_Ends p e below s ({ frames := 1, cells := 0, slots := 0, locals := 12 } : Room).cells ({ frames := 1, cells := 0, slots := 0, locals := 12 } : Room).slots (own_Q2 Z n0 h0 o0 j1) T0 (mkF m 0 #[.val (.ref o0), .val (.long j1), .second, .val (.long j2), .second, .val (.ref o3), .val (.ref o4)] []) := by
  obtain ⟨hx, hZ, hw, hby, hml, hown, hret, hlk, hnm⟩ := C
  have C : own_C "com/example/tideshift/tideshift/Result" prog_67_method_1_code 7 none "<init>" p s m meth c Z a0 := ⟨hx, hZ, hw, hby, hml, hown, hret, hlk, hnm⟩
  refine own_step (fun _ => XS.aloadN X0.here hx rfl (hb hby d2_0) rfl rfl) ?_
  show own_Ends p e below s _ _ _ T0 (mkF m 1 #[.val (.ref o0), .val (.long j1), .second, .val (.long j2), .second, .val (.ref o3), .val (.ref o4)] [(.ref o0)])
  obtain ⟨T6, X6, e6, st6⟩ := initO X0 hx hZ hown (hw _ (List.mem_of_getElem? (i := 22) rfl)) (hw _ (List.mem_of_getElem? (i := 23) rfl)) (hw _ (List.mem_of_getElem? (i := 24) rfl)) e0 (g := (mkF m 1 #[.val (.ref o0), .val (.long j1), .second, .val (.long j2), .second, .val (.ref o3), .val (.ref o4)] [(.ref o0)])) rfl (by rw [hml]; rfl) rfl (hb hby d2_1) (by decide) (W := 0) (by show 2 * 0 + _ ≤ _; exact Nat.le_of_eq rfl) (by decide)
  refine own_step st6 ?_
  show own_Ends p e below s _ _ _ T6 (mkF m 4 #[.val (.ref o0), .val (.long j1), .second, .val (.long j2), .second, .val (.ref o3), .val (.ref o4)] [])
  refine own_step (fun _ => XS.aloadN X6.here hx rfl (hb hby d2_4) rfl rfl) ?_
  show own_Ends p e below s _ _ _ T6 (mkF m 5 #[.val (.ref o0), .val (.long j1), .second, .val (.long j2), .second, .val (.ref o3), .val (.ref o4)] [(.ref o0)])
  refine own_step (fun _ => XS.lloadN X6.here hx rfl (hb hby d2_5) rfl) ?_
  show own_Ends p e below s _ _ _ T6 (mkF m 6 #[.val (.ref o0), .val (.long j1), .second, .val (.long j2), .second, .val (.ref o3), .val (.ref o4)] [(.long j1), (.ref o0)])
  obtain ⟨T7, h7, X7, e7, W7, st7⟩ := putF X6 hx hZ hown (host := "") (Or.inl (hw _ (List.mem_of_getElem? (i := 25) rfl))) Via.refl e6 F0 Eo (Or.inr ⟨(hw _ (List.mem_of_getElem? (i := 26) rfl)), rfl, hnm⟩) (hw _ (List.mem_of_getElem? (i := 2) rfl)) (ty := .long) (by decide) rfl rfl (g := (mkF m 6 #[.val (.ref o0), .val (.long j1), .second, .val (.long j2), .second, .val (.ref o3), .val (.ref o4)] [(.long j1), (.ref o0)])) rfl rfl (hb hby d2_6)
  have Fw7 := F0.same W7
  have K7 : Keep h0 h7 [o0] := (Keep.refl h0 [o0]).wr W7 (Or.inl (List.mem_of_getElem? (i := 0) rfl))
  have Zs7 : n0 ≤ h7.size := (by rw [W7.size]; exact Z0)
  have N7 := Fr.snoc X7 N0 g_o0
  refine own_step st7 ?_
  show own_Ends p e below s _ _ _ T7 (mkF m 9 #[.val (.ref o0), .val (.long j1), .second, .val (.long j2), .second, .val (.ref o3), .val (.ref o4)] [])
  refine own_step (fun _ => XS.aloadN X7.here hx rfl (hb hby d2_9) rfl rfl) ?_
  show own_Ends p e below s _ _ _ T7 (mkF m 10 #[.val (.ref o0), .val (.long j1), .second, .val (.long j2), .second, .val (.ref o3), .val (.ref o4)] [(.ref o0)])
  refine own_step (fun _ => XS.lloadN X7.here hx rfl (hb hby d2_10) rfl) ?_
  show own_Ends p e below s _ _ _ T7 (mkF m 11 #[.val (.ref o0), .val (.long j1), .second, .val (.long j2), .second, .val (.ref o3), .val (.ref o4)] [(.long j2), (.ref o0)])
  obtain ⟨T8, h8, X8, e8, W8, st8⟩ := putF X7 hx hZ hown (host := "") (Or.inl (hw _ (List.mem_of_getElem? (i := 27) rfl))) Via.refl e7 (F1.other W7 (Or.inr (slot_ne (Or.inr (hw _ (List.mem_of_getElem? (i := 28) rfl))) (Or.inr (hw _ (List.mem_of_getElem? (i := 26) rfl))) (by decide) (t := .long) (t' := .long) (by decide) (by decide)))) (Eo.wr W7) (Or.inr ⟨(hw _ (List.mem_of_getElem? (i := 28) rfl)), rfl, hnm⟩) (hw _ (List.mem_of_getElem? (i := 2) rfl)) (ty := .long) (by decide) rfl rfl (g := (mkF m 11 #[.val (.ref o0), .val (.long j1), .second, .val (.long j2), .second, .val (.ref o3), .val (.ref o4)] [(.long j2), (.ref o0)])) rfl rfl (hb hby d2_11)
  have Fw8 := (F1.other W7 (Or.inr (slot_ne (Or.inr (hw _ (List.mem_of_getElem? (i := 28) rfl))) (Or.inr (hw _ (List.mem_of_getElem? (i := 26) rfl))) (by decide) (t := .long) (t' := .long) (by decide) (by decide)))).same W8
  have K8 : Keep h0 h8 [o0] := K7.wr W8 (Or.inl (List.mem_of_getElem? (i := 0) rfl))
  have Zs8 : n0 ≤ h8.size := (by rw [W8.size]; exact Zs7)
  have N8 := Fr.snoc X8 N7 g_o0
  refine own_step st8 ?_
  show own_Ends p e below s _ _ _ T8 (mkF m 14 #[.val (.ref o0), .val (.long j1), .second, .val (.long j2), .second, .val (.ref o3), .val (.ref o4)] [])
  refine own_step (fun _ => XS.aloadN X8.here hx rfl (hb hby d2_14) rfl rfl) ?_
  show own_Ends p e below s _ _ _ T8 (mkF m 15 #[.val (.ref o0), .val (.long j1), .second, .val (.long j2), .second, .val (.ref o3), .val (.ref o4)] [(.ref o0)])
  refine own_step (fun _ => XS.aload X8.here hx rfl (hb hby d2_15) rfl rfl) ?_
  show own_Ends p e below s _ _ _ T8 (mkF m 17 #[.val (.ref o0), .val (.long j1), .second, .val (.long j2), .second, .val (.ref o3), .val (.ref o4)] [(.ref o3), (.ref o0)])
  obtain ⟨T9, h9, X9, e9, W9, st9⟩ := putF X8 hx hZ hown (host := "") (Or.inl (hw _ (List.mem_of_getElem? (i := 29) rfl))) Via.refl e8 ((F2.other W7 (Or.inr (slot_ne (Or.inr (hw _ (List.mem_of_getElem? (i := 30) rfl))) (Or.inr (hw _ (List.mem_of_getElem? (i := 26) rfl))) (by decide) (t := (.object "java/lang/String")) (t' := .long) (by decide) (by decide)))).other W8 (Or.inr (slot_ne (Or.inr (hw _ (List.mem_of_getElem? (i := 30) rfl))) (Or.inr (hw _ (List.mem_of_getElem? (i := 28) rfl))) (by decide) (t := (.object "java/lang/String")) (t' := .long) (by decide) (by decide)))) ((Eo.wr W7).wr W8) (Or.inr ⟨(hw _ (List.mem_of_getElem? (i := 30) rfl)), rfl, hnm⟩) (hw _ (List.mem_of_getElem? (i := 2) rfl)) (ty := (.object "java/lang/String")) (by decide) rfl rfl (g := (mkF m 17 #[.val (.ref o0), .val (.long j1), .second, .val (.long j2), .second, .val (.ref o3), .val (.ref o4)] [(.ref o3), (.ref o0)])) rfl rfl (hb hby d2_17)
  have Fw9 := ((F2.other W7 (Or.inr (slot_ne (Or.inr (hw _ (List.mem_of_getElem? (i := 30) rfl))) (Or.inr (hw _ (List.mem_of_getElem? (i := 26) rfl))) (by decide) (t := (.object "java/lang/String")) (t' := .long) (by decide) (by decide)))).other W8 (Or.inr (slot_ne (Or.inr (hw _ (List.mem_of_getElem? (i := 30) rfl))) (Or.inr (hw _ (List.mem_of_getElem? (i := 28) rfl))) (by decide) (t := (.object "java/lang/String")) (t' := .long) (by decide) (by decide)))).same W9
  have K9 : Keep h0 h9 [o0] := K8.wr W9 (Or.inl (List.mem_of_getElem? (i := 0) rfl))
  have Zs9 : n0 ≤ h9.size := (by rw [W9.size]; exact Zs8)
  have N9 := Fr.snoc X9 N8 g_o0
  refine own_step st9 ?_
  show own_Ends p e below s _ _ _ T9 (mkF m 20 #[.val (.ref o0), .val (.long j1), .second, .val (.long j2), .second, .val (.ref o3), .val (.ref o4)] [])
  refine own_step (fun _ => XS.aloadN X9.here hx rfl (hb hby d2_20) rfl rfl) ?_
  show own_Ends p e below s _ _ _ T9 (mkF m 21 #[.val (.ref o0), .val (.long j1), .second, .val (.long j2), .second, .val (.ref o3), .val (.ref o4)] [(.ref o0)])
  refine own_step (fun _ => XS.aload X9.here hx rfl (hb hby d2_21) rfl rfl) ?_
  show own_Ends p e below s _ _ _ T9 (mkF m 23 #[.val (.ref o0), .val (.long j1), .second, .val (.long j2), .second, .val (.ref o3), .val (.ref o4)] [(.ref o4), (.ref o0)])
  obtain ⟨T10, h10, X10, e10, W10, st10⟩ := putF X9 hx hZ hown (host := "") (Or.inl (hw _ (List.mem_of_getElem? (i := 31) rfl))) Via.refl e9 (((F3.other W7 (Or.inr (slot_ne (Or.inr (hw _ (List.mem_of_getElem? (i := 32) rfl))) (Or.inr (hw _ (List.mem_of_getElem? (i := 26) rfl))) (by decide) (t := (.object "java/lang/Object")) (t' := .long) (by decide) (by decide)))).other W8 (Or.inr (slot_ne (Or.inr (hw _ (List.mem_of_getElem? (i := 32) rfl))) (Or.inr (hw _ (List.mem_of_getElem? (i := 28) rfl))) (by decide) (t := (.object "java/lang/Object")) (t' := .long) (by decide) (by decide)))).other W9 (Or.inr (slot_ne (Or.inr (hw _ (List.mem_of_getElem? (i := 32) rfl))) (Or.inr (hw _ (List.mem_of_getElem? (i := 30) rfl))) (by decide) (t := (.object "java/lang/Object")) (t' := (.object "java/lang/String")) (by decide) (by decide)))) (((Eo.wr W7).wr W8).wr W9) (Or.inr ⟨(hw _ (List.mem_of_getElem? (i := 32) rfl)), rfl, hnm⟩) (hw _ (List.mem_of_getElem? (i := 2) rfl)) (ty := (.object "java/lang/Object")) (by decide) rfl rfl (g := (mkF m 23 #[.val (.ref o0), .val (.long j1), .second, .val (.long j2), .second, .val (.ref o3), .val (.ref o4)] [(.ref o4), (.ref o0)])) rfl rfl (hb hby d2_23)
  have Fw10 := (((F3.other W7 (Or.inr (slot_ne (Or.inr (hw _ (List.mem_of_getElem? (i := 32) rfl))) (Or.inr (hw _ (List.mem_of_getElem? (i := 26) rfl))) (by decide) (t := (.object "java/lang/Object")) (t' := .long) (by decide) (by decide)))).other W8 (Or.inr (slot_ne (Or.inr (hw _ (List.mem_of_getElem? (i := 32) rfl))) (Or.inr (hw _ (List.mem_of_getElem? (i := 28) rfl))) (by decide) (t := (.object "java/lang/Object")) (t' := .long) (by decide) (by decide)))).other W9 (Or.inr (slot_ne (Or.inr (hw _ (List.mem_of_getElem? (i := 32) rfl))) (Or.inr (hw _ (List.mem_of_getElem? (i := 30) rfl))) (by decide) (t := (.object "java/lang/Object")) (t' := (.object "java/lang/String")) (by decide) (by decide)))).same W10
  have K10 : Keep h0 h10 [o0] := K9.wr W10 (Or.inl (List.mem_of_getElem? (i := 0) rfl))
  have Zs10 : n0 ≤ h10.size := (by rw [W10.size]; exact Zs9)
  have N10 := Fr.snoc X10 N9 g_o0
  refine own_step st10 ?_
  show own_Ends p e below s _ _ _ T10 (mkF m 26 #[.val (.ref o0), .val (.long j1), .second, .val (.long j2), .second, .val (.ref o3), .val (.ref o4)] [])
  exact own_retV X10 hx hret hlk (hb hby d2_26) (by decide) (by decide) ⟨rfl, N10, (show _ from by rw [e10]; exact K10), (show _ from by rw [e10]; exact ((((Eo.wr W7).wr W8).wr W9).wr W10)), (show _ from by rw [e10]; exact (((Fw7.other W8 (Or.inr (slot_ne (Or.inr (hw _ (List.mem_of_getElem? (i := 26) rfl))) (Or.inr (hw _ (List.mem_of_getElem? (i := 28) rfl))) (by decide) (t := .long) (t' := .long) (by decide) (by decide)))).other W9 (Or.inr (slot_ne (Or.inr (hw _ (List.mem_of_getElem? (i := 26) rfl))) (Or.inr (hw _ (List.mem_of_getElem? (i := 30) rfl))) (by decide) (t := .long) (t' := (.object "java/lang/String")) (by decide) (by decide)))).other W10 (Or.inr (slot_ne (Or.inr (hw _ (List.mem_of_getElem? (i := 26) rfl))) (Or.inr (hw _ (List.mem_of_getElem? (i := 32) rfl))) (by decide) (t := .long) (t' := (.object "java/lang/Object")) (by decide) (by decide)))))⟩
theorem ef_rm2 (m : MethodId) (o0 : Addr) (j1 : Int64) (j2 : Int64) (o3 : Addr) (o4 : Addr) : entryFrame m #[(.ref o0), (.long j1), (.long j2), (.ref o3), (.ref o4)] 7 = mkF m 0 #[.val (.ref o0), .val (.long j1), .second, .val (.long j2), .second, .val (.ref o3), .val (.ref o4)] [] := by first | (simp [entryFrame, mkF, argsToLocals, Value.category]; done) | rfl
set_option maxRecDepth 65536 in
set_option maxHeartbeats 40000000 in
theorem rm2 (l : Launch) (Z : State) (a0 : Array Value) (hw : ∀ d ∈ tables_1, d.before a0 Z = true) (ws : List Jvm.Cond) (o0 : Addr) (j1 : Int64) (j2 : Int64) (o3 : Addr) (o4 : Addr) (h0 : Heap) (n0 : Nat) (Z0 : n0 ≤ h0.size) (Eo : Exa Z h0 o0 "com/example/tideshift/tideshift/Result") (F0 : Fld Z h0 o0 "com/example/tideshift/tideshift/Result" "start" "J" (.long 0)) (F1 : Fld Z h0 o0 "com/example/tideshift/tideshift/Result" "end" "J" (.long 0)) (F2 : Fld Z h0 o0 "com/example/tideshift/tideshift/Result" "key" "Ljava/lang/String;" .null) (F3 : Fld Z h0 o0 "com/example/tideshift/tideshift/Result" "value" "Ljava/lang/Object;" .null) (g_o0 : n0 ≤ o0) :
    MetFree l (⟨"com/example/tideshift/tideshift/Result", "<init>", "(JJLjava/lang/String;Ljava/lang/Object;)V"⟩ : MethodName) (head1 (Jvm.Cond.code (⟨"com/example/tideshift/tideshift/Result", "<init>", "(JJLjava/lang/String;Ljava/lang/Object;)V"⟩ : MethodName) prog_67_method_1_code 7 none :: ws) ({ frames := 1, cells := 0, slots := 0, locals := 12 } : Room)) (fun a U => a = #[(.ref o0), (.long j1), (.long j2), (.ref o3), (.ref o4)] ∧ Z.Warmed39 U.vm ∧ U.heap = h0) (fun _ _ _ _ _ => True) (fun _ U o U' => ∃ v L, o = .returned v ∧ (own_Q2 Z n0 h0 o0 j1) v U'.heap L ∧ FrameEnd U o U' L ({ frames := 1, cells := 0, slots := 0, locals := 12 } : Room).cells ({ frames := 1, cells := 0, slots := 0, locals := 12 } : Room).slots) := by
  refine MetFree.of_bodySF (plainFor_of_name pn_2) hisR ?_
  intro p e s m args below meth c s₁ Bd hml0 hP hK
  obtain ⟨rfl, hZ, hh⟩ := hP
  have X0 : Stand p l e ({ frames := 1, cells := 0, slots := 0, locals := 12 } : Room) s m #[(.ref o0), (.long j1), (.long j2), (.ref o3), (.ref o4)] below meth c s₁ [] 0 0 := Stand.of_body Bd
  have e0 : s₁.heap = h0 := by rw [← hh, Bd.state]; rfl
  have C : own_C "com/example/tideshift/tideshift/Result" prog_67_method_1_code 7 none "<init>" p s m meth c Z a0 := ⟨Bd.exec, hZ, hw, Bd.bytes, hml0, findClass_of_methodNamed Bd.named, Bd.returns, Bd.notSynchronized, (name_of_methodNamed Bd.named Bd.method).1⟩
  have r := b2_0 C Z0 X0 e0 (Fr.nil n0) o0 j1 j2 o3 o4 Eo F0 F1 F2 F3 g_o0
  rw [ef_rm2 m o0 j1 j2 o3 o4]
  exact r
theorem d4_0 : decode prog_67_method_6_code 0 = .ok (.aload_n 0, 1) := by decide +kernel
theorem d4_1 : decode prog_67_method_6_code 1 = .ok (.getfield 7, 3) := by decide +kernel
theorem d4_4 : decode prog_67_method_6_code 4 = .ok (.ldc2_w 26, 3) := by decide +kernel
theorem d4_7 : decode prog_67_method_6_code 7 = .ok (.lcmp, 1) := by decide +kernel
theorem d4_8 : decode prog_67_method_6_code 8 = .ok (.ifCond .ne 7, 3) := by decide +kernel
theorem d4_11 : decode prog_67_method_6_code 11 = .ok (.iconst 1, 1) := by decide +kernel
theorem d4_12 : decode prog_67_method_6_code 12 = .ok (.goto 4, 3) := by decide +kernel
theorem d4_15 : decode prog_67_method_6_code 15 = .ok (.iconst 0, 1) := by decide +kernel
theorem d4_16 : decode prog_67_method_6_code 16 = .ok (.ireturn, 1) := by decide +kernel
def f4_0 (x : Int64) : Int32 := (if x = (-9223372036854775808 : Int64) then (1 : Int32) else (0 : Int32))
set_option maxRecDepth 65536 in
set_option maxHeartbeats 40000000 in
theorem b4_0 {p : Program} {l : Launch} {e : Env} {s : State} {m : MethodId} {args : Array Value} {below : List Frame} {meth : Method} {c : Code} {Z : State} {a0 : Array Value} {h0 : Heap} {n0 : Nat} (C : own_C "com/example/tideshift/tideshift/Result" prog_67_method_6_code 1 (some .boolean) "spansWholeStream" p s m meth c Z a0) (Z0 : n0 ≤ h0.size) {T0 : State} {locs : List Loc} (X0 : Stand p l e ({ frames := 0, cells := 0, slots := 0, locals := 0 } : Room) s m args below meth c T0 locs 0 0) (e0 : T0.heap = h0) (N0 : Fr n0 locs) (o0 : Addr) (x : Int64) (Fx : Fld Z h0 o0 "com/example/tideshift/tideshift/Result" "start" "J" (.long x)) (W : Int32) (hv : W = f4_0 x) :
    own_Ends p e below s ({ frames := 0, cells := 0, slots := 0, locals := 0 } : Room).cells ({ frames := 0, cells := 0, slots := 0, locals := 0 } : Room).slots (own_Q n0 h0 (some (.int W))) T0 (mkF m 0 #[.val (.ref o0)] []) := by
  obtain ⟨hx, hZ, hw, hby, hml, hown, hret, hlk, hnm⟩ := C
  have C : own_C "com/example/tideshift/tideshift/Result" prog_67_method_6_code 1 (some .boolean) "spansWholeStream" p s m meth c Z a0 := ⟨hx, hZ, hw, hby, hml, hown, hret, hlk, hnm⟩
  unfold f4_0 at hv
  refine own_step (fun _ => XS.aloadN X0.here hx rfl (hb hby d4_0) rfl rfl) ?_
  show own_Ends p e below s _ _ _ T0 (mkF m 1 #[.val (.ref o0)] [(.ref o0)])
  obtain ⟨T2, X2, e2, st2⟩ := getF X0 hx hZ hown (host := "") (Or.inl (hw _ (List.mem_of_getElem? (i := 25) rfl))) Via.refl e0 Fx (g := (mkF m 1 #[.val (.ref o0)] [(.ref o0)])) rfl rfl (hb hby d4_1)
  refine own_step st2 ?_
  show own_Ends p e below s _ _ _ T2 (mkF m 4 #[.val (.ref o0)] [(.long x)])
  refine own_step (fun _ => X2.ldc2Long hx hown (mvT hZ (hw _ (List.mem_of_getElem? (i := 38) rfl))) (g := (mkF m 4 #[.val (.ref o0)] [(.long x)])) rfl (hb hby d4_4) _) ?_
  show own_Ends p e below s _ _ _ T2 (mkF m 7 #[.val (.ref o0)] [(.long (-9223372036854775808 : Int64)), (.long x)])
  refine own_step (fun _ => XS.lcmp X2.here hx rfl (hb hby d4_7) rfl) ?_
  show own_Ends p e below s _ _ _ T2 (mkF m 8 #[.val (.ref o0)] [(.int (lcmpW x (-9223372036854775808 : Int64)))])
  by_cases hc8 : x = (-9223372036854775808 : Int64)
  · have hv_t := hv.trans (if_pos hc8)
    refine own_step (fun _ => XS.ifNo X2.here hx rfl (hb hby d4_8) rfl ((if0 _ _).trans (teq ((lw_eq _ _).mpr hc8)).2)) ?_
    show own_Ends p e below s _ _ _ T2 (mkF m 11 #[.val (.ref o0)] [])
    refine own_step (fun _ => XS.iconst X2.here hx rfl (hb hby d4_11)) ?_
    show own_Ends p e below s _ _ _ T2 (mkF m 12 #[.val (.ref o0)] [(.int (1 : Int32))])
    refine own_step (fun _ => XS.goto X2.here hx rfl (pc0 := 12) (pc' := 16) rfl (hb hby d4_12) (by decide) (by decide)) ?_
    show own_Ends p e below s _ _ _ T2 (mkF m 16 #[.val (.ref o0)] [(.int (1 : Int32))])
    exact own_retN X2 (t := .boolean) hx hret hlk (hb hby d4_16) (by decide) (by decide) (by simp) ⟨congrArg (fun z => some (Value.int z)) hv_t.symm, N0, e2⟩
  · have hv_f := hv.trans (if_neg hc8)
    refine own_step (fun _ => XS.ifYes X2.here hx rfl (pc0 := 8) (pc' := 15) rfl (hb hby d4_8) rfl ((if0 _ _).trans (feq (fun q => hc8 ((lw_eq _ _).mp q))).2) (by decide) (by decide)) ?_
    show own_Ends p e below s _ _ _ T2 (mkF m 15 #[.val (.ref o0)] [])
    refine own_step (fun _ => XS.iconst X2.here hx rfl (hb hby d4_15)) ?_
    show own_Ends p e below s _ _ _ T2 (mkF m 16 #[.val (.ref o0)] [(.int (0 : Int32))])
    exact own_retN X2 (t := .boolean) hx hret hlk (hb hby d4_16) (by decide) (by decide) (by simp) ⟨congrArg (fun z => some (Value.int z)) hv_f.symm, N0, e2⟩
theorem ef_rm4 (m : MethodId) (o0 : Addr) : entryFrame m #[(.ref o0)] 1 = mkF m 0 #[.val (.ref o0)] [] := by first | (simp [entryFrame, mkF, argsToLocals, Value.category]; done) | rfl
set_option maxRecDepth 65536 in
set_option maxHeartbeats 40000000 in
theorem rm4 (l : Launch) (Z : State) (a0 : Array Value) (hw : ∀ d ∈ tables_1, d.before a0 Z = true) (ws : List Jvm.Cond) (o0 : Addr) (x : Int64) (h0 : Heap) (n0 : Nat) (Z0 : n0 ≤ h0.size) (Fx : Fld Z h0 o0 "com/example/tideshift/tideshift/Result" "start" "J" (.long x)) :
    MetFree l (⟨"com/example/tideshift/tideshift/Result", "spansWholeStream", "()Z"⟩ : MethodName) (head1 (Jvm.Cond.code (⟨"com/example/tideshift/tideshift/Result", "spansWholeStream", "()Z"⟩ : MethodName) prog_67_method_6_code 1 (some .boolean) :: ws) ({ frames := 0, cells := 0, slots := 0, locals := 0 } : Room)) (fun a U => a = #[(.ref o0)] ∧ Z.Warmed39 U.vm ∧ U.heap = h0) (fun _ _ _ _ _ => True) (fun _ U o U' => ∃ v L, o = .returned v ∧ (own_Q n0 h0 (some (.int (f4_0 x)))) v U'.heap L ∧ FrameEnd U o U' L ({ frames := 0, cells := 0, slots := 0, locals := 0 } : Room).cells ({ frames := 0, cells := 0, slots := 0, locals := 0 } : Room).slots) := by
  refine MetFree.of_bodySF (plainFor_of_name pn_2) hisR ?_
  intro p e s m args below meth c s₁ Bd hml0 hP hK
  obtain ⟨rfl, hZ, hh⟩ := hP
  have X0 : Stand p l e ({ frames := 0, cells := 0, slots := 0, locals := 0 } : Room) s m #[(.ref o0)] below meth c s₁ [] 0 0 := Stand.of_body Bd
  have e0 : s₁.heap = h0 := by rw [← hh, Bd.state]; rfl
  have C : own_C "com/example/tideshift/tideshift/Result" prog_67_method_6_code 1 (some .boolean) "spansWholeStream" p s m meth c Z a0 := ⟨Bd.exec, hZ, hw, Bd.bytes, hml0, findClass_of_methodNamed Bd.named, Bd.returns, Bd.notSynchronized, (name_of_methodNamed Bd.named Bd.method).1⟩
  have r := b4_0 C Z0 X0 e0 (Fr.nil n0) o0 x Fx _ rfl
  rw [ef_rm4 m o0]
  exact r
def f0_90 (j0 : Int64) (j1 : Int64) (i2 : Int32) (jl6_74 : Int64) (il8_74 : Int32) : Int32 := (if (f4_0 jl6_74) = il8_74 then (1 : Int32) else (0 : Int32))
set_option maxRecDepth 65536 in
set_option maxHeartbeats 40000000 in
theorem b0_90 {p : Program} {l : Launch} {e : Env} {s : State} {m : MethodId} {args : Array Value} {below : List Frame} {meth : Method} {c : Code} {Z : State} {a0 : Array Value} {h0 : Heap} {n0 : Nat} {vm0 : Vm} {k0 : Nat} (C : own_C "com/example/tideshift/tideshift/ResultSpansWholeStreamPinLaw" code maxLocals ret x.name p (s.setVm vm0) m meth c Z a0) (Z0 : n0 ≤ h0.size) (hS : s.Since vm0 k0) (hk : k0 ≤ h0.size) {T0 : State} {locs : List Loc} (X0 : Stand p l e room_1 (s.setVm vm0) m args below meth c T0 locs 0 0) (e0 : T0.heap = h0) (N0 : Fr n0 locs) (j0 : Int64) (j1 : Int64) (i2 : Int32) (wc : Addr) (cw : Cell) (Sc : Sta Z h0 "java/lang/Integer$IntegerCache" "cache" "[Ljava/lang/Integer;" (.ref wc)) (hE : Ext Z.heap h0) (Sh : Sta Z h0 "java/lang/Integer$IntegerCache" "high" "I" (.int 127)) (Bx : Bxs Z wc cw "java/lang/Integer" "I" (256 : Int32) (fun j => .int (j - 128))) (jl6_74 : Int64) (il8_74 : Int32) (js0_90 : Int64) (W : Int32) (hv : W = f0_90 j0 j1 i2 jl6_74 il8_74) :
    own_EndsW p e below s room_1.cells room_1.slots (own_QL n0 (some (.int W))) T0 (mkF m 90 #[.val (.long j0), .second, .val (.long j1), .second, .val (.int i2), .val (.int (i2 &&& (3 : Int32))), .val (.long jl6_74), .second, .val (.int il8_74), .unset, .unset, .unset] [(.long js0_90)]) := by
  obtain ⟨hx, hZ, hw, hby, hml, hown, hret, hlk, hnm⟩ := C
  have C : own_C "com/example/tideshift/tideshift/ResultSpansWholeStreamPinLaw" code maxLocals ret x.name p (s.setVm vm0) m meth c Z a0 := ⟨hx, hZ, hw, hby, hml, hown, hret, hlk, hnm⟩
  unfold f0_90 at hv
  refine own_stepW (fun _ => XS.lstore X0.here hx rfl (hb hby at_90) rfl (l' := #[.val (.long j0), .second, .val (.long j1), .second, .val (.int i2), .val (.int (i2 &&& (3 : Int32))), .val (.long jl6_74), .second, .val (.int il8_74), .val (.long js0_90), .second, .unset]) rfl) ?_
  show own_EndsW p e below s _ _ _ T0 (mkF m 92 #[.val (.long j0), .second, .val (.long j1), .second, .val (.int i2), .val (.int (i2 &&& (3 : Int32))), .val (.long jl6_74), .second, .val (.int il8_74), .val (.long js0_90), .second, .unset] [])
  obtain ⟨T11, h11, X11, e11, E11, A11, D11, U11, st11⟩ := newO X0 hx hZ hown (hw _ (List.mem_of_getElem? (i := 1) rfl)) (hw _ (List.mem_of_getElem? (i := 2) rfl)) (hw _ (List.mem_of_getElem? (i := 3) rfl)) e0 (g := (mkF m 92 #[.val (.long j0), .second, .val (.long j1), .second, .val (.int i2), .val (.int (i2 &&& (3 : Int32))), .val (.long jl6_74), .second, .val (.int il8_74), .val (.long js0_90), .second, .unset] [])) rfl (hb hby at_92) (by decide) (by decide)
  obtain ⟨b11, g11⟩ : ∃ z, z = h0.size := ⟨_, rfl⟩
  rw [← g11] at A11 D11 U11 st11
  have g_b11 : n0 ≤ b11 := Nat.le_trans Z0 (Nat.le_of_eq g11.symm)
  have Zs11 : n0 ≤ h11.size := Nat.le_trans Z0 E11.1
  have hk := Nat.le_trans hk E11.1
  have F11_start : Fld Z h11 b11 "com/example/tideshift/tideshift/Result" "start" "J" (.long (0 : Int64)) := D11 (Or.inr (hw _ (List.mem_of_getElem? (i := 26) rfl))) (ty := .long) (by decide)
  have F11_end : Fld Z h11 b11 "com/example/tideshift/tideshift/Result" "end" "J" (.long (0 : Int64)) := D11 (Or.inr (hw _ (List.mem_of_getElem? (i := 28) rfl))) (ty := .long) (by decide)
  have F11_key : Fld Z h11 b11 "com/example/tideshift/tideshift/Result" "key" "Ljava/lang/String;" .null := D11 (Or.inr (hw _ (List.mem_of_getElem? (i := 30) rfl))) (ty := (.object "java/lang/String")) (by decide)
  have F11_value : Fld Z h11 b11 "com/example/tideshift/tideshift/Result" "value" "Ljava/lang/Object;" .null := D11 (Or.inr (hw _ (List.mem_of_getElem? (i := 32) rfl))) (ty := (.object "java/lang/Object")) (by decide)
  refine own_stepW st11 ?_
  show own_EndsW p e below s _ _ _ T11 (mkF m 95 #[.val (.long j0), .second, .val (.long j1), .second, .val (.int i2), .val (.int (i2 &&& (3 : Int32))), .val (.long jl6_74), .second, .val (.int il8_74), .val (.long js0_90), .second, .unset] [(.ref b11)])
  refine own_stepW (fun _ => XS.dup X11.here hx rfl (hb hby at_95) rfl rfl) ?_
  show own_EndsW p e below s _ _ _ T11 (mkF m 96 #[.val (.long j0), .second, .val (.long j1), .second, .val (.int i2), .val (.int (i2 &&& (3 : Int32))), .val (.long jl6_74), .second, .val (.int il8_74), .val (.long js0_90), .second, .unset] [(.ref b11), (.ref b11)])
  refine own_stepW (fun _ => XS.lload X11.here hx rfl (hb hby at_96) rfl) ?_
  show own_EndsW p e below s _ _ _ T11 (mkF m 98 #[.val (.long j0), .second, .val (.long j1), .second, .val (.int i2), .val (.int (i2 &&& (3 : Int32))), .val (.long jl6_74), .second, .val (.int il8_74), .val (.long js0_90), .second, .unset] [(.long jl6_74), (.ref b11), (.ref b11)])
  refine own_stepW (fun _ => XS.lload X11.here hx rfl (hb hby at_98) rfl) ?_
  show own_EndsW p e below s _ _ _ T11 (mkF m 100 #[.val (.long j0), .second, .val (.long j1), .second, .val (.int i2), .val (.int (i2 &&& (3 : Int32))), .val (.long jl6_74), .second, .val (.int il8_74), .val (.long js0_90), .second, .unset] [(.long js0_90), (.long jl6_74), (.ref b11), (.ref b11)])
  obtain ⟨a12, T12, h12, k12, X12, e12, E12, hS, hk12, hZ, hown, st12⟩ := ldcS X11 hx hZ hown (hw _ (List.mem_of_getElem? (i := 4) rfl)) (own_wS hw) e11 hS hk (g := (mkF m 100 #[.val (.long j0), .second, .val (.long j1), .second, .val (.int i2), .val (.int (i2 &&& (3 : Int32))), .val (.long jl6_74), .second, .val (.int il8_74), .val (.long js0_90), .second, .unset] [(.long js0_90), (.long jl6_74), (.ref b11), (.ref b11)])) rfl (hb hby at_100) (n := 4) (by decide) (by decide) (by decide) (by decide)
  have Zs12 : n0 ≤ h12.size := Nat.le_trans Zs11 E12.1
  have hk := Nat.le_trans hk E12.1
  have hk := hk12
  have C : own_C "com/example/tideshift/tideshift/ResultSpansWholeStreamPinLaw" code maxLocals ret x.name p (s.setVm T12.vm) m meth c Z a0 := ⟨hx, hZ, hw, hby, hml, hown, hret, hlk, hnm⟩
  refine own_stepW st12 ?_
  show own_EndsW p e below s _ _ _ T12 (mkF m 102 #[.val (.long j0), .second, .val (.long j1), .second, .val (.int i2), .val (.int (i2 &&& (3 : Int32))), .val (.long jl6_74), .second, .val (.int il8_74), .val (.long js0_90), .second, .unset] [(.ref a12), (.long js0_90), (.long jl6_74), (.ref b11), (.ref b11)])
  refine own_stepW (fun _ => XS.iload X12.here hx rfl (hb hby at_102) rfl) ?_
  show own_EndsW p e below s _ _ _ T12 (mkF m 104 #[.val (.long j0), .second, .val (.long j1), .second, .val (.int i2), .val (.int (i2 &&& (3 : Int32))), .val (.long jl6_74), .second, .val (.int il8_74), .val (.long js0_90), .second, .unset] [(.int i2), (.ref a12), (.long js0_90), (.long jl6_74), (.ref b11), (.ref b11)])
  obtain ⟨_, _, ⟨T13, L13, k13, n13⟩, -, X13, ⟨Lc13, hQ13, l13, y13, z13⟩, st13⟩ := Jvm.LawKit.callS X12 hx (y := (⟨"java/lang/Integer", "valueOf", "(I)Ljava/lang/Integer;"⟩ : MethodName)) hown (mvT hZ (hw _ (List.mem_of_getElem? (i := 12) rfl))) (mvT hZ (hw _ (List.mem_of_getElem? (i := 13) rfl))) (mvT hZ (hw _ (List.mem_of_getElem? (i := 14) rfl))) (mvT hZ (hw _ (List.mem_of_getElem? (i := 15) rfl))) (by decide) (backOf (W := 7) (rm1 l Z a0 hw [] i2 wc cw h12 n0 Zs12 ((Sc.ext E11).ext E12) (own_xt (own_xt hE E11) E12) ((Sh.ext E11).ext E12) Bx) hZ (hw _ (List.mem_of_getElem? (i := 15) rfl)) (hw _ (List.mem_of_getElem? (i := 14) rfl)) (by decide) (by decide)) (g := (mkF m 104 #[.val (.long j0), .second, .val (.long j1), .second, .val (.int i2), .val (.int (i2 &&& (3 : Int32))), .val (.long jl6_74), .second, .val (.int il8_74), .val (.long js0_90), .second, .unset] [(.int i2), (.ref a12), (.long js0_90), (.long jl6_74), (.ref b11), (.ref b11)])) rfl (by rw [hml]; rfl) (argsL := [(.int i2)]) (rest := [(.ref a12), (.long js0_90), (.long jl6_74), (.ref b11), (.ref b11)]) (lenOf pd_2 rfl) rfl (by show 2 * 0 + _ ≤ _; exact Nat.le_of_eq rfl) (hb hby at_104) (fun _ _ => ⟨rfl, e12, (by decide : 3 + 1 ≤ _), (by decide : 12 + 1 ≤ _)⟩)
  dsimp only [Pt.U, Pt.locs, Pt.cells, Pt.slots] at X13 l13 y13 z13 st13 hQ13
  subst l13 y13 z13
  obtain ⟨b13, rfl, N13q, K13, Ex13, F13a⟩ := hQ13
  have N13 := Fr.app N0 N13q
  have Zs13 : n0 ≤ T13.heap.size := Nat.le_trans Zs12 K13.1
  have hk := Nat.le_trans hk K13.1
  refine own_stepW st13 ?_
  show own_EndsW p e below s _ _ _ T13 (mkF m 107 #[.val (.long j0), .second, .val (.long j1), .second, .val (.int i2), .val (.int (i2 &&& (3 : Int32))), .val (.long jl6_74), .second, .val (.int il8_74), .val (.long js0_90), .second, .unset] [(.ref b13), (.ref a12), (.long js0_90), (.long jl6_74), (.ref b11), (.ref b11)])
  obtain ⟨_, _, ⟨T14, L14, k14, n14⟩, -, X14, ⟨Lc14, hQ14, l14, y14, z14⟩, st14⟩ := X13.specialBack hx (y := (⟨"com/example/tideshift/tideshift/Result", "<init>", "(JJLjava/lang/String;Ljava/lang/Object;)V"⟩ : MethodName)) rfl hown (mvT hZ (hw _ (List.mem_of_getElem? (i := 19) rfl))) (mvT hZ (hw _ (List.mem_of_getElem? (i := 20) rfl))) (mvT hZ (hw _ (List.mem_of_getElem? (i := 21) rfl))) (by decide) (backOf (W := 1) (rm2 l Z a0 hw [] b11 jl6_74 js0_90 a12 b13 T13.heap n0 Zs13 ((A11.ext E12).keep K13) ((F11_start.ext E12).keep K13 nin0) ((F11_end.ext E12).keep K13 nin0) ((F11_key.ext E12).keep K13 nin0) ((F11_value.ext E12).keep K13 nin0) g_b11) hZ (hw _ (List.mem_of_getElem? (i := 21) rfl)) (hw _ (List.mem_of_getElem? (i := 3) rfl)) (by decide) (by decide)) (g := (mkF m 107 #[.val (.long j0), .second, .val (.long j1), .second, .val (.int i2), .val (.int (i2 &&& (3 : Int32))), .val (.long jl6_74), .second, .val (.int il8_74), .val (.long js0_90), .second, .unset] [(.ref b13), (.ref a12), (.long js0_90), (.long jl6_74), (.ref b11), (.ref b11)])) rfl (by rw [hml]; rfl) (Steps.refl _) (a := b11) (argsL := [(.long jl6_74), (.long js0_90), (.ref a12), (.ref b13)]) (rest := [(.ref b11)]) (lenOf pd_3 rfl) rfl (by show 2 * 0 + _ ≤ _; exact Nat.le_of_eq rfl) (hb hby at_107) (fun _ _ => ⟨rfl, rfl, (by decide : 4 + 0 ≤ _), (by decide : 13 + 0 ≤ _)⟩)
  dsimp only [Pt.U, Pt.locs, Pt.cells, Pt.slots] at X14 l14 y14 z14 st14 hQ14
  subst l14 y14 z14
  obtain ⟨rfl, N14q, K14, Ex14, F14a⟩ := hQ14
  have N14 := Fr.app N13 N14q
  have Zs14 : n0 ≤ T14.heap.size := Nat.le_trans Zs13 K14.1
  have hk := Nat.le_trans hk K14.1
  refine own_stepW (fun _ => st14.trans) ?_
  show own_EndsW p e below s _ _ _ T14 (mkF m 110 #[.val (.long j0), .second, .val (.long j1), .second, .val (.int i2), .val (.int (i2 &&& (3 : Int32))), .val (.long jl6_74), .second, .val (.int il8_74), .val (.long js0_90), .second, .unset] [(.ref b11)])
  refine own_stepW (fun _ => XS.astore X14.here hx rfl (hb hby at_110) rfl rfl (l' := #[.val (.long j0), .second, .val (.long j1), .second, .val (.int i2), .val (.int (i2 &&& (3 : Int32))), .val (.long jl6_74), .second, .val (.int il8_74), .val (.long js0_90), .second, .val (.ref b11)]) rfl) ?_
  show own_EndsW p e below s _ _ _ T14 (mkF m 112 #[.val (.long j0), .second, .val (.long j1), .second, .val (.int i2), .val (.int (i2 &&& (3 : Int32))), .val (.long jl6_74), .second, .val (.int il8_74), .val (.long js0_90), .second, .val (.ref b11)] [])
  refine own_stepW (fun _ => XS.aload X14.here hx rfl (hb hby at_112) rfl rfl) ?_
  show own_EndsW p e below s _ _ _ T14 (mkF m 114 #[.val (.long j0), .second, .val (.long j1), .second, .val (.int i2), .val (.int (i2 &&& (3 : Int32))), .val (.long jl6_74), .second, .val (.int il8_74), .val (.long js0_90), .second, .val (.ref b11)] [(.ref b11)])
  obtain ⟨cq15, kq15, q15a, q15b, q15c⟩ := isOf hZ rfl Ex14
  obtain ⟨_, _, ⟨T15, L15, k15, n15⟩, -, X15, ⟨Lc15, hQ15, l15, y15, z15⟩, st15⟩ := X14.virtualBack hx (y := (⟨"com/example/tideshift/tideshift/Result", "spansWholeStream", "()Z"⟩ : MethodName)) (z := (⟨"com/example/tideshift/tideshift/Result", "spansWholeStream", "()Z"⟩ : MethodName)) hown (mvT hZ (hw _ (List.mem_of_getElem? (i := 33) rfl))) (mvT hZ (hw _ (List.mem_of_getElem? (i := 34) rfl))) (notFace_of_selects (args := #[]) (mvT hZ (hw _ (List.mem_of_getElem? (i := 36) rfl)))) (mvT hZ (hw _ (List.mem_of_getElem? (i := 36) rfl))) (mvT hZ (hw _ (List.mem_of_getElem? (i := 35) rfl))) (by decide) (backOf (W := 0) (rm4 l Z a0 hw [] b11 jl6_74 T14.heap n0 Zs14 F14a) hZ (hw _ (List.mem_of_getElem? (i := 37) rfl)) (hw _ (List.mem_of_getElem? (i := 3) rfl)) (by decide) (by decide)) q15a q15c (g := (mkF m 114 #[.val (.long j0), .second, .val (.long j1), .second, .val (.int i2), .val (.int (i2 &&& (3 : Int32))), .val (.long jl6_74), .second, .val (.int il8_74), .val (.long js0_90), .second, .val (.ref b11)] [(.ref b11)])) rfl (by rw [hml]; rfl) (Steps.refl _) (argsL := []) (rest := []) (lenOf pd_4 rfl) rfl (by show 2 * 0 + _ ≤ _; exact Nat.le_of_eq rfl) (hb hby at_114) (fun _ _ => ⟨rfl, rfl, (by decide : 4 + 0 ≤ _), (by decide : 13 + 0 ≤ _)⟩)
  dsimp only [Pt.U, Pt.locs, Pt.cells, Pt.slots] at X15 l15 y15 z15 st15 hQ15
  subst l15 y15 z15
  obtain ⟨rfl, N15q, hh15⟩ := hQ15
  have N15 := Fr.app N14 N15q
  refine own_stepW (fun _ => st15.trans) ?_
  show own_EndsW p e below s _ _ _ T15 (mkF m 117 #[.val (.long j0), .second, .val (.long j1), .second, .val (.int i2), .val (.int (i2 &&& (3 : Int32))), .val (.long jl6_74), .second, .val (.int il8_74), .val (.long js0_90), .second, .val (.ref b11)] [(.int (f4_0 jl6_74))])
  refine own_stepW (fun _ => XS.iload X15.here hx rfl (hb hby at_117) rfl) ?_
  show own_EndsW p e below s _ _ _ T15 (mkF m 119 #[.val (.long j0), .second, .val (.long j1), .second, .val (.int i2), .val (.int (i2 &&& (3 : Int32))), .val (.long jl6_74), .second, .val (.int il8_74), .val (.long js0_90), .second, .val (.ref b11)] [(.int il8_74), (.int (f4_0 jl6_74))])
  by_cases hc119 : (f4_0 jl6_74) = il8_74
  · have hv_t := hv.trans (if_pos hc119)
    refine own_stepW (fun _ => XS.icmpNo X15.here hx rfl (hb hby at_119) rfl (teq hc119).2) ?_
    show own_EndsW p e below s _ _ _ T15 (mkF m 122 #[.val (.long j0), .second, .val (.long j1), .second, .val (.int i2), .val (.int (i2 &&& (3 : Int32))), .val (.long jl6_74), .second, .val (.int il8_74), .val (.long js0_90), .second, .val (.ref b11)] [])
    refine own_stepW (fun _ => XS.iconst X15.here hx rfl (hb hby at_122)) ?_
    show own_EndsW p e below s _ _ _ T15 (mkF m 123 #[.val (.long j0), .second, .val (.long j1), .second, .val (.int i2), .val (.int (i2 &&& (3 : Int32))), .val (.long jl6_74), .second, .val (.int il8_74), .val (.long js0_90), .second, .val (.ref b11)] [(.int (1 : Int32))])
    refine own_stepW (fun _ => XS.goto X15.here hx rfl (pc0 := 123) (pc' := 127) rfl (hb hby at_123) (by decide) (by decide)) ?_
    show own_EndsW p e below s _ _ _ T15 (mkF m 127 #[.val (.long j0), .second, .val (.long j1), .second, .val (.int i2), .val (.int (i2 &&& (3 : Int32))), .val (.long jl6_74), .second, .val (.int il8_74), .val (.long js0_90), .second, .val (.ref b11)] [(.int (1 : Int32))])
    exact own_retNW X15 hS (by rw [hh15]; exact hk) (t := .boolean) hx hret hlk (hb hby at_127) (by decide) (by decide) (by simp) ⟨congrArg (fun z => some (Value.int z)) hv_t.symm, N15, trivial⟩
  · have hv_f := hv.trans (if_neg hc119)
    refine own_stepW (fun _ => XS.icmpYes X15.here hx rfl (pc0 := 119) (pc' := 126) rfl (hb hby at_119) rfl (feq hc119).2 (by decide) (by decide)) ?_
    show own_EndsW p e below s _ _ _ T15 (mkF m 126 #[.val (.long j0), .second, .val (.long j1), .second, .val (.int i2), .val (.int (i2 &&& (3 : Int32))), .val (.long jl6_74), .second, .val (.int il8_74), .val (.long js0_90), .second, .val (.ref b11)] [])
    refine own_stepW (fun _ => XS.iconst X15.here hx rfl (hb hby at_126)) ?_
    show own_EndsW p e below s _ _ _ T15 (mkF m 127 #[.val (.long j0), .second, .val (.long j1), .second, .val (.int i2), .val (.int (i2 &&& (3 : Int32))), .val (.long jl6_74), .second, .val (.int il8_74), .val (.long js0_90), .second, .val (.ref b11)] [(.int (0 : Int32))])
    exact own_retNW X15 hS (by rw [hh15]; exact hk) (t := .boolean) hx hret hlk (hb hby at_127) (by decide) (by decide) (by simp) ⟨congrArg (fun z => some (Value.int z)) hv_f.symm, N15, trivial⟩
def f0_74 (j0 : Int64) (j1 : Int64) (i2 : Int32) (jl6_74 : Int64) (il8_74 : Int32) : Int32 := (if ((i2 >>> ((2 : Int32) &&& 31)) &&& (1 : Int32)) = (0 : Int32) then (f0_90 j0 j1 i2 jl6_74 il8_74) else (f0_90 j0 j1 i2 jl6_74 il8_74))
set_option maxRecDepth 65536 in
set_option maxHeartbeats 40000000 in
theorem b0_74 {p : Program} {l : Launch} {e : Env} {s : State} {m : MethodId} {args : Array Value} {below : List Frame} {meth : Method} {c : Code} {Z : State} {a0 : Array Value} {h0 : Heap} {n0 : Nat} {vm0 : Vm} {k0 : Nat} (C : own_C "com/example/tideshift/tideshift/ResultSpansWholeStreamPinLaw" code maxLocals ret x.name p (s.setVm vm0) m meth c Z a0) (Z0 : n0 ≤ h0.size) (hS : s.Since vm0 k0) (hk : k0 ≤ h0.size) {T0 : State} {locs : List Loc} (X0 : Stand p l e room_1 (s.setVm vm0) m args below meth c T0 locs 0 0) (e0 : T0.heap = h0) (N0 : Fr n0 locs) (j0 : Int64) (j1 : Int64) (i2 : Int32) (wc : Addr) (cw : Cell) (Sc : Sta Z h0 "java/lang/Integer$IntegerCache" "cache" "[Ljava/lang/Integer;" (.ref wc)) (hE : Ext Z.heap h0) (Sh : Sta Z h0 "java/lang/Integer$IntegerCache" "high" "I" (.int 127)) (Bx : Bxs Z wc cw "java/lang/Integer" "I" (256 : Int32) (fun j => .int (j - 128))) (jl6_74 : Int64) (il8_74 : Int32) (W : Int32) (hv : W = f0_74 j0 j1 i2 jl6_74 il8_74) :
    own_EndsW p e below s room_1.cells room_1.slots (own_QL n0 (some (.int W))) T0 (mkF m 74 #[.val (.long j0), .second, .val (.long j1), .second, .val (.int i2), .val (.int (i2 &&& (3 : Int32))), .val (.long jl6_74), .second, .val (.int il8_74), .unset, .unset, .unset] []) := by
  obtain ⟨hx, hZ, hw, hby, hml, hown, hret, hlk, hnm⟩ := C
  have C : own_C "com/example/tideshift/tideshift/ResultSpansWholeStreamPinLaw" code maxLocals ret x.name p (s.setVm vm0) m meth c Z a0 := ⟨hx, hZ, hw, hby, hml, hown, hret, hlk, hnm⟩
  unfold f0_74 at hv
  refine own_stepW (fun _ => XS.iload X0.here hx rfl (hb hby at_74) rfl) ?_
  show own_EndsW p e below s _ _ _ T0 (mkF m 76 #[.val (.long j0), .second, .val (.long j1), .second, .val (.int i2), .val (.int (i2 &&& (3 : Int32))), .val (.long jl6_74), .second, .val (.int il8_74), .unset, .unset, .unset] [(.int i2)])
  refine own_stepW (fun _ => XS.iconst X0.here hx rfl (hb hby at_76)) ?_
  show own_EndsW p e below s _ _ _ T0 (mkF m 77 #[.val (.long j0), .second, .val (.long j1), .second, .val (.int i2), .val (.int (i2 &&& (3 : Int32))), .val (.long jl6_74), .second, .val (.int il8_74), .unset, .unset, .unset] [(.int (2 : Int32)), (.int i2)])
  refine own_stepW (fun _ => XS.ishr X0.here hx rfl (hb hby at_77) rfl) ?_
  show own_EndsW p e below s _ _ _ T0 (mkF m 78 #[.val (.long j0), .second, .val (.long j1), .second, .val (.int i2), .val (.int (i2 &&& (3 : Int32))), .val (.long jl6_74), .second, .val (.int il8_74), .unset, .unset, .unset] [(.int (i2 >>> ((2 : Int32) &&& 31)))])
  refine own_stepW (fun _ => XS.iconst X0.here hx rfl (hb hby at_78)) ?_
  show own_EndsW p e below s _ _ _ T0 (mkF m 79 #[.val (.long j0), .second, .val (.long j1), .second, .val (.int i2), .val (.int (i2 &&& (3 : Int32))), .val (.long jl6_74), .second, .val (.int il8_74), .unset, .unset, .unset] [(.int (1 : Int32)), (.int (i2 >>> ((2 : Int32) &&& 31)))])
  refine own_stepW (fun _ => XS.iand X0.here hx rfl (hb hby at_79) rfl) ?_
  show own_EndsW p e below s _ _ _ T0 (mkF m 80 #[.val (.long j0), .second, .val (.long j1), .second, .val (.int i2), .val (.int (i2 &&& (3 : Int32))), .val (.long jl6_74), .second, .val (.int il8_74), .unset, .unset, .unset] [(.int ((i2 >>> ((2 : Int32) &&& 31)) &&& (1 : Int32)))])
  by_cases hc80 : ((i2 >>> ((2 : Int32) &&& 31)) &&& (1 : Int32)) = (0 : Int32)
  · have hv_t := hv.trans (if_pos hc80)
    refine own_stepW (fun _ => XS.ifYes X0.here hx rfl (pc0 := 80) (pc' := 89) rfl (hb hby at_80) rfl ((if0 _ _).trans (teq hc80).1) (by decide) (by decide)) ?_
    show own_EndsW p e below s _ _ _ T0 (mkF m 89 #[.val (.long j0), .second, .val (.long j1), .second, .val (.int i2), .val (.int (i2 &&& (3 : Int32))), .val (.long jl6_74), .second, .val (.int il8_74), .unset, .unset, .unset] [])
    refine own_stepW (fun _ => XS.lloadN X0.here hx rfl (hb hby at_89) rfl) ?_
    show own_EndsW p e below s _ _ _ T0 (mkF m 90 #[.val (.long j0), .second, .val (.long j1), .second, .val (.int i2), .val (.int (i2 &&& (3 : Int32))), .val (.long jl6_74), .second, .val (.int il8_74), .unset, .unset, .unset] [(.long j1)])
    exact b0_90 C Z0 hS hk X0 e0 N0 j0 j1 i2 wc cw Sc hE Sh Bx jl6_74 il8_74 j1 _ hv_t
  · have hv_f := hv.trans (if_neg hc80)
    refine own_stepW (fun _ => XS.ifNo X0.here hx rfl (hb hby at_80) rfl ((if0 _ _).trans (feq hc80).1)) ?_
    show own_EndsW p e below s _ _ _ T0 (mkF m 83 #[.val (.long j0), .second, .val (.long j1), .second, .val (.int i2), .val (.int (i2 &&& (3 : Int32))), .val (.long jl6_74), .second, .val (.int il8_74), .unset, .unset, .unset] [])
    refine own_stepW (fun _ => X0.ldc2Long hx hown (mvT hZ (hw _ (List.mem_of_getElem? (i := 39) rfl))) (g := (mkF m 83 #[.val (.long j0), .second, .val (.long j1), .second, .val (.int i2), .val (.int (i2 &&& (3 : Int32))), .val (.long jl6_74), .second, .val (.int il8_74), .unset, .unset, .unset] [])) rfl (hb hby at_83) _) ?_
    show own_EndsW p e below s _ _ _ T0 (mkF m 86 #[.val (.long j0), .second, .val (.long j1), .second, .val (.int i2), .val (.int (i2 &&& (3 : Int32))), .val (.long jl6_74), .second, .val (.int il8_74), .unset, .unset, .unset] [(.long (9223372036854775807 : Int64))])
    refine own_stepW (fun _ => XS.goto X0.here hx rfl (pc0 := 86) (pc' := 90) rfl (hb hby at_86) (by decide) (by decide)) ?_
    show own_EndsW p e below s _ _ _ T0 (mkF m 90 #[.val (.long j0), .second, .val (.long j1), .second, .val (.int i2), .val (.int (i2 &&& (3 : Int32))), .val (.long jl6_74), .second, .val (.int il8_74), .unset, .unset, .unset] [(.long (9223372036854775807 : Int64))])
    exact b0_90 C Z0 hS hk X0 e0 N0 j0 j1 i2 wc cw Sc hE Sh Bx jl6_74 il8_74 (9223372036854775807 : Int64) _ hv_f
def f0_61 (j0 : Int64) (j1 : Int64) (i2 : Int32) (is0_61 : Int32) : Int32 := (f0_74 j0 j1 i2 j0 is0_61)
set_option maxRecDepth 65536 in
set_option maxHeartbeats 40000000 in
theorem b0_61 {p : Program} {l : Launch} {e : Env} {s : State} {m : MethodId} {args : Array Value} {below : List Frame} {meth : Method} {c : Code} {Z : State} {a0 : Array Value} {h0 : Heap} {n0 : Nat} {vm0 : Vm} {k0 : Nat} (C : own_C "com/example/tideshift/tideshift/ResultSpansWholeStreamPinLaw" code maxLocals ret x.name p (s.setVm vm0) m meth c Z a0) (Z0 : n0 ≤ h0.size) (hS : s.Since vm0 k0) (hk : k0 ≤ h0.size) {T0 : State} {locs : List Loc} (X0 : Stand p l e room_1 (s.setVm vm0) m args below meth c T0 locs 0 0) (e0 : T0.heap = h0) (N0 : Fr n0 locs) (j0 : Int64) (j1 : Int64) (i2 : Int32) (wc : Addr) (cw : Cell) (Sc : Sta Z h0 "java/lang/Integer$IntegerCache" "cache" "[Ljava/lang/Integer;" (.ref wc)) (hE : Ext Z.heap h0) (Sh : Sta Z h0 "java/lang/Integer$IntegerCache" "high" "I" (.int 127)) (Bx : Bxs Z wc cw "java/lang/Integer" "I" (256 : Int32) (fun j => .int (j - 128))) (is0_61 : Int32) (W : Int32) (hv : W = f0_61 j0 j1 i2 is0_61) :
    own_EndsW p e below s room_1.cells room_1.slots (own_QL n0 (some (.int W))) T0 (mkF m 61 #[.val (.long j0), .second, .val (.long j1), .second, .val (.int i2), .val (.int (i2 &&& (3 : Int32))), .val (.long j0), .second, .unset, .unset, .unset, .unset] [(.int is0_61)]) := by
  obtain ⟨hx, hZ, hw, hby, hml, hown, hret, hlk, hnm⟩ := C
  have C : own_C "com/example/tideshift/tideshift/ResultSpansWholeStreamPinLaw" code maxLocals ret x.name p (s.setVm vm0) m meth c Z a0 := ⟨hx, hZ, hw, hby, hml, hown, hret, hlk, hnm⟩
  unfold f0_61 at hv
  refine own_stepW (fun _ => XS.istore X0.here hx rfl (hb hby at_61) rfl (l' := #[.val (.long j0), .second, .val (.long j1), .second, .val (.int i2), .val (.int (i2 &&& (3 : Int32))), .val (.long j0), .second, .val (.int is0_61), .unset, .unset, .unset]) rfl) ?_
  show own_EndsW p e below s _ _ _ T0 (mkF m 63 #[.val (.long j0), .second, .val (.long j1), .second, .val (.int i2), .val (.int (i2 &&& (3 : Int32))), .val (.long j0), .second, .val (.int is0_61), .unset, .unset, .unset] [])
  refine own_stepW (fun _ => XS.goto X0.here hx rfl (pc0 := 63) (pc' := 74) rfl (hb hby at_63) (by decide) (by decide)) ?_
  show own_EndsW p e below s _ _ _ T0 (mkF m 74 #[.val (.long j0), .second, .val (.long j1), .second, .val (.int i2), .val (.int (i2 &&& (3 : Int32))), .val (.long j0), .second, .val (.int is0_61), .unset, .unset, .unset] [])
  exact b0_74 C Z0 hS hk X0 e0 N0 j0 j1 i2 wc cw Sc hE Sh Bx j0 is0_61 _ hv
def f0_0 (j0 : Int64) (j1 : Int64) (i2 : Int32) : Int32 := (if (i2 &&& (3 : Int32)) = (0 : Int32) then (f0_74 j0 j1 i2 (-9223372036854775808 : Int64) (1 : Int32)) else (if (i2 &&& (3 : Int32)) = (1 : Int32) then (f0_74 j0 j1 i2 (-9223372036854775807 : Int64) (0 : Int32)) else (if (i2 &&& (3 : Int32)) = (2 : Int32) then (if j0 = (-9223372036854775808 : Int64) then (f0_61 j0 j1 i2 (1 : Int32)) else (f0_61 j0 j1 i2 (0 : Int32))) else (f0_74 j0 j1 i2 (9223372036854775807 : Int64) (0 : Int32)))))
set_option maxRecDepth 65536 in
set_option maxHeartbeats 40000000 in
theorem b0_0 {p : Program} {l : Launch} {e : Env} {s : State} {m : MethodId} {args : Array Value} {below : List Frame} {meth : Method} {c : Code} {Z : State} {a0 : Array Value} {h0 : Heap} {n0 : Nat} {vm0 : Vm} {k0 : Nat} (C : own_C "com/example/tideshift/tideshift/ResultSpansWholeStreamPinLaw" code maxLocals ret x.name p (s.setVm vm0) m meth c Z a0) (Z0 : n0 ≤ h0.size) (hS : s.Since vm0 k0) (hk : k0 ≤ h0.size) {T0 : State} {locs : List Loc} (X0 : Stand p l e room_1 (s.setVm vm0) m args below meth c T0 locs 0 0) (e0 : T0.heap = h0) (N0 : Fr n0 locs) (j0 : Int64) (j1 : Int64) (i2 : Int32) (wc : Addr) (cw : Cell) (Sc : Sta Z h0 "java/lang/Integer$IntegerCache" "cache" "[Ljava/lang/Integer;" (.ref wc)) (hE : Ext Z.heap h0) (Sh : Sta Z h0 "java/lang/Integer$IntegerCache" "high" "I" (.int 127)) (Bx : Bxs Z wc cw "java/lang/Integer" "I" (256 : Int32) (fun j => .int (j - 128))) (W : Int32) (hv : W = f0_0 j0 j1 i2) :
    own_EndsW p e below s room_1.cells room_1.slots (own_QL n0 (some (.int W))) T0 (mkF m 0 #[.val (.long j0), .second, .val (.long j1), .second, .val (.int i2), .unset, .unset, .unset, .unset, .unset, .unset, .unset] []) := by
  obtain ⟨hx, hZ, hw, hby, hml, hown, hret, hlk, hnm⟩ := C
  have C : own_C "com/example/tideshift/tideshift/ResultSpansWholeStreamPinLaw" code maxLocals ret x.name p (s.setVm vm0) m meth c Z a0 := ⟨hx, hZ, hw, hby, hml, hown, hret, hlk, hnm⟩
  unfold f0_0 at hv
  refine own_stepW (fun _ => XS.iload X0.here hx rfl (hb hby at_0) rfl) ?_
  show own_EndsW p e below s _ _ _ T0 (mkF m 2 #[.val (.long j0), .second, .val (.long j1), .second, .val (.int i2), .unset, .unset, .unset, .unset, .unset, .unset, .unset] [(.int i2)])
  refine own_stepW (fun _ => XS.iconst X0.here hx rfl (hb hby at_2)) ?_
  show own_EndsW p e below s _ _ _ T0 (mkF m 3 #[.val (.long j0), .second, .val (.long j1), .second, .val (.int i2), .unset, .unset, .unset, .unset, .unset, .unset, .unset] [(.int (3 : Int32)), (.int i2)])
  refine own_stepW (fun _ => XS.iand X0.here hx rfl (hb hby at_3) rfl) ?_
  show own_EndsW p e below s _ _ _ T0 (mkF m 4 #[.val (.long j0), .second, .val (.long j1), .second, .val (.int i2), .unset, .unset, .unset, .unset, .unset, .unset, .unset] [(.int (i2 &&& (3 : Int32)))])
  refine own_stepW (fun _ => XS.istore X0.here hx rfl (hb hby at_4) rfl (l' := #[.val (.long j0), .second, .val (.long j1), .second, .val (.int i2), .val (.int (i2 &&& (3 : Int32))), .unset, .unset, .unset, .unset, .unset, .unset]) rfl) ?_
  show own_EndsW p e below s _ _ _ T0 (mkF m 6 #[.val (.long j0), .second, .val (.long j1), .second, .val (.int i2), .val (.int (i2 &&& (3 : Int32))), .unset, .unset, .unset, .unset, .unset, .unset] [])
  refine own_stepW (fun _ => XS.iload X0.here hx rfl (hb hby at_6) rfl) ?_
  show own_EndsW p e below s _ _ _ T0 (mkF m 8 #[.val (.long j0), .second, .val (.long j1), .second, .val (.int i2), .val (.int (i2 &&& (3 : Int32))), .unset, .unset, .unset, .unset, .unset, .unset] [(.int (i2 &&& (3 : Int32)))])
  by_cases hc8 : (i2 &&& (3 : Int32)) = (0 : Int32)
  · have hv_t := hv.trans (if_pos hc8)
    refine own_stepW (fun _ => XS.ifNo X0.here hx rfl (hb hby at_8) rfl ((if0 _ _).trans (teq hc8).2)) ?_
    show own_EndsW p e below s _ _ _ T0 (mkF m 11 #[.val (.long j0), .second, .val (.long j1), .second, .val (.int i2), .val (.int (i2 &&& (3 : Int32))), .unset, .unset, .unset, .unset, .unset, .unset] [])
    refine own_stepW (fun _ => X0.ldc2Long hx hown (mvT hZ (hw _ (List.mem_of_getElem? (i := 0) rfl))) (g := (mkF m 11 #[.val (.long j0), .second, .val (.long j1), .second, .val (.int i2), .val (.int (i2 &&& (3 : Int32))), .unset, .unset, .unset, .unset, .unset, .unset] [])) rfl (hb hby at_11) _) ?_
    show own_EndsW p e below s _ _ _ T0 (mkF m 14 #[.val (.long j0), .second, .val (.long j1), .second, .val (.int i2), .val (.int (i2 &&& (3 : Int32))), .unset, .unset, .unset, .unset, .unset, .unset] [(.long (-9223372036854775808 : Int64))])
    refine own_stepW (fun _ => XS.lstore X0.here hx rfl (hb hby at_14) rfl (l' := #[.val (.long j0), .second, .val (.long j1), .second, .val (.int i2), .val (.int (i2 &&& (3 : Int32))), .val (.long (-9223372036854775808 : Int64)), .second, .unset, .unset, .unset, .unset]) rfl) ?_
    show own_EndsW p e below s _ _ _ T0 (mkF m 16 #[.val (.long j0), .second, .val (.long j1), .second, .val (.int i2), .val (.int (i2 &&& (3 : Int32))), .val (.long (-9223372036854775808 : Int64)), .second, .unset, .unset, .unset, .unset] [])
    refine own_stepW (fun _ => XS.iconst X0.here hx rfl (hb hby at_16)) ?_
    show own_EndsW p e below s _ _ _ T0 (mkF m 17 #[.val (.long j0), .second, .val (.long j1), .second, .val (.int i2), .val (.int (i2 &&& (3 : Int32))), .val (.long (-9223372036854775808 : Int64)), .second, .unset, .unset, .unset, .unset] [(.int (1 : Int32))])
    refine own_stepW (fun _ => XS.istore X0.here hx rfl (hb hby at_17) rfl (l' := #[.val (.long j0), .second, .val (.long j1), .second, .val (.int i2), .val (.int (i2 &&& (3 : Int32))), .val (.long (-9223372036854775808 : Int64)), .second, .val (.int (1 : Int32)), .unset, .unset, .unset]) rfl) ?_
    show own_EndsW p e below s _ _ _ T0 (mkF m 19 #[.val (.long j0), .second, .val (.long j1), .second, .val (.int i2), .val (.int (i2 &&& (3 : Int32))), .val (.long (-9223372036854775808 : Int64)), .second, .val (.int (1 : Int32)), .unset, .unset, .unset] [])
    refine own_stepW (fun _ => XS.goto X0.here hx rfl (pc0 := 19) (pc' := 74) rfl (hb hby at_19) (by decide) (by decide)) ?_
    show own_EndsW p e below s _ _ _ T0 (mkF m 74 #[.val (.long j0), .second, .val (.long j1), .second, .val (.int i2), .val (.int (i2 &&& (3 : Int32))), .val (.long (-9223372036854775808 : Int64)), .second, .val (.int (1 : Int32)), .unset, .unset, .unset] [])
    exact b0_74 C Z0 hS hk X0 e0 N0 j0 j1 i2 wc cw Sc hE Sh Bx (-9223372036854775808 : Int64) (1 : Int32) _ hv_t
  · have hv_f := hv.trans (if_neg hc8)
    refine own_stepW (fun _ => XS.ifYes X0.here hx rfl (pc0 := 8) (pc' := 22) rfl (hb hby at_8) rfl ((if0 _ _).trans (feq hc8).2) (by decide) (by decide)) ?_
    show own_EndsW p e below s _ _ _ T0 (mkF m 22 #[.val (.long j0), .second, .val (.long j1), .second, .val (.int i2), .val (.int (i2 &&& (3 : Int32))), .unset, .unset, .unset, .unset, .unset, .unset] [])
    refine own_stepW (fun _ => XS.iload X0.here hx rfl (hb hby at_22) rfl) ?_
    show own_EndsW p e below s _ _ _ T0 (mkF m 24 #[.val (.long j0), .second, .val (.long j1), .second, .val (.int i2), .val (.int (i2 &&& (3 : Int32))), .unset, .unset, .unset, .unset, .unset, .unset] [(.int (i2 &&& (3 : Int32)))])
    refine own_stepW (fun _ => XS.iconst X0.here hx rfl (hb hby at_24)) ?_
    show own_EndsW p e below s _ _ _ T0 (mkF m 25 #[.val (.long j0), .second, .val (.long j1), .second, .val (.int i2), .val (.int (i2 &&& (3 : Int32))), .unset, .unset, .unset, .unset, .unset, .unset] [(.int (1 : Int32)), (.int (i2 &&& (3 : Int32)))])
    by_cases hc25 : (i2 &&& (3 : Int32)) = (1 : Int32)
    · have hv_f_t := hv_f.trans (if_pos hc25)
      refine own_stepW (fun _ => XS.icmpNo X0.here hx rfl (hb hby at_25) rfl (teq hc25).2) ?_
      show own_EndsW p e below s _ _ _ T0 (mkF m 28 #[.val (.long j0), .second, .val (.long j1), .second, .val (.int i2), .val (.int (i2 &&& (3 : Int32))), .unset, .unset, .unset, .unset, .unset, .unset] [])
      refine own_stepW (fun _ => X0.ldc2Long hx hown (mvT hZ (hw _ (List.mem_of_getElem? (i := 55) rfl))) (g := (mkF m 28 #[.val (.long j0), .second, .val (.long j1), .second, .val (.int i2), .val (.int (i2 &&& (3 : Int32))), .unset, .unset, .unset, .unset, .unset, .unset] [])) rfl (hb hby at_28) _) ?_
      show own_EndsW p e below s _ _ _ T0 (mkF m 31 #[.val (.long j0), .second, .val (.long j1), .second, .val (.int i2), .val (.int (i2 &&& (3 : Int32))), .unset, .unset, .unset, .unset, .unset, .unset] [(.long (-9223372036854775807 : Int64))])
      refine own_stepW (fun _ => XS.lstore X0.here hx rfl (hb hby at_31) rfl (l' := #[.val (.long j0), .second, .val (.long j1), .second, .val (.int i2), .val (.int (i2 &&& (3 : Int32))), .val (.long (-9223372036854775807 : Int64)), .second, .unset, .unset, .unset, .unset]) rfl) ?_
      show own_EndsW p e below s _ _ _ T0 (mkF m 33 #[.val (.long j0), .second, .val (.long j1), .second, .val (.int i2), .val (.int (i2 &&& (3 : Int32))), .val (.long (-9223372036854775807 : Int64)), .second, .unset, .unset, .unset, .unset] [])
      refine own_stepW (fun _ => XS.iconst X0.here hx rfl (hb hby at_33)) ?_
      show own_EndsW p e below s _ _ _ T0 (mkF m 34 #[.val (.long j0), .second, .val (.long j1), .second, .val (.int i2), .val (.int (i2 &&& (3 : Int32))), .val (.long (-9223372036854775807 : Int64)), .second, .unset, .unset, .unset, .unset] [(.int (0 : Int32))])
      refine own_stepW (fun _ => XS.istore X0.here hx rfl (hb hby at_34) rfl (l' := #[.val (.long j0), .second, .val (.long j1), .second, .val (.int i2), .val (.int (i2 &&& (3 : Int32))), .val (.long (-9223372036854775807 : Int64)), .second, .val (.int (0 : Int32)), .unset, .unset, .unset]) rfl) ?_
      show own_EndsW p e below s _ _ _ T0 (mkF m 36 #[.val (.long j0), .second, .val (.long j1), .second, .val (.int i2), .val (.int (i2 &&& (3 : Int32))), .val (.long (-9223372036854775807 : Int64)), .second, .val (.int (0 : Int32)), .unset, .unset, .unset] [])
      refine own_stepW (fun _ => XS.goto X0.here hx rfl (pc0 := 36) (pc' := 74) rfl (hb hby at_36) (by decide) (by decide)) ?_
      show own_EndsW p e below s _ _ _ T0 (mkF m 74 #[.val (.long j0), .second, .val (.long j1), .second, .val (.int i2), .val (.int (i2 &&& (3 : Int32))), .val (.long (-9223372036854775807 : Int64)), .second, .val (.int (0 : Int32)), .unset, .unset, .unset] [])
      exact b0_74 C Z0 hS hk X0 e0 N0 j0 j1 i2 wc cw Sc hE Sh Bx (-9223372036854775807 : Int64) (0 : Int32) _ hv_f_t
    · have hv_f_f := hv_f.trans (if_neg hc25)
      refine own_stepW (fun _ => XS.icmpYes X0.here hx rfl (pc0 := 25) (pc' := 39) rfl (hb hby at_25) rfl (feq hc25).2 (by decide) (by decide)) ?_
      show own_EndsW p e below s _ _ _ T0 (mkF m 39 #[.val (.long j0), .second, .val (.long j1), .second, .val (.int i2), .val (.int (i2 &&& (3 : Int32))), .unset, .unset, .unset, .unset, .unset, .unset] [])
      refine own_stepW (fun _ => XS.iload X0.here hx rfl (hb hby at_39) rfl) ?_
      show own_EndsW p e below s _ _ _ T0 (mkF m 41 #[.val (.long j0), .second, .val (.long j1), .second, .val (.int i2), .val (.int (i2 &&& (3 : Int32))), .unset, .unset, .unset, .unset, .unset, .unset] [(.int (i2 &&& (3 : Int32)))])
      refine own_stepW (fun _ => XS.iconst X0.here hx rfl (hb hby at_41)) ?_
      show own_EndsW p e below s _ _ _ T0 (mkF m 42 #[.val (.long j0), .second, .val (.long j1), .second, .val (.int i2), .val (.int (i2 &&& (3 : Int32))), .unset, .unset, .unset, .unset, .unset, .unset] [(.int (2 : Int32)), (.int (i2 &&& (3 : Int32)))])
      by_cases hc42 : (i2 &&& (3 : Int32)) = (2 : Int32)
      · have hv_f_f_t := hv_f_f.trans (if_pos hc42)
        refine own_stepW (fun _ => XS.icmpNo X0.here hx rfl (hb hby at_42) rfl (teq hc42).2) ?_
        show own_EndsW p e below s _ _ _ T0 (mkF m 45 #[.val (.long j0), .second, .val (.long j1), .second, .val (.int i2), .val (.int (i2 &&& (3 : Int32))), .unset, .unset, .unset, .unset, .unset, .unset] [])
        refine own_stepW (fun _ => XS.lloadN X0.here hx rfl (hb hby at_45) rfl) ?_
        show own_EndsW p e below s _ _ _ T0 (mkF m 46 #[.val (.long j0), .second, .val (.long j1), .second, .val (.int i2), .val (.int (i2 &&& (3 : Int32))), .unset, .unset, .unset, .unset, .unset, .unset] [(.long j0)])
        refine own_stepW (fun _ => XS.lstore X0.here hx rfl (hb hby at_46) rfl (l' := #[.val (.long j0), .second, .val (.long j1), .second, .val (.int i2), .val (.int (i2 &&& (3 : Int32))), .val (.long j0), .second, .unset, .unset, .unset, .unset]) rfl) ?_
        show own_EndsW p e below s _ _ _ T0 (mkF m 48 #[.val (.long j0), .second, .val (.long j1), .second, .val (.int i2), .val (.int (i2 &&& (3 : Int32))), .val (.long j0), .second, .unset, .unset, .unset, .unset] [])
        refine own_stepW (fun _ => XS.lloadN X0.here hx rfl (hb hby at_48) rfl) ?_
        show own_EndsW p e below s _ _ _ T0 (mkF m 49 #[.val (.long j0), .second, .val (.long j1), .second, .val (.int i2), .val (.int (i2 &&& (3 : Int32))), .val (.long j0), .second, .unset, .unset, .unset, .unset] [(.long j0)])
        refine own_stepW (fun _ => X0.ldc2Long hx hown (mvT hZ (hw _ (List.mem_of_getElem? (i := 0) rfl))) (g := (mkF m 49 #[.val (.long j0), .second, .val (.long j1), .second, .val (.int i2), .val (.int (i2 &&& (3 : Int32))), .val (.long j0), .second, .unset, .unset, .unset, .unset] [(.long j0)])) rfl (hb hby at_49) _) ?_
        show own_EndsW p e below s _ _ _ T0 (mkF m 52 #[.val (.long j0), .second, .val (.long j1), .second, .val (.int i2), .val (.int (i2 &&& (3 : Int32))), .val (.long j0), .second, .unset, .unset, .unset, .unset] [(.long (-9223372036854775808 : Int64)), (.long j0)])
        refine own_stepW (fun _ => XS.lcmp X0.here hx rfl (hb hby at_52) rfl) ?_
        show own_EndsW p e below s _ _ _ T0 (mkF m 53 #[.val (.long j0), .second, .val (.long j1), .second, .val (.int i2), .val (.int (i2 &&& (3 : Int32))), .val (.long j0), .second, .unset, .unset, .unset, .unset] [(.int (lcmpW j0 (-9223372036854775808 : Int64)))])
        by_cases hc53 : j0 = (-9223372036854775808 : Int64)
        · have hv_f_f_t_t := hv_f_f_t.trans (if_pos hc53)
          refine own_stepW (fun _ => XS.ifNo X0.here hx rfl (hb hby at_53) rfl ((if0 _ _).trans (teq ((lw_eq _ _).mpr hc53)).2)) ?_
          show own_EndsW p e below s _ _ _ T0 (mkF m 56 #[.val (.long j0), .second, .val (.long j1), .second, .val (.int i2), .val (.int (i2 &&& (3 : Int32))), .val (.long j0), .second, .unset, .unset, .unset, .unset] [])
          refine own_stepW (fun _ => XS.iconst X0.here hx rfl (hb hby at_56)) ?_
          show own_EndsW p e below s _ _ _ T0 (mkF m 57 #[.val (.long j0), .second, .val (.long j1), .second, .val (.int i2), .val (.int (i2 &&& (3 : Int32))), .val (.long j0), .second, .unset, .unset, .unset, .unset] [(.int (1 : Int32))])
          refine own_stepW (fun _ => XS.goto X0.here hx rfl (pc0 := 57) (pc' := 61) rfl (hb hby at_57) (by decide) (by decide)) ?_
          show own_EndsW p e below s _ _ _ T0 (mkF m 61 #[.val (.long j0), .second, .val (.long j1), .second, .val (.int i2), .val (.int (i2 &&& (3 : Int32))), .val (.long j0), .second, .unset, .unset, .unset, .unset] [(.int (1 : Int32))])
          exact b0_61 C Z0 hS hk X0 e0 N0 j0 j1 i2 wc cw Sc hE Sh Bx (1 : Int32) _ hv_f_f_t_t
        · have hv_f_f_t_f := hv_f_f_t.trans (if_neg hc53)
          refine own_stepW (fun _ => XS.ifYes X0.here hx rfl (pc0 := 53) (pc' := 60) rfl (hb hby at_53) rfl ((if0 _ _).trans (feq (fun q => hc53 ((lw_eq _ _).mp q))).2) (by decide) (by decide)) ?_
          show own_EndsW p e below s _ _ _ T0 (mkF m 60 #[.val (.long j0), .second, .val (.long j1), .second, .val (.int i2), .val (.int (i2 &&& (3 : Int32))), .val (.long j0), .second, .unset, .unset, .unset, .unset] [])
          refine own_stepW (fun _ => XS.iconst X0.here hx rfl (hb hby at_60)) ?_
          show own_EndsW p e below s _ _ _ T0 (mkF m 61 #[.val (.long j0), .second, .val (.long j1), .second, .val (.int i2), .val (.int (i2 &&& (3 : Int32))), .val (.long j0), .second, .unset, .unset, .unset, .unset] [(.int (0 : Int32))])
          exact b0_61 C Z0 hS hk X0 e0 N0 j0 j1 i2 wc cw Sc hE Sh Bx (0 : Int32) _ hv_f_f_t_f
      · have hv_f_f_f := hv_f_f.trans (if_neg hc42)
        refine own_stepW (fun _ => XS.icmpYes X0.here hx rfl (pc0 := 42) (pc' := 66) rfl (hb hby at_42) rfl (feq hc42).2 (by decide) (by decide)) ?_
        show own_EndsW p e below s _ _ _ T0 (mkF m 66 #[.val (.long j0), .second, .val (.long j1), .second, .val (.int i2), .val (.int (i2 &&& (3 : Int32))), .unset, .unset, .unset, .unset, .unset, .unset] [])
        refine own_stepW (fun _ => X0.ldc2Long hx hown (mvT hZ (hw _ (List.mem_of_getElem? (i := 39) rfl))) (g := (mkF m 66 #[.val (.long j0), .second, .val (.long j1), .second, .val (.int i2), .val (.int (i2 &&& (3 : Int32))), .unset, .unset, .unset, .unset, .unset, .unset] [])) rfl (hb hby at_66) _) ?_
        show own_EndsW p e below s _ _ _ T0 (mkF m 69 #[.val (.long j0), .second, .val (.long j1), .second, .val (.int i2), .val (.int (i2 &&& (3 : Int32))), .unset, .unset, .unset, .unset, .unset, .unset] [(.long (9223372036854775807 : Int64))])
        refine own_stepW (fun _ => XS.lstore X0.here hx rfl (hb hby at_69) rfl (l' := #[.val (.long j0), .second, .val (.long j1), .second, .val (.int i2), .val (.int (i2 &&& (3 : Int32))), .val (.long (9223372036854775807 : Int64)), .second, .unset, .unset, .unset, .unset]) rfl) ?_
        show own_EndsW p e below s _ _ _ T0 (mkF m 71 #[.val (.long j0), .second, .val (.long j1), .second, .val (.int i2), .val (.int (i2 &&& (3 : Int32))), .val (.long (9223372036854775807 : Int64)), .second, .unset, .unset, .unset, .unset] [])
        refine own_stepW (fun _ => XS.iconst X0.here hx rfl (hb hby at_71)) ?_
        show own_EndsW p e below s _ _ _ T0 (mkF m 72 #[.val (.long j0), .second, .val (.long j1), .second, .val (.int i2), .val (.int (i2 &&& (3 : Int32))), .val (.long (9223372036854775807 : Int64)), .second, .unset, .unset, .unset, .unset] [(.int (0 : Int32))])
        refine own_stepW (fun _ => XS.istore X0.here hx rfl (hb hby at_72) rfl (l' := #[.val (.long j0), .second, .val (.long j1), .second, .val (.int i2), .val (.int (i2 &&& (3 : Int32))), .val (.long (9223372036854775807 : Int64)), .second, .val (.int (0 : Int32)), .unset, .unset, .unset]) rfl) ?_
        show own_EndsW p e below s _ _ _ T0 (mkF m 74 #[.val (.long j0), .second, .val (.long j1), .second, .val (.int i2), .val (.int (i2 &&& (3 : Int32))), .val (.long (9223372036854775807 : Int64)), .second, .val (.int (0 : Int32)), .unset, .unset, .unset] [])
        exact b0_74 C Z0 hS hk X0 e0 N0 j0 j1 i2 wc cw Sc hE Sh Bx (9223372036854775807 : Int64) (0 : Int32) _ hv_f_f_f
theorem ef_rm0 (m : MethodId) (j0 : Int64) (j1 : Int64) (i2 : Int32) : entryFrame m #[(.long j0), (.long j1), (.int i2)] maxLocals = mkF m 0 #[.val (.long j0), .second, .val (.long j1), .second, .val (.int i2), .unset, .unset, .unset, .unset, .unset, .unset, .unset] [] := by first | (simp [entryFrame, mkF, argsToLocals, Value.category, maxLocals]; done) | rfl
set_option maxRecDepth 65536 in
set_option maxHeartbeats 40000000 in
theorem rm0 (l : Launch) (Z : State) (a0 : Array Value) (hw : ∀ d ∈ tables_1, d.before a0 Z = true) (ws : List Jvm.Cond) (j0 : Int64) (j1 : Int64) (i2 : Int32) (wc : Addr) (cw : Cell) (h0 : Heap) (n0 : Nat) (Z0 : n0 ≤ h0.size) (Sc : Sta Z h0 "java/lang/Integer$IntegerCache" "cache" "[Ljava/lang/Integer;" (.ref wc)) (hE : Ext Z.heap h0) (Sh : Sta Z h0 "java/lang/Integer$IntegerCache" "high" "I" (.int 127)) (Bx : Bxs Z wc cw "java/lang/Integer" "I" (256 : Int32) (fun j => .int (j - 128))) :
    MetFree l x (head1 (Jvm.Cond.code x code maxLocals ret :: ws) room_1) (fun a U => a = #[(.long j0), (.long j1), (.int i2)] ∧ Z.Warmed39 U.vm ∧ U.heap = h0) (fun _ _ _ _ _ => True) (fun _ U o U' => ∃ v L, o = .returned v ∧ (own_QL n0 (some (.int (f0_0 j0 j1 i2)))) v U'.heap L ∧ ReturnedEndW U o U' L room_1.cells room_1.slots) := by
  refine MetFree.of_bodySF (plainFor_of_name pn_3) hisR ?_
  intro p e s m args below meth c s₁ Bd hml0 hP hK
  obtain ⟨rfl, hZ, hh⟩ := hP
  have X0 : Stand p l e room_1 s m #[(.long j0), (.long j1), (.int i2)] below meth c s₁ [] 0 0 := Stand.of_body Bd
  have e0 : s₁.heap = h0 := by rw [← hh, Bd.state]; rfl
  have C : own_C "com/example/tideshift/tideshift/ResultSpansWholeStreamPinLaw" code maxLocals ret x.name p (s.setVm s.vm) m meth c Z a0 := ⟨Bd.exec, hZ, hw, Bd.bytes, hml0, findClass_of_methodNamed Bd.named, Bd.returns, Bd.notSynchronized, (name_of_methodNamed Bd.named Bd.method).1⟩
  have r := b0_0 C Z0 ((State.WarmedH.refl s).since n0) Z0 X0 e0 (Fr.nil n0) j0 j1 i2 wc cw Sc hE Sh Bx _ rfl
  rw [ef_rm0 m j0 j1 i2]
  exact r
theorem own_core (j0 j1 : Int64) (i2 : Int32) (a : Int64) (b : Int32) (h : f4_0 a = b) : f0_74 j0 j1 i2 a b = 1 := by
  unfold f0_74 f0_90
  rw [if_pos h]; split <;> rfl
theorem own_law (j0 j1 : Int64) (i2 : Int32) : f0_0 j0 j1 i2 = 1 := by
  unfold f0_0 f0_61
  split
  · exact own_core _ _ _ _ _ (by unfold f4_0; decide)
  · split
    · exact own_core _ _ _ _ _ (by unfold f4_0; decide)
    · split
      · split
        · rename_i h; exact own_core _ _ _ _ _ (by unfold f4_0; exact if_pos h)
        · rename_i h; exact own_core _ _ _ _ _ (by unfold f4_0; exact if_neg h)
      · exact own_core _ _ _ _ _ (by unfold f4_0; decide)

set_option maxRecDepth 65536 in
set_option maxHeartbeats 40000000 in
theorem comes_1 {Post : Tables → Env → Array Value → State → Outcome → State → Prop} (hpost : ∀ tb e args s v u, (limb_1_1.after args s (.returned v) u = true ∧ limb_1_2.after args s (.returned v) u = true ∧ True) → ReturnedEndW s (.returned v) u (Jvm.fieldLocs frame_1_writes args s ++ Jvm.arrayLocs frame_1_arrays args s ++ Jvm.staticLocs frame_1_statics s) 16 1152 → Post tb e args s (.returned v) u) :
    ArmFor flags0 classFile x code maxLocals ret World_1 tables_1 room_1 Calls_1 rest_1 Pre_1 Post := by
  intro l hfl _ _ p e ha hc hk s m args below hf hA hF happ hP
  obtain ⟨hcalls, hrest, hpre⟩ := hP
  obtain ⟨-, -, -, hnamed, -, -, -, hat⟩ := (Spec.applies_iff hf).mp happ
  obtain ⟨hg, hn⟩ := and_e (Cond.before_iff.mp (show (Jvm.Cond.and given_1 narrow_1).before args s = true from hpre))
  obtain ⟨g1, g2⟩ := and_e hg
  obtain ⟨g3, g4⟩ := and_e g2
  obtain ⟨g5, g6⟩ := and_e g4
  obtain ⟨w0, w1, w2, rfl⟩ : ∃ w0 w1 w2 : Value, args = #[w0, w1, w2] := by
    have hs : args.size = 3 := by simpa [Cond.value, given_1] using g1
    obtain ⟨L⟩ := args
    match L, hs with
    | [w0, w1, w2], _ => exact ⟨w0, w1, w2, rfl⟩
  have hw := fun d (hd : d ∈ tables_1) => atoms_spec (ws := Jvm.Cond.code x code maxLocals ret :: tables_1) hat d (List.mem_cons_of_mem _ hd)
  have hfit : Fit s := fun {y c} hc i hi => by
    obtain ⟨ha, rfl⟩ := Array.getElem?_eq_some_iff.mp hc
    have q := List.all_eq_true.mp ((Array.all_eq_true_iff_forall_mem.mp hF) _ (Array.getElem_mem ha)) i (List.mem_range.mpr hi)
    simpa [Array.getElem?_eq_getElem hi] using q
  obtain ⟨hS, hown0⟩ := atoms_of _ (rest_1_c_eq ▸ (show rest_1_c.before _ s = true from hrest))
  obtain ⟨i0, ei0⟩ := isL_v g3
  obtain rfl : w0 = (.long i0) := Option.some.inj ei0
  obtain ⟨i1, ei1⟩ := isL_v g5
  obtain rfl : w1 = (.long i1) := Option.some.inj ei1
  obtain ⟨i2, ei2⟩ := is_v g6
  obtain rfl : w2 = (.int i2) := Option.some.inj ei2
  obtain ⟨wc, cw, Sc, Sh, Bx⟩ := own_cache hw hS
  obtain ⟨n, o, h1, h2, h3, _, L, rfl, ⟨rfl, N, -⟩, hq⟩ := rm0 l s _ hw tables_1 i0 i1 i2 wc cw s.heap s.heap.size (Nat.le_refl _) Sc ⟨Nat.le_refl _, fun _ _ q => q⟩ Sh Bx p e ha hc hk s m _ below hf ((Spec.applies_iff_loose hf).mp happ).1 ⟨rfl, State.Warmed39.refl s, rfl⟩ trivial
  refine ⟨n, _, h1, h2, h3, hpost _ _ _ _ _ _ ⟨Cond.after_iff.mpr rfl, Cond.after_iff.mpr (eq_i res_at (Term.int_eval (1)) (congrArg Value.int (own_law i0 i1 i2))), trivial⟩ ⟨hq.1, hq.2.1, hq.2.2.1, (hq.2.2.2.sift fun y hy => Or.inr (N y hy)).mono (by decide) (by decide)⟩⟩
theorem main_1_1 : Claimed_1_1 := comes_1 fun _ _ _ _ _ _ h hF => ⟨h.1, hF⟩
theorem main_1_2 : Claimed_1_2 := comes_1 fun _ _ _ _ _ _ h hF => ⟨h.2.1, hF⟩
end Jvm.Pilot.@@N@@
namespace Jvm.Pilot.@@N@@
open Jvm Jvm.ClassFile Sem Op Lib Jvm.Free Jvm.Stand Jvm.Pilot.@@N@@.Jvm.D
/-! MADE BY PROGRAM (witnessworld.py) out of the Statement's table words and the real class files: 18 classes; the members and pool entries that the words name. The judged class is class 1, her method 1. -/
namespace start1
open Jvm.ClassFile
def u (s : String) : CpInfo := .utf8 (stringToUtf16 s)
/-- a pool by its gaps: so many unusable entries, then the entry; so many at the end -/
def gap : Nat → List CpInfo → List CpInfo
  | 0, r => r
  | n + 1, r => .unusable :: gap n r
def poolList (es : List (Nat × CpInfo)) (last : Nat) : List CpInfo := es.foldr (fun e r => gap e.1 (e.2 :: r)) (gap last [])
def pool (es : List (Nat × CpInfo)) (last : Nat) : Array CpInfo := ⟨poolList es last⟩
def fileOf (pool : Array CpInfo) (this : Nat) (attrs : Array Attribute := #[]) (ms : Array MethodInfo := #[]) (fl : Nat := 33) (sup : Nat := 0) (ifs : Array Nat := #[]) (fds : Array FieldInfo := #[]) : ClassFile where
  minorVersion := 0
  majorVersion := 65
  constantPool := pool
  accessFlags := fl
  thisClass := this
  superClass := sup
  interfaces := ifs
  fields := fds
  methods := ms
  attributes := attrs
def plain (name : String) (sup : Option ClassId) : Class where
  name := name
  kind := .ordinary
  loader := none
  accessFlags := 33
  super := sup
  interfaces := #[]
  cf := none
  fields := #[]
  methods := #[]
  instanceTypes := #[]
  staticTypes := #[]
  resolved := #[]
  callSites := []
  init := .initialized
  statics := none
  mirror := none

def pool0 : Array CpInfo := pool [(5, u "<init>"), (0, u "()V"), (1, .class_ 10), (1, u "java/lang/Object")] 113

def k0c0 : Code := { maxStack := 0, maxLocals := 1, code := object_method_1_code, exceptionTable := #[], attributes := #[] }
def k0m0 : Method := { name := "<init>", desc := "()V", sig := { parameters := [], returnType := none }, accessFlags := 1, code := some k0c0 }
/-- java/lang/Object -/
def k0 : Class := { plain "java/lang/Object" none with
  accessFlags := 33
  interfaces := #[]
  cf := some (fileOf pool0 8 #[] #[{ accessFlags := 1, nameIndex := 5, descriptorIndex := 6, attributes := #[] }] 33 0 #[] #[])
  fields := #[]
  methods := #[k0m0]
  instanceTypes := #[]
  staticTypes := #[]
  resolved := Array.replicate 124 none
  statics := none }

def pool1 : Array CpInfo := pool [(2, .class_ 4), (1, u "java/lang/Object"), (0, u "<init>"), (0, u "()V"), (2, .long 9223372036854775808), (1, .long 9223372036854775809), (1, .long 9223372036854775807), (1, .class_ 16), (0, u "com/example/tideshift/tideshift/Result"), (0, .string 18), (0, u "k"), (0, .methodref 20 21), (0, .class_ 22), (0, .nameAndType 23 24), (0, u "java/lang/Integer"), (0, u "valueOf"), (0, u "(I)Ljava/lang/Integer;"), (0, .methodref 15 26), (0, .nameAndType 5 27), (0, u "(JJLjava/lang/String;Ljava/lang/Object;)V"), (0, .methodref 15 29), (0, .nameAndType 30 31), (0, u "spansWholeStream"), (0, u "()Z"), (0, .class_ 33), (0, u "com/example/tideshift/tideshift/ResultSpansWholeStreamPinLaw"), (2, u "law"), (0, u "(JJI)Z")] 3

def k1m0 : Method := { name := "<init>", desc := "()V", sig := { parameters := [], returnType := none }, accessFlags := 2, code := none }
def k1c1 : Code := { maxStack := 8, maxLocals := 12, code := code, exceptionTable := #[], attributes := #[] }
def k1m1 : Method := { name := "law", desc := "(JJI)Z", sig := { parameters := [.long, .long, .int], returnType := some .boolean }, accessFlags := 9, code := some k1c1 }
/-- com/example/tideshift/tideshift/ResultSpansWholeStreamPinLaw -/
def k1 : Class := { plain "com/example/tideshift/tideshift/ResultSpansWholeStreamPinLaw" (some 0) with
  accessFlags := 49
  interfaces := #[]
  cf := some (fileOf pool1 32 #[] #[{ accessFlags := 2, nameIndex := 5, descriptorIndex := 6, attributes := #[] }, { accessFlags := 9, nameIndex := 36, descriptorIndex := 37, attributes := #[] }] 49 2 #[] #[])
  fields := #[]
  methods := #[k1m0, k1m1]
  instanceTypes := #[]
  staticTypes := #[]
  resolved := Array.replicate 41 none
  statics := none }

def pool2 : Array CpInfo := pool [(1, .methodref 2 3), (0, .class_ 4), (0, .nameAndType 5 6), (0, u "java/lang/Object"), (0, u "<init>"), (0, u "()V"), (0, .fieldref 8 9), (0, .class_ 10), (0, .nameAndType 11 12), (0, u "com/example/tideshift/tideshift/Result"), (0, u "start"), (0, u "J"), (0, .fieldref 8 14), (0, .nameAndType 15 12), (0, u "end"), (0, .fieldref 8 17), (0, .nameAndType 18 19), (0, u "key"), (0, u "Ljava/lang/String;"), (0, .fieldref 8 21), (0, .nameAndType 22 23), (0, u "value"), (0, u "Ljava/lang/Object;"), (2, .long 9223372036854775808), (36, u "spansWholeStream"), (0, u "()Z"), (20, u "(JJLjava/lang/String;Ljava/lang/Object;)V")] 36

def k2c0 : Code := { maxStack := 3, maxLocals := 7, code := prog_67_method_1_code, exceptionTable := #[], attributes := #[] }
def k2m0 : Method := { name := "<init>", desc := "(JJLjava/lang/String;Ljava/lang/Object;)V", sig := { parameters := [.long, .long, (.object "java/lang/String"), (.object "java/lang/Object")], returnType := none }, accessFlags := 0, code := some k2c0 }
def k2c1 : Code := { maxStack := 4, maxLocals := 1, code := prog_67_method_6_code, exceptionTable := #[], attributes := #[] }
def k2m1 : Method := { name := "spansWholeStream", desc := "()Z", sig := { parameters := [], returnType := some .boolean }, accessFlags := 0, code := some k2c1 }
/-- com/example/tideshift/tideshift/Result -/
def k2 : Class := { plain "com/example/tideshift/tideshift/Result" (some 0) with
  accessFlags := 49
  interfaces := #[]
  cf := some (fileOf pool2 8 #[] #[{ accessFlags := 0, nameIndex := 5, descriptorIndex := 85, attributes := #[] }, { accessFlags := 0, nameIndex := 63, descriptorIndex := 64, attributes := #[] }] 49 2 #[] #[{ accessFlags := 18, nameIndex := 11, descriptorIndex := 12, attributes := #[] }, { accessFlags := 18, nameIndex := 15, descriptorIndex := 12, attributes := #[] }, { accessFlags := 18, nameIndex := 18, descriptorIndex := 19, attributes := #[] }, { accessFlags := 18, nameIndex := 22, descriptorIndex := 23, attributes := #[] }])
  fields := #[{ name := "start", type := .long, accessFlags := 18, slot := 0, constantValue := 0 }, { name := "end", type := .long, accessFlags := 18, slot := 1, constantValue := 0 }, { name := "key", type := (.object "java/lang/String"), accessFlags := 18, slot := 2, constantValue := 0 }, { name := "value", type := (.object "java/lang/Object"), accessFlags := 18, slot := 3, constantValue := 0 }]
  methods := #[k2m0, k2m1]
  instanceTypes := #[.long, .long, (.object "java/lang/String"), (.object "java/lang/Object")]
  staticTypes := #[]
  resolved := Array.replicate 122 none
  statics := none }

def pool3 : Array CpInfo := pool [(1, .class_ 2), (0, u "java/io/Serializable"), (0, .class_ 4), (0, u "java/lang/Object")] 2

/-- java/io/Serializable -/
def k3 : Class := { plain "java/io/Serializable" (some 0) with
  accessFlags := 1537
  interfaces := #[]
  cf := some (fileOf pool3 1 #[] #[] 1537 3 #[] #[])
  fields := #[]
  methods := #[]
  instanceTypes := #[]
  staticTypes := #[]
  resolved := Array.replicate 7 none
  statics := none }

def pool4 : Array CpInfo := pool [(1, .class_ 2), (0, u "java/lang/Comparable"), (0, .class_ 4), (0, u "java/lang/Object")] 7

/-- java/lang/Comparable -/
def k4 : Class := { plain "java/lang/Comparable" (some 0) with
  accessFlags := 1537
  interfaces := #[]
  cf := some (fileOf pool4 1 #[] #[] 1537 3 #[] #[])
  fields := #[]
  methods := #[]
  instanceTypes := #[]
  staticTypes := #[]
  resolved := Array.replicate 12 none
  statics := none }

def pool5 : Array CpInfo := pool [(2, .class_ 4), (1, u "java/lang/CharSequence"), (42, .class_ 48), (0, u "java/lang/CharSequence$1CodePointIterator"), (10, .class_ 60), (0, u "java/lang/CharSequence$1CharIterator"), (5, .class_ 67), (0, u "java/lang/Object")] 63

/-- java/lang/CharSequence -/
def k5 : Class := { plain "java/lang/CharSequence" (some 0) with
  accessFlags := 1537
  interfaces := #[]
  cf := some (fileOf pool5 2 #[.nestMembers #[47, 59]] #[] 1537 66 #[] #[])
  fields := #[]
  methods := #[]
  instanceTypes := #[]
  staticTypes := #[]
  resolved := Array.replicate 131 none
  statics := none }

def pool6 : Array CpInfo := pool [(1, .class_ 2), (0, u "java/lang/constant/Constable"), (0, .class_ 4), (0, u "java/lang/Object")] 6

/-- java/lang/constant/Constable -/
def k6 : Class := { plain "java/lang/constant/Constable" (some 0) with
  accessFlags := 1537
  interfaces := #[]
  cf := some (fileOf pool6 1 #[] #[] 1537 3 #[] #[])
  fields := #[]
  methods := #[]
  instanceTypes := #[]
  staticTypes := #[]
  resolved := Array.replicate 11 none
  statics := none }

def pool7 : Array CpInfo := pool [(1, .class_ 2), (0, u "java/lang/constant/ConstantDesc"), (0, .class_ 4), (0, u "java/lang/Object")] 32

/-- java/lang/constant/ConstantDesc -/
def k7 : Class := { plain "java/lang/constant/ConstantDesc" (some 0) with
  accessFlags := 1537
  interfaces := #[]
  cf := some (fileOf pool7 1 #[] #[] 1537 3 #[] #[])
  fields := #[]
  methods := #[]
  instanceTypes := #[]
  staticTypes := #[]
  resolved := Array.replicate 37 none
  statics := none }

def pool8 : Array CpInfo := pool [(2, .class_ 4), (1, u "java/lang/Object"), (0, u "<init>"), (0, u "()V"), (3, .class_ 12), (1, u "java/lang/String"), (0, u "value"), (0, u "[B"), (2, u "coder"), (0, u "B"), (2, u "hash"), (0, u "I"), (2, u "hashIsZero"), (0, u "Z"), (13, u "COMPACT_STRINGS"), (534, .class_ 576), (0, u "java/lang/CharSequence"), (22, u "CASE_INSENSITIVE_ORDER"), (0, u "Ljava/util/Comparator;"), (500, u "serialPersistentFields"), (0, u "[Ljava/io/ObjectStreamField;"), (0, .class_ 1104), (0, u "java/lang/String$CaseInsensitiveComparator"), (1, .class_ 1107), (0, u "java/io/Serializable"), (0, .class_ 1109), (0, u "java/lang/Comparable"), (0, .class_ 1111), (0, u "java/lang/constant/Constable"), (0, .class_ 1113), (0, u "java/lang/constant/ConstantDesc"), (2, u "serialVersionUID"), (0, u "J"), (3, u "REPL"), (0, u "C"), (2, u "LATIN1"), (1, u "UTF16")] 323

def k8m0 : Method := { name := "<init>", desc := "()V", sig := { parameters := [], returnType := none }, accessFlags := 1, code := none }
/-- java/lang/String -/
def k8 : Class := { plain "java/lang/String" (some 0) with
  accessFlags := 49
  interfaces := #[3, 4, 5, 6, 7]
  cf := some (fileOf pool8 10 #[.nestMembers #[1103]] #[{ accessFlags := 1, nameIndex := 5, descriptorIndex := 6, attributes := #[] }] 49 2 #[1106, 1108, 575, 1110, 1112] #[{ accessFlags := 18, nameIndex := 13, descriptorIndex := 14, attributes := #[] }, { accessFlags := 18, nameIndex := 17, descriptorIndex := 18, attributes := #[] }, { accessFlags := 2, nameIndex := 21, descriptorIndex := 22, attributes := #[] }, { accessFlags := 2, nameIndex := 25, descriptorIndex := 26, attributes := #[] }, { accessFlags := 26, nameIndex := 1116, descriptorIndex := 1117, attributes := #[] }, { accessFlags := 24, nameIndex := 40, descriptorIndex := 26, attributes := #[] }, { accessFlags := 26, nameIndex := 1101, descriptorIndex := 1102, attributes := #[] }, { accessFlags := 26, nameIndex := 1121, descriptorIndex := 1122, attributes := #[] }, { accessFlags := 25, nameIndex := 599, descriptorIndex := 600, attributes := #[] }, { accessFlags := 24, nameIndex := 1125, descriptorIndex := 18, attributes := #[] }, { accessFlags := 24, nameIndex := 1127, descriptorIndex := 18, attributes := #[] }])
  fields := #[{ name := "value", type := (.array .byte), accessFlags := 18, slot := 0, constantValue := 0 }, { name := "coder", type := .byte, accessFlags := 18, slot := 1, constantValue := 0 }, { name := "hash", type := .int, accessFlags := 2, slot := 2, constantValue := 0 }, { name := "hashIsZero", type := .boolean, accessFlags := 2, slot := 3, constantValue := 0 }, { name := "serialVersionUID", type := .long, accessFlags := 26, slot := 0, constantValue := 0 }, { name := "COMPACT_STRINGS", type := .boolean, accessFlags := 24, slot := 1, constantValue := 0 }, { name := "serialPersistentFields", type := (.array (.object "java/io/ObjectStreamField")), accessFlags := 26, slot := 2, constantValue := 0 }, { name := "REPL", type := .char, accessFlags := 26, slot := 3, constantValue := 0 }, { name := "CASE_INSENSITIVE_ORDER", type := (.object "java/util/Comparator"), accessFlags := 25, slot := 4, constantValue := 0 }, { name := "LATIN1", type := .byte, accessFlags := 24, slot := 5, constantValue := 0 }, { name := "UTF16", type := .byte, accessFlags := 24, slot := 6, constantValue := 0 }]
  methods := #[k8m0]
  instanceTypes := #[(.array .byte), .byte, .int, .boolean]
  staticTypes := #[.long, .boolean, (.array (.object "java/io/ObjectStreamField")), .char, (.object "java/util/Comparator"), .byte, .byte]
  resolved := Array.replicate 1451 none
  statics := none }

def pool9 : Array CpInfo := pool [(1, .methodref 2 3), (0, .class_ 4), (0, .nameAndType 5 6), (0, u "java/lang/Object"), (0, u "<init>"), (0, u "()V"), (1, .class_ 10), (1, u "java/lang/Number"), (2, .class_ 14), (0, u "java/io/Serializable"), (0, u "serialVersionUID"), (0, u "J")] 20

def k9c0 : Code := { maxStack := 1, maxLocals := 1, code := jdk_18_method_1_code, exceptionTable := #[], attributes := #[] }
def k9m0 : Method := { name := "<init>", desc := "()V", sig := { parameters := [], returnType := none }, accessFlags := 1, code := some k9c0 }
/-- java/lang/Number -/
def k9 : Class := { plain "java/lang/Number" (some 0) with
  accessFlags := 1057
  interfaces := #[3]
  cf := some (fileOf pool9 8 #[] #[{ accessFlags := 1, nameIndex := 5, descriptorIndex := 6, attributes := #[] }] 1057 2 #[13] #[{ accessFlags := 26, nameIndex := 15, descriptorIndex := 16, attributes := #[] }])
  fields := #[{ name := "serialVersionUID", type := .long, accessFlags := 26, slot := 0, constantValue := 0 }]
  methods := #[k9m0]
  instanceTypes := #[]
  staticTypes := #[.long]
  resolved := Array.replicate 37 none
  statics := none }

def pool10 : Array CpInfo := pool [(1, .class_ 2), (0, u "java/lang/Integer"), (16, u "digits"), (0, u "[C"), (46, u "<init>"), (17, u "DigitOnes"), (0, u "[B"), (2, u "DigitTens"), (10, .nameAndType 67 101), (0, u "()V"), (85, u "valueOf"), (0, u "(I)Ljava/lang/Integer;"), (0, .class_ 190), (0, u "java/lang/Integer$IntegerCache"), (0, .fieldref 189 192), (0, .nameAndType 193 194), (0, u "high"), (0, u "I"), (0, .fieldref 189 196), (0, .nameAndType 197 198), (0, u "cache"), (0, u "[Ljava/lang/Integer;"), (0, .methodref 1 200), (0, .nameAndType 67 201), (0, u "(I)V"), (0, .methodref 203 100), (0, .class_ 204), (0, u "java/lang/Number"), (0, .fieldref 1 206), (0, .nameAndType 207 194), (0, u "value"), (94, u "TYPE"), (0, u "Ljava/lang/Class;"), (0, .class_ 305), (0, u "java/lang/Comparable"), (0, .class_ 307), (0, u "java/lang/constant/Constable"), (0, .class_ 309), (0, u "java/lang/constant/ConstantDesc"), (0, u "MIN_VALUE"), (1, u "MAX_VALUE"), (3, u "SIZE"), (1, u "BYTES"), (1, u "serialVersionUID"), (0, u "J")] 131

def k10c0 : Code := { maxStack := 3, maxLocals := 1, code := jdk_33_method_22_code, exceptionTable := #[], attributes := #[] }
def k10m0 : Method := { name := "valueOf", desc := "(I)Ljava/lang/Integer;", sig := { parameters := [.int], returnType := some (.object "java/lang/Integer") }, accessFlags := 9, code := some k10c0 }
def k10c1 : Code := { maxStack := 2, maxLocals := 2, code := jdk_33_method_23_code, exceptionTable := #[], attributes := #[] }
def k10m1 : Method := { name := "<init>", desc := "(I)V", sig := { parameters := [.int], returnType := none }, accessFlags := 1, code := some k10c1 }
/-- java/lang/Integer -/
def k10 : Class := { plain "java/lang/Integer" (some 9) with
  accessFlags := 49
  interfaces := #[4, 6, 7]
  cf := some (fileOf pool10 1 #[.nestMembers #[189]] #[{ accessFlags := 9, nameIndex := 187, descriptorIndex := 188, attributes := #[] }, { accessFlags := 1, nameIndex := 67, descriptorIndex := 201, attributes := #[] }] 49 203 #[304, 306, 308] #[{ accessFlags := 25, nameIndex := 310, descriptorIndex := 194, attributes := #[] }, { accessFlags := 25, nameIndex := 312, descriptorIndex := 194, attributes := #[] }, { accessFlags := 25, nameIndex := 302, descriptorIndex := 303, attributes := #[] }, { accessFlags := 24, nameIndex := 19, descriptorIndex := 20, attributes := #[] }, { accessFlags := 24, nameIndex := 89, descriptorIndex := 86, attributes := #[] }, { accessFlags := 24, nameIndex := 85, descriptorIndex := 86, attributes := #[] }, { accessFlags := 18, nameIndex := 207, descriptorIndex := 194, attributes := #[] }, { accessFlags := 25, nameIndex := 316, descriptorIndex := 194, attributes := #[] }, { accessFlags := 25, nameIndex := 318, descriptorIndex := 194, attributes := #[] }, { accessFlags := 26, nameIndex := 320, descriptorIndex := 321, attributes := #[] }])
  fields := #[{ name := "MIN_VALUE", type := .int, accessFlags := 25, slot := 0, constantValue := 0 }, { name := "MAX_VALUE", type := .int, accessFlags := 25, slot := 1, constantValue := 0 }, { name := "TYPE", type := (.object "java/lang/Class"), accessFlags := 25, slot := 2, constantValue := 0 }, { name := "digits", type := (.array .char), accessFlags := 24, slot := 3, constantValue := 0 }, { name := "DigitTens", type := (.array .byte), accessFlags := 24, slot := 4, constantValue := 0 }, { name := "DigitOnes", type := (.array .byte), accessFlags := 24, slot := 5, constantValue := 0 }, { name := "value", type := .int, accessFlags := 18, slot := 0, constantValue := 0 }, { name := "SIZE", type := .int, accessFlags := 25, slot := 6, constantValue := 0 }, { name := "BYTES", type := .int, accessFlags := 25, slot := 7, constantValue := 0 }, { name := "serialVersionUID", type := .long, accessFlags := 26, slot := 8, constantValue := 0 }]
  methods := #[k10m0, k10m1]
  instanceTypes := #[.int]
  staticTypes := #[.int, .int, (.object "java/lang/Class"), (.array .char), (.array .byte), (.array .byte), .int, .int, .long]
  resolved := Array.replicate 453 none
  statics := none }

def pool11 : Array CpInfo := pool [(2, .class_ 4), (1, u "java/lang/Object"), (0, u "<init>"), (0, u "()V"), (0, .class_ 8), (0, u "java/lang/Integer"), (7, .class_ 18), (1, u "java/lang/Integer$IntegerCache"), (0, u "$assertionsDisabled"), (0, u "Z"), (26, u "high"), (0, u "I"), (8, u "archivedCache"), (0, u "[Ljava/lang/Integer;"), (12, u "cache"), (0, u "low")] 27

def k11m0 : Method := { name := "<init>", desc := "()V", sig := { parameters := [], returnType := none }, accessFlags := 2, code := none }
/-- java/lang/Integer$IntegerCache -/
def k11 : Class := { plain "java/lang/Integer$IntegerCache" (some 0) with
  accessFlags := 48
  interfaces := #[]
  cf := some (fileOf pool11 16 #[.nestHost 7] #[{ accessFlags := 2, nameIndex := 5, descriptorIndex := 6, attributes := #[] }] 48 2 #[] #[{ accessFlags := 24, nameIndex := 72, descriptorIndex := 48, attributes := #[] }, { accessFlags := 24, nameIndex := 47, descriptorIndex := 48, attributes := #[] }, { accessFlags := 24, nameIndex := 71, descriptorIndex := 58, attributes := #[] }, { accessFlags := 8, nameIndex := 57, descriptorIndex := 58, attributes := #[] }, { accessFlags := 4120, nameIndex := 19, descriptorIndex := 20, attributes := #[] }])
  fields := #[{ name := "low", type := .int, accessFlags := 24, slot := 0, constantValue := 0 }, { name := "high", type := .int, accessFlags := 24, slot := 1, constantValue := 0 }, { name := "cache", type := (.array (.object "java/lang/Integer")), accessFlags := 24, slot := 2, constantValue := 0 }, { name := "archivedCache", type := (.array (.object "java/lang/Integer")), accessFlags := 8, slot := 3, constantValue := 0 }, { name := "$assertionsDisabled", type := .boolean, accessFlags := 4120, slot := 4, constantValue := 0 }]
  methods := #[k11m0]
  instanceTypes := #[]
  staticTypes := #[.int, .int, (.array (.object "java/lang/Integer")), (.array (.object "java/lang/Integer")), .boolean]
  resolved := Array.replicate 100 none
  statics := some 0 }

def pool12 : Array CpInfo := pool [(1, u "java/lang/Cloneable"), (0, .class_ 1), (0, u "java/lang/Object"), (0, .class_ 3)] 3

/-- java/lang/Cloneable -/
def k12 : Class := { plain "java/lang/Cloneable" (some 0) with
  accessFlags := 1537
  interfaces := #[]
  cf := some (fileOf pool12 2 #[] #[] 1537 4 #[] #[])
  fields := #[]
  methods := #[]
  instanceTypes := #[]
  staticTypes := #[]
  resolved := Array.replicate 8 none
  statics := none }

/-- the primitive byte -/
def k13 : Class := { plain "byte" none with kind := .primitive 'B', accessFlags := 0x411 }
/-- [B -/
def k14 : Class := { plain "[B" (some 0) with kind := .array 13 .byte, interfaces := #[12, 3], accessFlags := 1041 }

/-- the primitive int -/
def k15 : Class := { plain "int" none with kind := .primitive 'I', accessFlags := 0x411 }
/-- [I -/
def k16 : Class := { plain "[I" (some 0) with kind := .array 15 .int, interfaces := #[12, 3], accessFlags := 1041 }

/-- [Ljava/lang/Integer; -/
def k17 : Class := { plain "[Ljava/lang/Integer;" (some 0) with kind := .array 10 (.object "java/lang/Integer"), interfaces := #[12, 3], accessFlags := 1041 }

def heap : Heap := #[{ cls := 11, slots := #[.int 0, .int 127, .ref 1, .null, .int 0], vm := .statics 11 },
  { cls := 17, slots := #[.ref 2, .ref 3, .ref 4, .ref 5, .ref 6, .ref 7, .ref 8, .ref 9, .ref 10, .ref 11, .ref 12, .ref 13, .ref 14, .ref 15, .ref 16, .ref 17, .ref 18, .ref 19, .ref 20, .ref 21, .ref 22, .ref 23, .ref 24, .ref 25, .ref 26, .ref 27, .ref 28, .ref 29, .ref 30, .ref 31, .ref 32, .ref 33, .ref 34, .ref 35, .ref 36, .ref 37, .ref 38, .ref 39, .ref 40, .ref 41, .ref 42, .ref 43, .ref 44, .ref 45, .ref 46, .ref 47, .ref 48, .ref 49, .ref 50, .ref 51, .ref 52, .ref 53, .ref 54, .ref 55, .ref 56, .ref 57, .ref 58, .ref 59, .ref 60, .ref 61, .ref 62, .ref 63, .ref 64, .ref 65, .ref 66, .ref 67, .ref 68, .ref 69, .ref 70, .ref 71, .ref 72, .ref 73, .ref 74, .ref 75, .ref 76, .ref 77, .ref 78, .ref 79, .ref 80, .ref 81, .ref 82, .ref 83, .ref 84, .ref 85, .ref 86, .ref 87, .ref 88, .ref 89, .ref 90, .ref 91, .ref 92, .ref 93, .ref 94, .ref 95, .ref 96, .ref 97, .ref 98, .ref 99, .ref 100, .ref 101, .ref 102, .ref 103, .ref 104, .ref 105, .ref 106, .ref 107, .ref 108, .ref 109, .ref 110, .ref 111, .ref 112, .ref 113, .ref 114, .ref 115, .ref 116, .ref 117, .ref 118, .ref 119, .ref 120, .ref 121, .ref 122, .ref 123, .ref 124, .ref 125, .ref 126, .ref 127, .ref 128, .ref 129, .ref 130, .ref 131, .ref 132, .ref 133, .ref 134, .ref 135, .ref 136, .ref 137, .ref 138, .ref 139, .ref 140, .ref 141, .ref 142, .ref 143, .ref 144, .ref 145, .ref 146, .ref 147, .ref 148, .ref 149, .ref 150, .ref 151, .ref 152, .ref 153, .ref 154, .ref 155, .ref 156, .ref 157, .ref 158, .ref 159, .ref 160, .ref 161, .ref 162, .ref 163, .ref 164, .ref 165, .ref 166, .ref 167, .ref 168, .ref 169, .ref 170, .ref 171, .ref 172, .ref 173, .ref 174, .ref 175, .ref 176, .ref 177, .ref 178, .ref 179, .ref 180, .ref 181, .ref 182, .ref 183, .ref 184, .ref 185, .ref 186, .ref 187, .ref 188, .ref 189, .ref 190, .ref 191, .ref 192, .ref 193, .ref 194, .ref 195, .ref 196, .ref 197, .ref 198, .ref 199, .ref 200, .ref 201, .ref 202, .ref 203, .ref 204, .ref 205, .ref 206, .ref 207, .ref 208, .ref 209, .ref 210, .ref 211, .ref 212, .ref 213, .ref 214, .ref 215, .ref 216, .ref 217, .ref 218, .ref 219, .ref 220, .ref 221, .ref 222, .ref 223, .ref 224, .ref 225, .ref 226, .ref 227, .ref 228, .ref 229, .ref 230, .ref 231, .ref 232, .ref 233, .ref 234, .ref 235, .ref 236, .ref 237, .ref 238, .ref 239, .ref 240, .ref 241, .ref 242, .ref 243, .ref 244, .ref 245, .ref 246, .ref 247, .ref 248, .ref 249, .ref 250, .ref 251, .ref 252, .ref 253, .ref 254, .ref 255, .ref 256, .ref 257], vm := .none },
  { cls := 10, slots := #[.int (-128)], vm := .none },
  { cls := 10, slots := #[.int (-127)], vm := .none },
  { cls := 10, slots := #[.int (-126)], vm := .none },
  { cls := 10, slots := #[.int (-125)], vm := .none },
  { cls := 10, slots := #[.int (-124)], vm := .none },
  { cls := 10, slots := #[.int (-123)], vm := .none },
  { cls := 10, slots := #[.int (-122)], vm := .none },
  { cls := 10, slots := #[.int (-121)], vm := .none },
  { cls := 10, slots := #[.int (-120)], vm := .none },
  { cls := 10, slots := #[.int (-119)], vm := .none },
  { cls := 10, slots := #[.int (-118)], vm := .none },
  { cls := 10, slots := #[.int (-117)], vm := .none },
  { cls := 10, slots := #[.int (-116)], vm := .none },
  { cls := 10, slots := #[.int (-115)], vm := .none },
  { cls := 10, slots := #[.int (-114)], vm := .none },
  { cls := 10, slots := #[.int (-113)], vm := .none },
  { cls := 10, slots := #[.int (-112)], vm := .none },
  { cls := 10, slots := #[.int (-111)], vm := .none },
  { cls := 10, slots := #[.int (-110)], vm := .none },
  { cls := 10, slots := #[.int (-109)], vm := .none },
  { cls := 10, slots := #[.int (-108)], vm := .none },
  { cls := 10, slots := #[.int (-107)], vm := .none },
  { cls := 10, slots := #[.int (-106)], vm := .none },
  { cls := 10, slots := #[.int (-105)], vm := .none },
  { cls := 10, slots := #[.int (-104)], vm := .none },
  { cls := 10, slots := #[.int (-103)], vm := .none },
  { cls := 10, slots := #[.int (-102)], vm := .none },
  { cls := 10, slots := #[.int (-101)], vm := .none },
  { cls := 10, slots := #[.int (-100)], vm := .none },
  { cls := 10, slots := #[.int (-99)], vm := .none },
  { cls := 10, slots := #[.int (-98)], vm := .none },
  { cls := 10, slots := #[.int (-97)], vm := .none },
  { cls := 10, slots := #[.int (-96)], vm := .none },
  { cls := 10, slots := #[.int (-95)], vm := .none },
  { cls := 10, slots := #[.int (-94)], vm := .none },
  { cls := 10, slots := #[.int (-93)], vm := .none },
  { cls := 10, slots := #[.int (-92)], vm := .none },
  { cls := 10, slots := #[.int (-91)], vm := .none },
  { cls := 10, slots := #[.int (-90)], vm := .none },
  { cls := 10, slots := #[.int (-89)], vm := .none },
  { cls := 10, slots := #[.int (-88)], vm := .none },
  { cls := 10, slots := #[.int (-87)], vm := .none },
  { cls := 10, slots := #[.int (-86)], vm := .none },
  { cls := 10, slots := #[.int (-85)], vm := .none },
  { cls := 10, slots := #[.int (-84)], vm := .none },
  { cls := 10, slots := #[.int (-83)], vm := .none },
  { cls := 10, slots := #[.int (-82)], vm := .none },
  { cls := 10, slots := #[.int (-81)], vm := .none },
  { cls := 10, slots := #[.int (-80)], vm := .none },
  { cls := 10, slots := #[.int (-79)], vm := .none },
  { cls := 10, slots := #[.int (-78)], vm := .none },
  { cls := 10, slots := #[.int (-77)], vm := .none },
  { cls := 10, slots := #[.int (-76)], vm := .none },
  { cls := 10, slots := #[.int (-75)], vm := .none },
  { cls := 10, slots := #[.int (-74)], vm := .none },
  { cls := 10, slots := #[.int (-73)], vm := .none },
  { cls := 10, slots := #[.int (-72)], vm := .none },
  { cls := 10, slots := #[.int (-71)], vm := .none },
  { cls := 10, slots := #[.int (-70)], vm := .none },
  { cls := 10, slots := #[.int (-69)], vm := .none },
  { cls := 10, slots := #[.int (-68)], vm := .none },
  { cls := 10, slots := #[.int (-67)], vm := .none },
  { cls := 10, slots := #[.int (-66)], vm := .none },
  { cls := 10, slots := #[.int (-65)], vm := .none },
  { cls := 10, slots := #[.int (-64)], vm := .none },
  { cls := 10, slots := #[.int (-63)], vm := .none },
  { cls := 10, slots := #[.int (-62)], vm := .none },
  { cls := 10, slots := #[.int (-61)], vm := .none },
  { cls := 10, slots := #[.int (-60)], vm := .none },
  { cls := 10, slots := #[.int (-59)], vm := .none },
  { cls := 10, slots := #[.int (-58)], vm := .none },
  { cls := 10, slots := #[.int (-57)], vm := .none },
  { cls := 10, slots := #[.int (-56)], vm := .none },
  { cls := 10, slots := #[.int (-55)], vm := .none },
  { cls := 10, slots := #[.int (-54)], vm := .none },
  { cls := 10, slots := #[.int (-53)], vm := .none },
  { cls := 10, slots := #[.int (-52)], vm := .none },
  { cls := 10, slots := #[.int (-51)], vm := .none },
  { cls := 10, slots := #[.int (-50)], vm := .none },
  { cls := 10, slots := #[.int (-49)], vm := .none },
  { cls := 10, slots := #[.int (-48)], vm := .none },
  { cls := 10, slots := #[.int (-47)], vm := .none },
  { cls := 10, slots := #[.int (-46)], vm := .none },
  { cls := 10, slots := #[.int (-45)], vm := .none },
  { cls := 10, slots := #[.int (-44)], vm := .none },
  { cls := 10, slots := #[.int (-43)], vm := .none },
  { cls := 10, slots := #[.int (-42)], vm := .none },
  { cls := 10, slots := #[.int (-41)], vm := .none },
  { cls := 10, slots := #[.int (-40)], vm := .none },
  { cls := 10, slots := #[.int (-39)], vm := .none },
  { cls := 10, slots := #[.int (-38)], vm := .none },
  { cls := 10, slots := #[.int (-37)], vm := .none },
  { cls := 10, slots := #[.int (-36)], vm := .none },
  { cls := 10, slots := #[.int (-35)], vm := .none },
  { cls := 10, slots := #[.int (-34)], vm := .none },
  { cls := 10, slots := #[.int (-33)], vm := .none },
  { cls := 10, slots := #[.int (-32)], vm := .none },
  { cls := 10, slots := #[.int (-31)], vm := .none },
  { cls := 10, slots := #[.int (-30)], vm := .none },
  { cls := 10, slots := #[.int (-29)], vm := .none },
  { cls := 10, slots := #[.int (-28)], vm := .none },
  { cls := 10, slots := #[.int (-27)], vm := .none },
  { cls := 10, slots := #[.int (-26)], vm := .none },
  { cls := 10, slots := #[.int (-25)], vm := .none },
  { cls := 10, slots := #[.int (-24)], vm := .none },
  { cls := 10, slots := #[.int (-23)], vm := .none },
  { cls := 10, slots := #[.int (-22)], vm := .none },
  { cls := 10, slots := #[.int (-21)], vm := .none },
  { cls := 10, slots := #[.int (-20)], vm := .none },
  { cls := 10, slots := #[.int (-19)], vm := .none },
  { cls := 10, slots := #[.int (-18)], vm := .none },
  { cls := 10, slots := #[.int (-17)], vm := .none },
  { cls := 10, slots := #[.int (-16)], vm := .none },
  { cls := 10, slots := #[.int (-15)], vm := .none },
  { cls := 10, slots := #[.int (-14)], vm := .none },
  { cls := 10, slots := #[.int (-13)], vm := .none },
  { cls := 10, slots := #[.int (-12)], vm := .none },
  { cls := 10, slots := #[.int (-11)], vm := .none },
  { cls := 10, slots := #[.int (-10)], vm := .none },
  { cls := 10, slots := #[.int (-9)], vm := .none },
  { cls := 10, slots := #[.int (-8)], vm := .none },
  { cls := 10, slots := #[.int (-7)], vm := .none },
  { cls := 10, slots := #[.int (-6)], vm := .none },
  { cls := 10, slots := #[.int (-5)], vm := .none },
  { cls := 10, slots := #[.int (-4)], vm := .none },
  { cls := 10, slots := #[.int (-3)], vm := .none },
  { cls := 10, slots := #[.int (-2)], vm := .none },
  { cls := 10, slots := #[.int (-1)], vm := .none },
  { cls := 10, slots := #[.int 0], vm := .none },
  { cls := 10, slots := #[.int 1], vm := .none },
  { cls := 10, slots := #[.int 2], vm := .none },
  { cls := 10, slots := #[.int 3], vm := .none },
  { cls := 10, slots := #[.int 4], vm := .none },
  { cls := 10, slots := #[.int 5], vm := .none },
  { cls := 10, slots := #[.int 6], vm := .none },
  { cls := 10, slots := #[.int 7], vm := .none },
  { cls := 10, slots := #[.int 8], vm := .none },
  { cls := 10, slots := #[.int 9], vm := .none },
  { cls := 10, slots := #[.int 10], vm := .none },
  { cls := 10, slots := #[.int 11], vm := .none },
  { cls := 10, slots := #[.int 12], vm := .none },
  { cls := 10, slots := #[.int 13], vm := .none },
  { cls := 10, slots := #[.int 14], vm := .none },
  { cls := 10, slots := #[.int 15], vm := .none },
  { cls := 10, slots := #[.int 16], vm := .none },
  { cls := 10, slots := #[.int 17], vm := .none },
  { cls := 10, slots := #[.int 18], vm := .none },
  { cls := 10, slots := #[.int 19], vm := .none },
  { cls := 10, slots := #[.int 20], vm := .none },
  { cls := 10, slots := #[.int 21], vm := .none },
  { cls := 10, slots := #[.int 22], vm := .none },
  { cls := 10, slots := #[.int 23], vm := .none },
  { cls := 10, slots := #[.int 24], vm := .none },
  { cls := 10, slots := #[.int 25], vm := .none },
  { cls := 10, slots := #[.int 26], vm := .none },
  { cls := 10, slots := #[.int 27], vm := .none },
  { cls := 10, slots := #[.int 28], vm := .none },
  { cls := 10, slots := #[.int 29], vm := .none },
  { cls := 10, slots := #[.int 30], vm := .none },
  { cls := 10, slots := #[.int 31], vm := .none },
  { cls := 10, slots := #[.int 32], vm := .none },
  { cls := 10, slots := #[.int 33], vm := .none },
  { cls := 10, slots := #[.int 34], vm := .none },
  { cls := 10, slots := #[.int 35], vm := .none },
  { cls := 10, slots := #[.int 36], vm := .none },
  { cls := 10, slots := #[.int 37], vm := .none },
  { cls := 10, slots := #[.int 38], vm := .none },
  { cls := 10, slots := #[.int 39], vm := .none },
  { cls := 10, slots := #[.int 40], vm := .none },
  { cls := 10, slots := #[.int 41], vm := .none },
  { cls := 10, slots := #[.int 42], vm := .none },
  { cls := 10, slots := #[.int 43], vm := .none },
  { cls := 10, slots := #[.int 44], vm := .none },
  { cls := 10, slots := #[.int 45], vm := .none },
  { cls := 10, slots := #[.int 46], vm := .none },
  { cls := 10, slots := #[.int 47], vm := .none },
  { cls := 10, slots := #[.int 48], vm := .none },
  { cls := 10, slots := #[.int 49], vm := .none },
  { cls := 10, slots := #[.int 50], vm := .none },
  { cls := 10, slots := #[.int 51], vm := .none },
  { cls := 10, slots := #[.int 52], vm := .none },
  { cls := 10, slots := #[.int 53], vm := .none },
  { cls := 10, slots := #[.int 54], vm := .none },
  { cls := 10, slots := #[.int 55], vm := .none },
  { cls := 10, slots := #[.int 56], vm := .none },
  { cls := 10, slots := #[.int 57], vm := .none },
  { cls := 10, slots := #[.int 58], vm := .none },
  { cls := 10, slots := #[.int 59], vm := .none },
  { cls := 10, slots := #[.int 60], vm := .none },
  { cls := 10, slots := #[.int 61], vm := .none },
  { cls := 10, slots := #[.int 62], vm := .none },
  { cls := 10, slots := #[.int 63], vm := .none },
  { cls := 10, slots := #[.int 64], vm := .none },
  { cls := 10, slots := #[.int 65], vm := .none },
  { cls := 10, slots := #[.int 66], vm := .none },
  { cls := 10, slots := #[.int 67], vm := .none },
  { cls := 10, slots := #[.int 68], vm := .none },
  { cls := 10, slots := #[.int 69], vm := .none },
  { cls := 10, slots := #[.int 70], vm := .none },
  { cls := 10, slots := #[.int 71], vm := .none },
  { cls := 10, slots := #[.int 72], vm := .none },
  { cls := 10, slots := #[.int 73], vm := .none },
  { cls := 10, slots := #[.int 74], vm := .none },
  { cls := 10, slots := #[.int 75], vm := .none },
  { cls := 10, slots := #[.int 76], vm := .none },
  { cls := 10, slots := #[.int 77], vm := .none },
  { cls := 10, slots := #[.int 78], vm := .none },
  { cls := 10, slots := #[.int 79], vm := .none },
  { cls := 10, slots := #[.int 80], vm := .none },
  { cls := 10, slots := #[.int 81], vm := .none },
  { cls := 10, slots := #[.int 82], vm := .none },
  { cls := 10, slots := #[.int 83], vm := .none },
  { cls := 10, slots := #[.int 84], vm := .none },
  { cls := 10, slots := #[.int 85], vm := .none },
  { cls := 10, slots := #[.int 86], vm := .none },
  { cls := 10, slots := #[.int 87], vm := .none },
  { cls := 10, slots := #[.int 88], vm := .none },
  { cls := 10, slots := #[.int 89], vm := .none },
  { cls := 10, slots := #[.int 90], vm := .none },
  { cls := 10, slots := #[.int 91], vm := .none },
  { cls := 10, slots := #[.int 92], vm := .none },
  { cls := 10, slots := #[.int 93], vm := .none },
  { cls := 10, slots := #[.int 94], vm := .none },
  { cls := 10, slots := #[.int 95], vm := .none },
  { cls := 10, slots := #[.int 96], vm := .none },
  { cls := 10, slots := #[.int 97], vm := .none },
  { cls := 10, slots := #[.int 98], vm := .none },
  { cls := 10, slots := #[.int 99], vm := .none },
  { cls := 10, slots := #[.int 100], vm := .none },
  { cls := 10, slots := #[.int 101], vm := .none },
  { cls := 10, slots := #[.int 102], vm := .none },
  { cls := 10, slots := #[.int 103], vm := .none },
  { cls := 10, slots := #[.int 104], vm := .none },
  { cls := 10, slots := #[.int 105], vm := .none },
  { cls := 10, slots := #[.int 106], vm := .none },
  { cls := 10, slots := #[.int 107], vm := .none },
  { cls := 10, slots := #[.int 108], vm := .none },
  { cls := 10, slots := #[.int 109], vm := .none },
  { cls := 10, slots := #[.int 110], vm := .none },
  { cls := 10, slots := #[.int 111], vm := .none },
  { cls := 10, slots := #[.int 112], vm := .none },
  { cls := 10, slots := #[.int 113], vm := .none },
  { cls := 10, slots := #[.int 114], vm := .none },
  { cls := 10, slots := #[.int 115], vm := .none },
  { cls := 10, slots := #[.int 116], vm := .none },
  { cls := 10, slots := #[.int 117], vm := .none },
  { cls := 10, slots := #[.int 118], vm := .none },
  { cls := 10, slots := #[.int 119], vm := .none },
  { cls := 10, slots := #[.int 120], vm := .none },
  { cls := 10, slots := #[.int 121], vm := .none },
  { cls := 10, slots := #[.int 122], vm := .none },
  { cls := 10, slots := #[.int 123], vm := .none },
  { cls := 10, slots := #[.int 124], vm := .none },
  { cls := 10, slots := #[.int 125], vm := .none },
  { cls := 10, slots := #[.int 126], vm := .none },
  { cls := 10, slots := #[.int 127], vm := .none }]
def classes : Array Class := #[k0, k1, k2, k3, k4, k5, k6, k7, k8, k9, k10, k11, k12, k13, k14, k15, k16, k17]
def interned : List (Array UInt16 × Addr) := []
def slotsUsed : Nat := 517
def theMethod : MethodId := ⟨1, 1⟩
def args0 : Array Value := #[.long 5, .long 7, .int 3]
def aboutOver (below : List Frame) : State where
  vm := { classes := classes, interned := interned.toArray }
  heap := heap
  slotsUsed := slotsUsed
  threads := #[{ frames := .invoking theMethod args0 :: below }]
def below0 : List Frame := [.native { method := ⟨0, 0⟩, args := #[] }]
def about1 : State := aboutOver below0
def p0 : Program := .bare "" "" ""
def e0 : Env := launch0.env 0 0 0
theorem w_frames : about1.frames = Frame.invoking theMethod args0 :: below0 := rfl
set_option maxRecDepth 65536 in
theorem w_args : argsFit about1.vm theMethod args0 = true := by decide +kernel
set_option maxRecDepth 65536 in
theorem w_heap : heapFits about1 = true := by decide +kernel
set_option maxRecDepth 65536 in
theorem w_runnable : about1.curStatus? = some .runnable := by decide +kernel
set_option maxRecDepth 65536 in
theorem w_alone : about1.alone = true := by decide +kernel
set_option maxRecDepth 65536 in
theorem w_named : about1.methodNamed? x = some theMethod := by decide +kernel
set_option maxRecDepth 65536 in
theorem w_hears : about1.hears theMethod below0 = true := by decide +kernel
set_option maxRecDepth 65536 in
theorem w_ripe : about1.ripe theMethod args0 below0 = true := by decide +kernel
theorem w_running : about1.status = .running := rfl
set_option maxRecDepth 65536 in
theorem w_room : about1.hasRoom e0.platform room_1 = true :=
  launch0.hasRoom_least _ room_1 (by decide +kernel) (by decide +kernel) (by decide +kernel) (by decide +kernel) (by decide +kernel) (by decide +kernel)
theorem allAtoms_all (ts : List Jvm.Cond) (a : Array Jvm.Value) (st : Jvm.State) : (allAtoms ts).before a st = ts.all (fun c => c.before a st) := by
  induction ts with
  | nil => rfl
  | cons c t ih =>
    show (Jvm.Cond.and c (allAtoms t)).before a st = _
    rw [Jvm.Cond.before_and, ih, List.all_cons]
def words1 : List Jvm.Cond := Jvm.Cond.code x code maxLocals ret :: tables_1
/-- a 'code' word, met by the world's own term for the bytes: nothing is compared byte by byte -/
theorem code_word {y : MethodName} {bytes : ByteArray} {mx : Nat} {rt : Option FieldType} {a : Array Value} {s : State} {m : MethodId} {meth : Method} {c : Code} (h1 : s.methodNamed? y = some m) (h2 : s.vm.method? m = some meth) (h3 : meth.code = some c) (h4 : c.code = bytes)
    (h5 : (c.maxLocals == mx && c.exceptionTable.isEmpty && decide (c.maxStack ≤ mostOperands) && decide (meth.sig.returnType = rt) && !meth.locks && decide (parseMethodDescriptor y.desc = some meth.sig)) = true) : (Jvm.Cond.code y bytes mx rt).before a s = true := by
  simp only [Bool.and_eq_true, beq_iff_eq, Bool.not_eq_true', decide_eq_true_eq] at h5
  obtain ⟨⟨⟨⟨⟨g1, g2⟩, g3⟩, g4⟩, g5⟩, g6⟩ := h5
  simp [Cond.before, Cond.holds, Cond.value, h1, h2, h3, h4, g1, g2, g3, g4, g5, g6]
def isCode : Jvm.Cond → Bool
  | .code _ _ _ _ => true
  | _ => false
theorem all_split {L : List Jvm.Cond} {P : Jvm.Cond → Bool} (h1 : L.all (fun c => isCode c || P c) = true) (h2 : ∀ c ∈ L.filter isCode, P c = true) : L.all P = true := by
  refine List.all_eq_true.mpr fun c hc => ?_
  have h := List.all_eq_true.mp h1 c hc
  rcases Bool.eq_false_or_eq_true (isCode c) with hi | hi
  · exact h2 c (List.mem_filter.mpr ⟨hc, hi⟩)
  · simpa [hi] using h
set_option maxRecDepth 65536 in
theorem w_c0 : (Jvm.Cond.code x code maxLocals ret).before args0 about1 = true := code_word (m := ⟨1, 1⟩) (meth := k1m1) (c := k1c1) (by decide +kernel) rfl rfl rfl (by decide +kernel)
set_option maxRecDepth 65536 in
theorem w_c1 : (Jvm.Cond.code ({ cls := "java/lang/Integer", name := "valueOf", desc := "(I)Ljava/lang/Integer;" } : Jvm.MethodName) jdk_33_method_22_code (1 : Nat) (Option.some (Jvm.ClassFile.FieldType.object "java/lang/Integer"))).before args0 about1 = true := code_word (m := ⟨10, 0⟩) (meth := k10m0) (c := k10c0) (by decide +kernel) rfl rfl rfl (by decide +kernel)
set_option maxRecDepth 65536 in
theorem w_c2 : (Jvm.Cond.code ({ cls := "com/example/tideshift/tideshift/Result", name := "<init>", desc := "(JJLjava/lang/String;Ljava/lang/Object;)V" } : Jvm.MethodName) prog_67_method_1_code (7 : Nat) (Option.none : Option Jvm.ClassFile.FieldType)).before args0 about1 = true := code_word (m := ⟨2, 0⟩) (meth := k2m0) (c := k2c0) (by decide +kernel) rfl rfl rfl (by decide +kernel)
set_option maxRecDepth 65536 in
theorem w_c3 : (Jvm.Cond.code ({ cls := "java/lang/Object", name := "<init>", desc := "()V" } : Jvm.MethodName) object_method_1_code (1 : Nat) (Option.none : Option Jvm.ClassFile.FieldType)).before args0 about1 = true := code_word (m := ⟨0, 0⟩) (meth := k0m0) (c := k0c0) (by decide +kernel) rfl rfl rfl (by decide +kernel)
set_option maxRecDepth 65536 in
theorem w_c4 : (Jvm.Cond.code ({ cls := "com/example/tideshift/tideshift/Result", name := "spansWholeStream", desc := "()Z" } : Jvm.MethodName) prog_67_method_6_code (1 : Nat) (Option.some Jvm.ClassFile.FieldType.boolean)).before args0 about1 = true := code_word (m := ⟨2, 1⟩) (meth := k2m1) (c := k2c1) (by decide +kernel) rfl rfl rfl (by decide +kernel)
set_option maxRecDepth 65536 in
theorem w_c5 : (Jvm.Cond.code ({ cls := "java/lang/Integer", name := "<init>", desc := "(I)V" } : Jvm.MethodName) jdk_33_method_23_code (2 : Nat) (Option.none : Option Jvm.ClassFile.FieldType)).before args0 about1 = true := code_word (m := ⟨10, 1⟩) (meth := k10m1) (c := k10c1) (by decide +kernel) rfl rfl rfl (by decide +kernel)
set_option maxRecDepth 65536 in
theorem w_c6 : (Jvm.Cond.code ({ cls := "java/lang/Number", name := "<init>", desc := "()V" } : Jvm.MethodName) jdk_18_method_1_code (1 : Nat) (Option.none : Option Jvm.ClassFile.FieldType)).before args0 about1 = true := code_word (m := ⟨9, 0⟩) (meth := k9m0) (c := k9c0) (by decide +kernel) rfl rfl rfl (by decide +kernel)
def codes1 : List Jvm.Cond := [Jvm.Cond.code x code maxLocals ret, Jvm.Cond.code ({ cls := "java/lang/Integer", name := "valueOf", desc := "(I)Ljava/lang/Integer;" } : Jvm.MethodName) jdk_33_method_22_code (1 : Nat) (Option.some (Jvm.ClassFile.FieldType.object "java/lang/Integer")), Jvm.Cond.code ({ cls := "com/example/tideshift/tideshift/Result", name := "<init>", desc := "(JJLjava/lang/String;Ljava/lang/Object;)V" } : Jvm.MethodName) prog_67_method_1_code (7 : Nat) (Option.none : Option Jvm.ClassFile.FieldType), Jvm.Cond.code ({ cls := "java/lang/Object", name := "<init>", desc := "()V" } : Jvm.MethodName) object_method_1_code (1 : Nat) (Option.none : Option Jvm.ClassFile.FieldType), Jvm.Cond.code ({ cls := "com/example/tideshift/tideshift/Result", name := "spansWholeStream", desc := "()Z" } : Jvm.MethodName) prog_67_method_6_code (1 : Nat) (Option.some Jvm.ClassFile.FieldType.boolean), Jvm.Cond.code ({ cls := "java/lang/Integer", name := "<init>", desc := "(I)V" } : Jvm.MethodName) jdk_33_method_23_code (2 : Nat) (Option.none : Option Jvm.ClassFile.FieldType), Jvm.Cond.code ({ cls := "java/lang/Number", name := "<init>", desc := "()V" } : Jvm.MethodName) jdk_18_method_1_code (1 : Nat) (Option.none : Option Jvm.ClassFile.FieldType)]
set_option maxRecDepth 65536 in
theorem codes_eq : words1.filter isCode = codes1 := rfl
theorem w_codes : ∀ c ∈ words1.filter isCode, c.before args0 about1 = true := by
  rw [codes_eq]
  intro c hc
  simp only [codes1, List.mem_cons, List.not_mem_nil, or_false] at hc
  rcases hc with rfl | rfl | rfl | rfl | rfl | rfl | rfl
  · exact w_c0
  · exact w_c1
  · exact w_c2
  · exact w_c3
  · exact w_c4
  · exact w_c5
  · exact w_c6
set_option maxRecDepth 65536 in
theorem w_t1 : (words1.take 24).all (fun c => isCode c || c.before args0 about1) = true := by decide +kernel
set_option maxRecDepth 65536 in
theorem w_t2 : ((words1.drop 24).take 24).all (fun c => isCode c || c.before args0 about1) = true := by decide +kernel
set_option maxRecDepth 65536 in
theorem w_t3 : ((words1.drop 24).drop 24).all (fun c => isCode c || c.before args0 about1) = true := by decide +kernel
theorem w_tables : (allAtoms (Jvm.Cond.code x code maxLocals ret :: tables_1)).before args0 about1 = true := by
  rw [allAtoms_all]
  show words1.all (fun c => c.before args0 about1) = true
  refine all_split ?_ w_codes
  rw [← List.take_append_drop 24 words1, List.all_append, w_t1, ← List.take_append_drop 24 (words1.drop 24), List.all_append, w_t2, w_t3]
  rfl
set_option maxRecDepth 65536 in
theorem w_rest : rest_1_c.before args0 about1 = true := by decide +kernel
set_option maxRecDepth 65536 in
theorem w_case : (Jvm.Cond.and given_1 narrow_1).before args0 about1 = true := by decide +kernel
theorem w_applies : (headSpec (Jvm.Cond.code x code maxLocals ret :: tables_1) room_1).applies x e0.platform about1 = true :=
  (Spec.applies_iff w_frames).mpr ⟨w_running, w_runnable, w_alone, w_named, w_hears, w_ripe, w_room, w_tables⟩
theorem atStart : AtStart classFile x code maxLocals ret World_1 tables_1 room_1 Calls_1 rest_1 Pre_1 launch0 p0 e0 about1 theMethod args0 below0 :=
  ⟨lists_1, trivial, launch0.admits_env _ _ _, launch0.least_env, fairChoices_fair.cas, fairChoices_fair.clock, w_frames, w_args, w_heap, w_applies, trivial, w_rest, w_case⟩
end start1
theorem witness_1 : WitnessClaimed_1 := ⟨start1.p0, start1.e0, start1.about1, start1.theMethod, start1.args0, start1.below0, start1.atStart⟩
end Jvm.Pilot.@@N@@
