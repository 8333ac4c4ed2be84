import JvmDerived
import JvmDerived.Pilot.@@N@@Statement
import JvmDerived.Pilot.@@N@@Code
set_option linter.unusedVariables false
set_option linter.unusedSimpArgs false
namespace Jvm.Pilot.@@N@@
open Jvm Jvm.ClassFile Sem Op Lib Jvm.Free Jvm.Stand Jvm.LawKit Jvm.RoadKit Bundle Jvm.Pilot.@@N@@.Jvm.D
/-! own words: where a body stands (own_C), how it ends (own_Ends), one step ahead of that (own_step), the returns -/
def own_C (cls : String) (code : ByteArray) (ml : Nat) (rt : Option FieldType) (nm : String) (p : Program) (s : State) (m : MethodId) (meth : Method) (c : Code) (Z : State) (a0 : Array Value) : Prop :=
  p.tables.exec = Jvm.exec ∧ Z.Warmed39 s.vm ∧ (∀ d ∈ tables_1, d.before a0 Z = true) ∧ c.code = code ∧ c.maxLocals = ml ∧ s.vm.findClass cls = some m.cls ∧ meth.sig.returnType = rt ∧ meth.locks = false ∧ meth.name = nm
def own_Q (n0 : Nat) (h0 : Heap) (w : Option Value) (v : Option Value) (h : Heap) (L : List Loc) : Prop := v = w ∧ Fr n0 L ∧ h = h0
def own_QL (n0 : Nat) (w : Option Value) (v : Option Value) (h : Heap) (L : List Loc) : Prop := v = w ∧ Fr n0 L ∧ True
def own_QR (n0 : Nat) (h0 : Heap) (v : Option Value) (h : Heap) (L : List Loc) : Prop := ∃ b : Addr, v = some (.ref b) ∧ Fr n0 L ∧ Keep h0 h []
def own_Ends (p : Program) (e : Env) (below : List Frame) (s : State) (kc ks : Nat) (Q : Option Value → Heap → List Loc → Prop) (T : State) (g : JFrame) : Prop :=
  ∃ s₂ o, Steps p.tables e below (T.setTop g) s₂ ∧ s₂.status = .running ∧ Ended s₂ below o ∧ ∃ v L, o = .returned v ∧ Q v s₂.heap L ∧ FrameEnd s o s₂ L kc ks
theorem own_step {p : Program} {e : Env} {below : List Frame} {s : State} {kc ks : Nat} {Q : Option Value → Heap → List Loc → Prop} {T T' : State} {g g' : JFrame}
    (st : ∀ target, Steps p.tables e below (T'.setTop g') target → Steps p.tables e below (T.setTop g) target) (h : own_Ends p e below s kc ks Q T' g') : own_Ends p e below s kc ks Q T g := by
  obtain ⟨s₂, o, h1, r⟩ := h
  exact ⟨s₂, o, st _ h1, r⟩
theorem own_mono {p : Program} {e : Env} {below : List Frame} {s : State} {kc ks : Nat} {Q Q' : Option Value → Heap → List Loc → Prop} {T : State} {g : JFrame} (h : own_Ends p e below s kc ks Q T g) (hq : ∀ v h L, Q v h L → Q' v h L) : own_Ends p e below s kc ks Q' T g := by
  obtain ⟨s₂, o, h1, h2, h3, v, L, h4, h5, h6⟩ := h
  exact ⟨s₂, o, h1, h2, h3, v, L, h4, hq _ _ _ h5, h6⟩
theorem own_nn {v : Value} (h : v.isRef = true) (q : ¬ v = .null) : ∃ y, v = .ref y := (ref_cases h).resolve_left q
theorem own_eqR {Z : State} {args : Array Value} {X F : Term} {idx : List Nat} {y : Addr} (hF : F.eval args Z none idx Z = some (.ref y)) (h : (Cond.eq X F).value args Z none Z idx = some true) : X.eval args Z none idx Z = some (.ref y) := by
  obtain ⟨x, y', e1, e2, k1, k2⟩ := cmp_v (Or.inl h)
  cases hF.symm.trans e2
  have hx : x.isRef = true := k2.2
  have := gotT (eq_R e1 hF hx rfl) h
  exact e1.trans (congrArg some this)
theorem own_lmod (x y : Int64) : x - (x / y) * y = x % y := by
  apply Int64.toInt_inj.mp
  have h1 := Int64.le_toInt (x % y)
  have h2 := Int64.toInt_lt (x % y)
  rw [Int64.toInt_sub, Int64.toInt_mul, Int64.toInt_div, Int.bmod_mul_bmod, Int.sub_bmod_bmod, Int.mul_comm (x.toInt.tdiv y.toInt), ← Int.tmod_def, ← Int64.toInt_mod]
  exact Int.bmod_eq_of_le_mul_two (by omega) (by omega)
theorem own_lremM {p : Program} {l : Launch} {e : Env} {R : Room} {s : State} {m : MethodId} {args : Array Value} {below : List Frame} {meth : Method} {c : Code} {T target : State} {locs : List Loc} {cells slots : Nat} {g : JFrame} (X : Stand p l e R s m args below meth c T locs cells slots) (hx : p.tables.exec = Jvm.exec) (hg : g.method = m) {x y : Int64} {rest : List Value} (hd : decode c.code g.pc = .ok (.lrem, 1)) (hs : g.stack = .long y :: .long x :: rest) (hy : y ≠ 0)
    (hr : Steps p.tables e below (T.setTop { g with pc := g.pc + 1, stack := .long (x % y) :: rest }) target) : Steps p.tables e below (T.setTop g) target :=
  XS.lrem X.here hx hg hd hs hy (by rw [own_lmod]; exact hr)
section OwnRet
variable {p : Program} {l : Launch} {e : Env} {R : Room} {s : State} {m : MethodId} {args : Array Value} {below : List Frame} {meth : Method} {c : Code} {T : State} {locs : List Loc} {cells slots : Nat} {kc ks : Nat} {Q : Option Value → Heap → List Loc → Prop}
theorem own_retO (X : Stand p l e R s m args below meth c T locs cells slots) (hx : p.tables.exec = Jvm.exec) {t : FieldType} (hret : meth.sig.returnType = some t) (hlk : meth.locks = false) {pc : Nat} {Ls : Array Slot} {w : Value} {i : Instr} {rest : List Value} (hn : narrow t w = w)
    (hi : (i = .ireturn ∧ (t = .int ∨ t = .boolean ∨ t = .byte ∨ t = .char ∨ t = .short) ∧ ∃ z, w = .int z) ∨ (i = .lreturn ∧ t = .long ∧ ∃ z, w = .long z) ∨ (i = .dreturn ∧ t = .double ∧ ∃ z, w = .double z) ∨ (i = .freturn ∧ t = .float ∧ ∃ z, w = .float z) ∨ (i = .areturn ∧ t.isReference = true ∧ w.isRef = true))
    (hd : decode c.code pc = .ok (i, 1)) (hc : cells ≤ kc) (hs : slots ≤ ks) (hQ : Q (some w) T.heap locs) : own_Ends p e below s kc ks Q T (mkF m pc Ls (w :: rest)) := by
  obtain ⟨fs, hr, hrun, hended, hW, hsame⟩ := X.leave (v := some w) (fun h => by rw [hret] at h; cases h) hlk
  exact ⟨_, _, retOut X hx hret hn hi hd hr, hrun, hended, _, _, rfl, hQ, ⟨_, rfl⟩, hW, hsame.mono hc hs⟩
theorem own_retI (X : Stand p l e R s m args below meth c T locs cells slots) (hx : p.tables.exec = Jvm.exec) (hret : meth.sig.returnType = some .int) (hlk : meth.locks = false) {pc : Nat} {Ls : Array Slot} {z : Int32} {rest : List Value}
    (hd : decode c.code pc = .ok (.ireturn, 1)) (hc : cells ≤ kc) (hs : slots ≤ ks) (hQ : Q (some (.int z)) T.heap locs) : own_Ends p e below s kc ks Q T (mkF m pc Ls (.int z :: rest)) :=
  own_retO X hx hret hlk rfl (Or.inl ⟨rfl, Or.inl rfl, z, rfl⟩) hd hc hs hQ
theorem own_retJ (X : Stand p l e R s m args below meth c T locs cells slots) (hx : p.tables.exec = Jvm.exec) (hret : meth.sig.returnType = some .long) (hlk : meth.locks = false) {pc : Nat} {Ls : Array Slot} {z : Int64} {rest : List Value}
    (hd : decode c.code pc = .ok (.lreturn, 1)) (hc : cells ≤ kc) (hs : slots ≤ ks) (hQ : Q (some (.long z)) T.heap locs) : own_Ends p e below s kc ks Q T (mkF m pc Ls (.long z :: rest)) :=
  own_retO X hx hret hlk rfl (Or.inr (Or.inl ⟨rfl, rfl, z, rfl⟩)) hd hc hs hQ
theorem own_retR (X : Stand p l e R s m args below meth c T locs cells slots) (hx : p.tables.exec = Jvm.exec) {t : FieldType} (hret : meth.sig.returnType = some t) (hlk : meth.locks = false) {pc : Nat} {Ls : Array Slot} {w : Value} {rest : List Value}
    (hd : decode c.code pc = .ok (.areturn, 1)) (hc : cells ≤ kc) (hs : slots ≤ ks) (ht : t.isReference = true) (hw : w.isRef = true) (hQ : Q (some w) T.heap locs) : own_Ends p e below s kc ks Q T (mkF m pc Ls (w :: rest)) :=
  own_retO X hx hret hlk (by cases t <;> first | rfl | cases ht) (Or.inr (Or.inr (Or.inr (Or.inr ⟨rfl, ht, hw⟩)))) hd hc hs hQ
theorem own_retN (X : Stand p l e R s m args below meth c T locs cells slots) {t : FieldType} (hx : p.tables.exec = Jvm.exec) (hret : meth.sig.returnType = some t) (hlk : meth.locks = false) {pc : Nat} {Ls : Array Slot} {z : Int32} {rest : List Value}
    (hd : decode c.code pc = .ok (.ireturn, 1)) (hc : cells ≤ kc) (hs : slots ≤ ks) (ht : t = .boolean ∨ t = .byte ∨ t = .char ∨ t = .short) (hQ : Q (some (.int (nar t z))) T.heap locs) : own_Ends p e below s kc ks Q T (mkF m pc Ls (.int z :: rest)) := by
  obtain ⟨fs, hr, hrun, hended, hW, hsame⟩ := X.leave (v := some (.int (nar t z))) (fun h => by rw [hret] at h; cases h) hlk
  exact ⟨_, _, retN X hx hret ht hd hr, hrun, hended, _, _, rfl, hQ, ⟨_, rfl⟩, hW, hsame.mono hc hs⟩
theorem own_retV (X : Stand p l e R s m args below meth c T locs cells slots) (hx : p.tables.exec = Jvm.exec) (hret : meth.sig.returnType = none) (hlk : meth.locks = false) {pc : Nat} {Ls : Array Slot}
    (hd : decode c.code pc = .ok (.return_, 1)) (hc : cells ≤ kc) (hs : slots ≤ ks) (hQ : Q none T.heap locs) : own_Ends p e below s kc ks Q T (mkF m pc Ls []) := by
  obtain ⟨fs, hr, hrun, hended, hW, hsame⟩ := X.leave (v := none) (fun _ => rfl) hlk
  exact ⟨_, _, X.returnOut hx hret hd hr, hrun, hended, _, _, rfl, hQ, ⟨_, rfl⟩, hW, hsame.mono hc hs⟩
end OwnRet
/-! the same for a body that may load String constants (the wide frame) -/
def own_EndsW (p : Program) (e : Env) (below : List Frame) (s : State) (kc ks : Nat) (Q : Option Value → Heap → List Loc → Prop) (T : State) (g : JFrame) : Prop :=
  ∃ s₂ o, Steps p.tables e below (T.setTop g) s₂ ∧ s₂.status = .running ∧ Ended s₂ below o ∧ ∃ v L, o = .returned v ∧ Q v s₂.heap L ∧ ReturnedEndW s o s₂ L kc ks
theorem own_stepW {p : Program} {e : Env} {below : List Frame} {s : State} {kc ks : Nat} {Q : Option Value → Heap → List Loc → Prop} {T T' : State} {g g' : JFrame}
    (st : ∀ target, Steps p.tables e below (T'.setTop g') target → Steps p.tables e below (T.setTop g) target) (h : own_EndsW p e below s kc ks Q T' g') : own_EndsW p e below s kc ks Q T g := by
  obtain ⟨s₂, o, h1, r⟩ := h
  exact ⟨s₂, o, st _ h1, r⟩
section OwnRetW
variable {p : Program} {l : Launch} {e : Env} {R : Room} {s : State} {vm0 : Vm} {k0 : Nat} {m : MethodId} {args : Array Value} {below : List Frame} {meth : Method} {c : Code} {T : State} {locs : List Loc} {cells slots : Nat} {kc ks : Nat} {Q : Option Value → Heap → List Loc → Prop}
theorem own_retOW (X : Stand p l e R (s.setVm vm0) m args below meth c T locs cells slots) (hS : s.Since vm0 k0) (hk : k0 ≤ T.heap.size) (hx : p.tables.exec = Jvm.exec) {t : FieldType} (hret : meth.sig.returnType = some t) (hlk : meth.locks = false) {pc : Nat} {Ls : Array Slot} {w : Value} {i : Instr} {rest : List Value} (hn : narrow t w = w)
    (hi : (i = .ireturn ∧ (t = .int ∨ t = .boolean ∨ t = .byte ∨ t = .char ∨ t = .short) ∧ ∃ z, w = .int z) ∨ (i = .lreturn ∧ t = .long ∧ ∃ z, w = .long z) ∨ (i = .dreturn ∧ t = .double ∧ ∃ z, w = .double z) ∨ (i = .freturn ∧ t = .float ∧ ∃ z, w = .float z) ∨ (i = .areturn ∧ t.isReference = true ∧ w.isRef = true))
    (hd : decode c.code pc = .ok (i, 1)) (hc : cells ≤ kc) (hs : slots ≤ ks) (hQ : Q (some w) T.heap locs) : own_EndsW p e below s kc ks Q T (mkF m pc Ls (w :: rest)) := by
  obtain ⟨fs, hr, hrun, hended, e1, e2, e3, e4⟩ := X.leaveW hS hk (v := some w) (fun h => by rw [hret] at h; cases h) hlk
  exact ⟨_, _, retOut X hx hret hn hi hd hr, hrun, hended, _, _, rfl, hQ, e1, e2, e3, e4.mono hc hs⟩
theorem own_retRW (X : Stand p l e R (s.setVm vm0) m args below meth c T locs cells slots) (hS : s.Since vm0 k0) (hk : k0 ≤ T.heap.size) (hx : p.tables.exec = Jvm.exec) {t : FieldType} (hret : meth.sig.returnType = some t) (hlk : meth.locks = false) {pc : Nat} {Ls : Array Slot} {w : Value} {rest : List Value}
    (hd : decode c.code pc = .ok (.areturn, 1)) (hc : cells ≤ kc) (hs : slots ≤ ks) (ht : t.isReference = true) (hw : w.isRef = true) (hQ : Q (some w) T.heap locs) : own_EndsW p e below s kc ks Q T (mkF m pc Ls (w :: rest)) :=
  own_retOW X hS hk hx hret hlk (by cases t <;> first | rfl | cases ht) (Or.inr (Or.inr (Or.inr (Or.inr ⟨rfl, ht, hw⟩)))) hd hc hs hQ
theorem own_retNW (X : Stand p l e R (s.setVm vm0) m args below meth c T locs cells slots) (hS : s.Since vm0 k0) (hk : k0 ≤ T.heap.size) {t : FieldType} (hx : p.tables.exec = Jvm.exec) (hret : meth.sig.returnType = some t) (hlk : meth.locks = false) {pc : Nat} {Ls : Array Slot} {z : Int32} {rest : List Value}
    (hd : decode c.code pc = .ok (.ireturn, 1)) (hc : cells ≤ kc) (hs : slots ≤ ks) (ht : t = .boolean ∨ t = .byte ∨ t = .char ∨ t = .short) (hQ : Q (some (.int (nar t z))) T.heap locs) : own_EndsW p e below s kc ks Q T (mkF m pc Ls (.int z :: rest)) := by
  obtain ⟨fs, hr, hrun, hended, e1, e2, e3, e4⟩ := X.leaveW hS hk (v := some (.int (nar t z))) (fun h => by rw [hret] at h; cases h) hlk
  exact ⟨_, _, retN X hx hret ht hd hr, hrun, hended, _, _, rfl, hQ, e1, e2, e3, e4.mono hc hs⟩
end OwnRetW

theorem pn_0 : plainName "com/example/graded_queue/gradedqueue/port/OutputPort" = true := by first | (simp [plainName, overriddenIn]; done) | decide +kernel
theorem pd_0 : parseMethodDescriptor "(II)I" = some ⟨[.int, .int], some .int⟩ := by decide +kernel
theorem pd_1 : parseMethodDescriptor "(JJ)J" = some ⟨[.long, .long], some .long⟩ := by decide +kernel
theorem pd_2 : parseMethodDescriptor "(IJ)J" = some ⟨[.int, .long], some .long⟩ := by decide +kernel
theorem pn_1 : plainName "com/example/graded_queue/gradedqueue/port/OutputPortTransmissionNsPinLaw" = true := by first | (simp [plainName, overriddenIn]; done) | decide +kernel
theorem d1_0 : decode jdk_29_method_66_code 0 = .ok (.lload_n 0, 1) := by decide +kernel
theorem d1_1 : decode jdk_29_method_66_code 1 = .ok (.lload_n 2, 1) := by decide +kernel
theorem d1_2 : decode jdk_29_method_66_code 2 = .ok (.lcmp, 1) := by decide +kernel
theorem d1_3 : decode jdk_29_method_66_code 3 = .ok (.ifCond .lt 7, 3) := by decide +kernel
theorem d1_6 : decode jdk_29_method_66_code 6 = .ok (.lload_n 0, 1) := by decide +kernel
theorem d1_7 : decode jdk_29_method_66_code 7 = .ok (.goto 4, 3) := by decide +kernel
theorem d1_10 : decode jdk_29_method_66_code 10 = .ok (.lload_n 2, 1) := by decide +kernel
theorem d1_11 : decode jdk_29_method_66_code 11 = .ok (.lreturn, 1) := by decide +kernel
def f1_0 (j0 : Int64) (j1 : Int64) : Int64 := (if j0 < j1 then j1 else j0)
set_option maxRecDepth 65536 in
set_option maxHeartbeats 40000000 in
theorem b1_0 {p : Program} {l : Launch} {e : Env} {s : State} {m : MethodId} {args : Array Value} {below : List Frame} {meth : Method} {c : Code} {Z : State} {a0 : Array Value} {h0 : Heap} {n0 : Nat} (C : own_C "java/lang/Math" jdk_29_method_66_code 4 (some .long) "max" p s m meth c Z a0) (Z0 : n0 ≤ h0.size) {T0 : State} {locs : List Loc} (X0 : Stand p l e ({ frames := 0, cells := 0, slots := 0, locals := 0 } : Room) s m args below meth c T0 locs 0 0) (e0 : T0.heap = h0) (N0 : Fr n0 locs) (j0 : Int64) (j1 : Int64) (W : Int64) (hv : W = f1_0 j0 j1) :
    own_Ends p e below s ({ frames := 0, cells := 0, slots := 0, locals := 0 } : Room).cells ({ frames := 0, cells := 0, slots := 0, locals := 0 } : Room).slots (own_Q n0 h0 (some (.long W))) T0 (mkF m 0 #[.val (.long j0), .second, .val (.long j1), .second] []) := by
  obtain ⟨hx, hZ, hw, hby, hml, hown, hret, hlk, hnm⟩ := C
  have C : own_C "java/lang/Math" jdk_29_method_66_code 4 (some .long) "max" p s m meth c Z a0 := ⟨hx, hZ, hw, hby, hml, hown, hret, hlk, hnm⟩
  unfold f1_0 at hv
  refine own_step (fun _ => XS.lloadN X0.here hx rfl (hb hby d1_0) rfl) ?_
  show own_Ends p e below s _ _ _ T0 (mkF m 1 #[.val (.long j0), .second, .val (.long j1), .second] [(.long j0)])
  refine own_step (fun _ => XS.lloadN X0.here hx rfl (hb hby d1_1) rfl) ?_
  show own_Ends p e below s _ _ _ T0 (mkF m 2 #[.val (.long j0), .second, .val (.long j1), .second] [(.long j1), (.long j0)])
  refine own_step (fun _ => XS.lcmp X0.here hx rfl (hb hby d1_2) rfl) ?_
  show own_Ends p e below s _ _ _ T0 (mkF m 3 #[.val (.long j0), .second, .val (.long j1), .second] [(.int (lcmpW j0 j1))])
  by_cases hc3 : j0 < j1
  · have hv_t := hv.trans (if_pos hc3)
    refine own_step (fun _ => XS.ifYes X0.here hx rfl (pc0 := 3) (pc' := 10) rfl (hb hby d1_3) rfl ((if0 _ _).trans (tlt ((lw_lt _ _).mpr hc3)).1) (by decide) (by decide)) ?_
    show own_Ends p e below s _ _ _ T0 (mkF m 10 #[.val (.long j0), .second, .val (.long j1), .second] [])
    refine own_step (fun _ => XS.lloadN X0.here hx rfl (hb hby d1_10) rfl) ?_
    show own_Ends p e below s _ _ _ T0 (mkF m 11 #[.val (.long j0), .second, .val (.long j1), .second] [(.long j1)])
    exact own_retJ X0 hx hret hlk (hb hby d1_11) (by decide) (by decide) ⟨congrArg (fun z => some (Value.long z)) hv_t.symm, N0, e0⟩
  · have hv_f := hv.trans (if_neg hc3)
    refine own_step (fun _ => XS.ifNo X0.here hx rfl (hb hby d1_3) rfl ((if0 _ _).trans (flt (fun q => hc3 ((lw_lt _ _).mp q))).1)) ?_
    show own_Ends p e below s _ _ _ T0 (mkF m 6 #[.val (.long j0), .second, .val (.long j1), .second] [])
    refine own_step (fun _ => XS.lloadN X0.here hx rfl (hb hby d1_6) rfl) ?_
    show own_Ends p e below s _ _ _ T0 (mkF m 7 #[.val (.long j0), .second, .val (.long j1), .second] [(.long j0)])
    refine own_step (fun _ => XS.goto X0.here hx rfl (pc0 := 7) (pc' := 11) rfl (hb hby d1_7) (by decide) (by decide)) ?_
    show own_Ends p e below s _ _ _ T0 (mkF m 11 #[.val (.long j0), .second, .val (.long j1), .second] [(.long j0)])
    exact own_retJ X0 hx hret hlk (hb hby d1_11) (by decide) (by decide) ⟨congrArg (fun z => some (Value.long z)) hv_f.symm, N0, e0⟩
theorem ef_rm1 (m : MethodId) (j0 : Int64) (j1 : Int64) : entryFrame m #[(.long j0), (.long j1)] 4 = mkF m 0 #[.val (.long j0), .second, .val (.long j1), .second] [] := by first | (simp [entryFrame, mkF, argsToLocals, Value.category]; done) | rfl
set_option maxRecDepth 65536 in
set_option maxHeartbeats 40000000 in
theorem rm1 (l : Launch) (Z : State) (a0 : Array Value) (hw : ∀ d ∈ tables_1, d.before a0 Z = true) (ws : List Jvm.Cond) (j0 : Int64) (j1 : Int64) (h0 : Heap) (n0 : Nat) (Z0 : n0 ≤ h0.size) :
    MetFree l (⟨"java/lang/Math", "max", "(JJ)J"⟩ : MethodName) (head1 (Jvm.Cond.code (⟨"java/lang/Math", "max", "(JJ)J"⟩ : MethodName) jdk_29_method_66_code 4 (some .long) :: ws) ({ frames := 0, cells := 0, slots := 0, locals := 0 } : Room)) (fun a U => a = #[(.long j0), (.long j1)] ∧ Z.Warmed39 U.vm ∧ U.heap = h0) (fun _ _ _ _ _ => True) (fun _ U o U' => ∃ v L, o = .returned v ∧ (own_Q n0 h0 (some (.long (f1_0 j0 j1)))) v U'.heap L ∧ FrameEnd U o U' L ({ frames := 0, cells := 0, slots := 0, locals := 0 } : Room).cells ({ frames := 0, cells := 0, slots := 0, locals := 0 } : Room).slots) := by
  refine MetFree.of_bodySF (Jvm.Free.JP.mathPlain rfl (by decide +kernel)) hisR ?_
  intro p e s m args below meth c s₁ Bd hml0 hP hK
  obtain ⟨rfl, hZ, hh⟩ := hP
  have X0 : Stand p l e ({ frames := 0, cells := 0, slots := 0, locals := 0 } : Room) s m #[(.long j0), (.long j1)] below meth c s₁ [] 0 0 := Stand.of_body Bd
  have e0 : s₁.heap = h0 := by rw [← hh, Bd.state]; rfl
  have C : own_C "java/lang/Math" jdk_29_method_66_code 4 (some .long) "max" p s m meth c Z a0 := ⟨Bd.exec, hZ, hw, Bd.bytes, hml0, findClass_of_methodNamed Bd.named, Bd.returns, Bd.notSynchronized, (name_of_methodNamed Bd.named Bd.method).1⟩
  have r := b1_0 C Z0 X0 e0 (Fr.nil n0) j0 j1 _ rfl
  rw [ef_rm1 m j0 j1]
  exact r
theorem d3_0 : decode jdk_29_method_65_code 0 = .ok (.iload_n 0, 1) := by decide +kernel
theorem d3_1 : decode jdk_29_method_65_code 1 = .ok (.iload_n 1, 1) := by decide +kernel
theorem d3_2 : decode jdk_29_method_65_code 2 = .ok (.if_icmp .lt 7, 3) := by decide +kernel
theorem d3_5 : decode jdk_29_method_65_code 5 = .ok (.iload_n 0, 1) := by decide +kernel
theorem d3_6 : decode jdk_29_method_65_code 6 = .ok (.goto 4, 3) := by decide +kernel
theorem d3_9 : decode jdk_29_method_65_code 9 = .ok (.iload_n 1, 1) := by decide +kernel
theorem d3_10 : decode jdk_29_method_65_code 10 = .ok (.ireturn, 1) := by decide +kernel
def f3_0 (i0 : Int32) (i1 : Int32) : Int32 := (if i0 < i1 then i1 else i0)
set_option maxRecDepth 65536 in
set_option maxHeartbeats 40000000 in
theorem b3_0 {p : Program} {l : Launch} {e : Env} {s : State} {m : MethodId} {args : Array Value} {below : List Frame} {meth : Method} {c : Code} {Z : State} {a0 : Array Value} {h0 : Heap} {n0 : Nat} (C : own_C "java/lang/Math" jdk_29_method_65_code 2 (some .int) "max" p s m meth c Z a0) (Z0 : n0 ≤ h0.size) {T0 : State} {locs : List Loc} (X0 : Stand p l e ({ frames := 0, cells := 0, slots := 0, locals := 0 } : Room) s m args below meth c T0 locs 0 0) (e0 : T0.heap = h0) (N0 : Fr n0 locs) (i0 : Int32) (i1 : Int32) (W : Int32) (hv : W = f3_0 i0 i1) :
    own_Ends p e below s ({ frames := 0, cells := 0, slots := 0, locals := 0 } : Room).cells ({ frames := 0, cells := 0, slots := 0, locals := 0 } : Room).slots (own_Q n0 h0 (some (.int W))) T0 (mkF m 0 #[.val (.int i0), .val (.int i1)] []) := by
  obtain ⟨hx, hZ, hw, hby, hml, hown, hret, hlk, hnm⟩ := C
  have C : own_C "java/lang/Math" jdk_29_method_65_code 2 (some .int) "max" p s m meth c Z a0 := ⟨hx, hZ, hw, hby, hml, hown, hret, hlk, hnm⟩
  unfold f3_0 at hv
  refine own_step (fun _ => XS.iloadN X0.here hx rfl (hb hby d3_0) rfl) ?_
  show own_Ends p e below s _ _ _ T0 (mkF m 1 #[.val (.int i0), .val (.int i1)] [(.int i0)])
  refine own_step (fun _ => XS.iloadN X0.here hx rfl (hb hby d3_1) rfl) ?_
  show own_Ends p e below s _ _ _ T0 (mkF m 2 #[.val (.int i0), .val (.int i1)] [(.int i1), (.int i0)])
  by_cases hc2 : i0 < i1
  · have hv_t := hv.trans (if_pos hc2)
    refine own_step (fun _ => XS.icmpYes X0.here hx rfl (pc0 := 2) (pc' := 9) rfl (hb hby d3_2) rfl (tlt hc2).1 (by decide) (by decide)) ?_
    show own_Ends p e below s _ _ _ T0 (mkF m 9 #[.val (.int i0), .val (.int i1)] [])
    refine own_step (fun _ => XS.iloadN X0.here hx rfl (hb hby d3_9) rfl) ?_
    show own_Ends p e below s _ _ _ T0 (mkF m 10 #[.val (.int i0), .val (.int i1)] [(.int i1)])
    exact own_retI X0 hx hret hlk (hb hby d3_10) (by decide) (by decide) ⟨congrArg (fun z => some (Value.int z)) hv_t.symm, N0, e0⟩
  · have hv_f := hv.trans (if_neg hc2)
    refine own_step (fun _ => XS.icmpNo X0.here hx rfl (hb hby d3_2) rfl (flt hc2).1) ?_
    show own_Ends p e below s _ _ _ T0 (mkF m 5 #[.val (.int i0), .val (.int i1)] [])
    refine own_step (fun _ => XS.iloadN X0.here hx rfl (hb hby d3_5) rfl) ?_
    show own_Ends p e below s _ _ _ T0 (mkF m 6 #[.val (.int i0), .val (.int i1)] [(.int i0)])
    refine own_step (fun _ => XS.goto X0.here hx rfl (pc0 := 6) (pc' := 10) rfl (hb hby d3_6) (by decide) (by decide)) ?_
    show own_Ends p e below s _ _ _ T0 (mkF m 10 #[.val (.int i0), .val (.int i1)] [(.int i0)])
    exact own_retI X0 hx hret hlk (hb hby d3_10) (by decide) (by decide) ⟨congrArg (fun z => some (Value.int z)) hv_f.symm, N0, e0⟩
theorem ef_rm3 (m : MethodId) (i0 : Int32) (i1 : Int32) : entryFrame m #[(.int i0), (.int i1)] 2 = mkF m 0 #[.val (.int i0), .val (.int i1)] [] := by first | (simp [entryFrame, mkF, argsToLocals, Value.category]; done) | rfl
set_option maxRecDepth 65536 in
set_option maxHeartbeats 40000000 in
theorem rm3 (l : Launch) (Z : State) (a0 : Array Value) (hw : ∀ d ∈ tables_1, d.before a0 Z = true) (ws : List Jvm.Cond) (i0 : Int32) (i1 : Int32) (h0 : Heap) (n0 : Nat) (Z0 : n0 ≤ h0.size) :
    MetFree l (⟨"java/lang/Math", "max", "(II)I"⟩ : MethodName) (head1 (Jvm.Cond.code (⟨"java/lang/Math", "max", "(II)I"⟩ : MethodName) jdk_29_method_65_code 2 (some .int) :: ws) ({ frames := 0, cells := 0, slots := 0, locals := 0 } : Room)) (fun a U => a = #[(.int i0), (.int i1)] ∧ Z.Warmed39 U.vm ∧ U.heap = h0) (fun _ _ _ _ _ => True) (fun _ U o U' => ∃ v L, o = .returned v ∧ (own_Q n0 h0 (some (.int (f3_0 i0 i1)))) v U'.heap L ∧ FrameEnd U o U' L ({ frames := 0, cells := 0, slots := 0, locals := 0 } : Room).cells ({ frames := 0, cells := 0, slots := 0, locals := 0 } : Room).slots) := by
  refine MetFree.of_bodySF (Jvm.Free.JP.mathPlain rfl (by decide +kernel)) hisR ?_
  intro p e s m args below meth c s₁ Bd hml0 hP hK
  obtain ⟨rfl, hZ, hh⟩ := hP
  have X0 : Stand p l e ({ frames := 0, cells := 0, slots := 0, locals := 0 } : Room) s m #[(.int i0), (.int i1)] below meth c s₁ [] 0 0 := Stand.of_body Bd
  have e0 : s₁.heap = h0 := by rw [← hh, Bd.state]; rfl
  have C : own_C "java/lang/Math" jdk_29_method_65_code 2 (some .int) "max" p s m meth c Z a0 := ⟨Bd.exec, hZ, hw, Bd.bytes, hml0, findClass_of_methodNamed Bd.named, Bd.returns, Bd.notSynchronized, (name_of_methodNamed Bd.named Bd.method).1⟩
  have r := b3_0 C Z0 X0 e0 (Fr.nil n0) i0 i1 _ rfl
  rw [ef_rm3 m i0 i1]
  exact r
theorem d2_0 : decode prog_29_method_8_code 0 = .ok (.ldc2_w 171, 3) := by decide +kernel
theorem d2_3 : decode prog_29_method_8_code 3 = .ok (.iload_n 0, 1) := by decide +kernel
theorem d2_4 : decode prog_29_method_8_code 4 = .ok (.i2l, 1) := by decide +kernel
theorem d2_5 : decode prog_29_method_8_code 5 = .ok (.lmul, 1) := by decide +kernel
theorem d2_6 : decode prog_29_method_8_code 6 = .ok (.lstore_n 3, 1) := by decide +kernel
theorem d2_7 : decode prog_29_method_8_code 7 = .ok (.lload_n 3, 1) := by decide +kernel
theorem d2_8 : decode prog_29_method_8_code 8 = .ok (.lload_n 1, 1) := by decide +kernel
theorem d2_9 : decode prog_29_method_8_code 9 = .ok (.ldiv, 1) := by decide +kernel
theorem d2_10 : decode prog_29_method_8_code 10 = .ok (.lload_n 3, 1) := by decide +kernel
theorem d2_11 : decode prog_29_method_8_code 11 = .ok (.lload_n 1, 1) := by decide +kernel
theorem d2_12 : decode prog_29_method_8_code 12 = .ok (.lrem, 1) := by decide +kernel
theorem d2_13 : decode prog_29_method_8_code 13 = .ok (.lconst 0, 1) := by decide +kernel
theorem d2_14 : decode prog_29_method_8_code 14 = .ok (.lcmp, 1) := by decide +kernel
theorem d2_15 : decode prog_29_method_8_code 15 = .ok (.ifCond .ne 7, 3) := by decide +kernel
theorem d2_18 : decode prog_29_method_8_code 18 = .ok (.iconst 0, 1) := by decide +kernel
theorem d2_19 : decode prog_29_method_8_code 19 = .ok (.goto 4, 3) := by decide +kernel
theorem d2_22 : decode prog_29_method_8_code 22 = .ok (.iconst 1, 1) := by decide +kernel
theorem d2_23 : decode prog_29_method_8_code 23 = .ok (.i2l, 1) := by decide +kernel
theorem d2_24 : decode prog_29_method_8_code 24 = .ok (.ladd, 1) := by decide +kernel
theorem d2_25 : decode prog_29_method_8_code 25 = .ok (.lreturn, 1) := by decide +kernel
def f2_0 (i0 : Int32) (j1 : Int64) : Int64 := (if (((8 : Int64) * (i0.toInt64)) % j1) = (0 : Int64) then ((((8 : Int64) * (i0.toInt64)) / j1) + ((0 : Int32).toInt64)) else ((((8 : Int64) * (i0.toInt64)) / j1) + ((1 : Int32).toInt64)))
set_option maxRecDepth 65536 in
set_option maxHeartbeats 40000000 in
theorem b2_0 {p : Program} {l : Launch} {e : Env} {s : State} {m : MethodId} {args : Array Value} {below : List Frame} {meth : Method} {c : Code} {Z : State} {a0 : Array Value} {h0 : Heap} {n0 : Nat} (C : own_C "com/example/graded_queue/gradedqueue/port/OutputPort" prog_29_method_8_code 5 (some .long) "transmissionNs" p s m meth c Z a0) (Z0 : n0 ≤ h0.size) {T0 : State} {locs : List Loc} (X0 : Stand p l e ({ frames := 0, cells := 0, slots := 0, locals := 0 } : Room) s m args below meth c T0 locs 0 0) (e0 : T0.heap = h0) (N0 : Fr n0 locs) (i0 : Int32) (j1 : Int64) (hnz : j1 ≠ 0) (W : Int64) (hv : W = f2_0 i0 j1) :
    own_Ends p e below s ({ frames := 0, cells := 0, slots := 0, locals := 0 } : Room).cells ({ frames := 0, cells := 0, slots := 0, locals := 0 } : Room).slots (own_Q n0 h0 (some (.long W))) T0 (mkF m 0 #[.val (.int i0), .val (.long j1), .second, .unset, .unset] []) := by
  obtain ⟨hx, hZ, hw, hby, hml, hown, hret, hlk, hnm⟩ := C
  have C : own_C "com/example/graded_queue/gradedqueue/port/OutputPort" prog_29_method_8_code 5 (some .long) "transmissionNs" p s m meth c Z a0 := ⟨hx, hZ, hw, hby, hml, hown, hret, hlk, hnm⟩
  unfold f2_0 at hv
  refine own_step (fun _ => X0.ldc2Long hx hown (mvT hZ (hw _ (List.mem_of_getElem? (i := 9) rfl))) (g := (mkF m 0 #[.val (.int i0), .val (.long j1), .second, .unset, .unset] [])) rfl (hb hby d2_0) _) ?_
  show own_Ends p e below s _ _ _ T0 (mkF m 3 #[.val (.int i0), .val (.long j1), .second, .unset, .unset] [(.long (8 : Int64))])
  refine own_step (fun _ => XS.iloadN X0.here hx rfl (hb hby d2_3) rfl) ?_
  show own_Ends p e below s _ _ _ T0 (mkF m 4 #[.val (.int i0), .val (.long j1), .second, .unset, .unset] [(.int i0), (.long (8 : Int64))])
  refine own_step (fun _ => XS.i2l X0.here hx rfl (hb hby d2_4) rfl) ?_
  show own_Ends p e below s _ _ _ T0 (mkF m 5 #[.val (.int i0), .val (.long j1), .second, .unset, .unset] [(.long (i0.toInt64)), (.long (8 : Int64))])
  refine own_step (fun _ => XS.lmul X0.here hx rfl (hb hby d2_5) rfl) ?_
  show own_Ends p e below s _ _ _ T0 (mkF m 6 #[.val (.int i0), .val (.long j1), .second, .unset, .unset] [(.long ((8 : Int64) * (i0.toInt64)))])
  refine own_step (fun _ => XS.lstoreN X0.here hx rfl (hb hby d2_6) rfl (l' := #[.val (.int i0), .val (.long j1), .second, .val (.long ((8 : Int64) * (i0.toInt64))), .second]) rfl) ?_
  show own_Ends p e below s _ _ _ T0 (mkF m 7 #[.val (.int i0), .val (.long j1), .second, .val (.long ((8 : Int64) * (i0.toInt64))), .second] [])
  refine own_step (fun _ => XS.lloadN X0.here hx rfl (hb hby d2_7) rfl) ?_
  show own_Ends p e below s _ _ _ T0 (mkF m 8 #[.val (.int i0), .val (.long j1), .second, .val (.long ((8 : Int64) * (i0.toInt64))), .second] [(.long ((8 : Int64) * (i0.toInt64)))])
  refine own_step (fun _ => XS.lloadN X0.here hx rfl (hb hby d2_8) rfl) ?_
  show own_Ends p e below s _ _ _ T0 (mkF m 9 #[.val (.int i0), .val (.long j1), .second, .val (.long ((8 : Int64) * (i0.toInt64))), .second] [(.long j1), (.long ((8 : Int64) * (i0.toInt64)))])
  refine own_step (fun _ => XS.ldiv X0.here hx rfl (hb hby d2_9) rfl hnz) ?_
  show own_Ends p e below s _ _ _ T0 (mkF m 10 #[.val (.int i0), .val (.long j1), .second, .val (.long ((8 : Int64) * (i0.toInt64))), .second] [(.long (((8 : Int64) * (i0.toInt64)) / j1))])
  refine own_step (fun _ => XS.lloadN X0.here hx rfl (hb hby d2_10) rfl) ?_
  show own_Ends p e below s _ _ _ T0 (mkF m 11 #[.val (.int i0), .val (.long j1), .second, .val (.long ((8 : Int64) * (i0.toInt64))), .second] [(.long ((8 : Int64) * (i0.toInt64))), (.long (((8 : Int64) * (i0.toInt64)) / j1))])
  refine own_step (fun _ => XS.lloadN X0.here hx rfl (hb hby d2_11) rfl) ?_
  show own_Ends p e below s _ _ _ T0 (mkF m 12 #[.val (.int i0), .val (.long j1), .second, .val (.long ((8 : Int64) * (i0.toInt64))), .second] [(.long j1), (.long ((8 : Int64) * (i0.toInt64))), (.long (((8 : Int64) * (i0.toInt64)) / j1))])
  refine own_step (fun _ => own_lremM X0 hx rfl (hb hby d2_12) rfl hnz) ?_
  show own_Ends p e below s _ _ _ T0 (mkF m 13 #[.val (.int i0), .val (.long j1), .second, .val (.long ((8 : Int64) * (i0.toInt64))), .second] [(.long (((8 : Int64) * (i0.toInt64)) % j1)), (.long (((8 : Int64) * (i0.toInt64)) / j1))])
  refine own_step (fun _ => XS.lconst X0.here hx rfl (hb hby d2_13)) ?_
  show own_Ends p e below s _ _ _ T0 (mkF m 14 #[.val (.int i0), .val (.long j1), .second, .val (.long ((8 : Int64) * (i0.toInt64))), .second] [(.long (0 : Int64)), (.long (((8 : Int64) * (i0.toInt64)) % j1)), (.long (((8 : Int64) * (i0.toInt64)) / j1))])
  refine own_step (fun _ => XS.lcmp X0.here hx rfl (hb hby d2_14) rfl) ?_
  show own_Ends p e below s _ _ _ T0 (mkF m 15 #[.val (.int i0), .val (.long j1), .second, .val (.long ((8 : Int64) * (i0.toInt64))), .second] [(.int (lcmpW (((8 : Int64) * (i0.toInt64)) % j1) (0 : Int64))), (.long (((8 : Int64) * (i0.toInt64)) / j1))])
  by_cases hc15 : (((8 : Int64) * (i0.toInt64)) % j1) = (0 : Int64)
  · have hv_t := hv.trans (if_pos hc15)
    refine own_step (fun _ => XS.ifNo X0.here hx rfl (hb hby d2_15) rfl ((if0 _ _).trans (teq ((lw_eq _ _).mpr hc15)).2)) ?_
    show own_Ends p e below s _ _ _ T0 (mkF m 18 #[.val (.int i0), .val (.long j1), .second, .val (.long ((8 : Int64) * (i0.toInt64))), .second] [(.long (((8 : Int64) * (i0.toInt64)) / j1))])
    refine own_step (fun _ => XS.iconst X0.here hx rfl (hb hby d2_18)) ?_
    show own_Ends p e below s _ _ _ T0 (mkF m 19 #[.val (.int i0), .val (.long j1), .second, .val (.long ((8 : Int64) * (i0.toInt64))), .second] [(.int (0 : Int32)), (.long (((8 : Int64) * (i0.toInt64)) / j1))])
    refine own_step (fun _ => XS.goto X0.here hx rfl (pc0 := 19) (pc' := 23) rfl (hb hby d2_19) (by decide) (by decide)) ?_
    show own_Ends p e below s _ _ _ T0 (mkF m 23 #[.val (.int i0), .val (.long j1), .second, .val (.long ((8 : Int64) * (i0.toInt64))), .second] [(.int (0 : Int32)), (.long (((8 : Int64) * (i0.toInt64)) / j1))])
    refine own_step (fun _ => XS.i2l X0.here hx rfl (hb hby d2_23) rfl) ?_
    show own_Ends p e below s _ _ _ T0 (mkF m 24 #[.val (.int i0), .val (.long j1), .second, .val (.long ((8 : Int64) * (i0.toInt64))), .second] [(.long ((0 : Int32).toInt64)), (.long (((8 : Int64) * (i0.toInt64)) / j1))])
    refine own_step (fun _ => XS.ladd X0.here hx rfl (hb hby d2_24) rfl) ?_
    show own_Ends p e below s _ _ _ T0 (mkF m 25 #[.val (.int i0), .val (.long j1), .second, .val (.long ((8 : Int64) * (i0.toInt64))), .second] [(.long ((((8 : Int64) * (i0.toInt64)) / j1) + ((0 : Int32).toInt64)))])
    exact own_retJ X0 hx hret hlk (hb hby d2_25) (by decide) (by decide) ⟨congrArg (fun z => some (Value.long z)) hv_t.symm, N0, e0⟩
  · have hv_f := hv.trans (if_neg hc15)
    refine own_step (fun _ => XS.ifYes X0.here hx rfl (pc0 := 15) (pc' := 22) rfl (hb hby d2_15) rfl ((if0 _ _).trans (feq (fun q => hc15 ((lw_eq _ _).mp q))).2) (by decide) (by decide)) ?_
    show own_Ends p e below s _ _ _ T0 (mkF m 22 #[.val (.int i0), .val (.long j1), .second, .val (.long ((8 : Int64) * (i0.toInt64))), .second] [(.long (((8 : Int64) * (i0.toInt64)) / j1))])
    refine own_step (fun _ => XS.iconst X0.here hx rfl (hb hby d2_22)) ?_
    show own_Ends p e below s _ _ _ T0 (mkF m 23 #[.val (.int i0), .val (.long j1), .second, .val (.long ((8 : Int64) * (i0.toInt64))), .second] [(.int (1 : Int32)), (.long (((8 : Int64) * (i0.toInt64)) / j1))])
    refine own_step (fun _ => XS.i2l X0.here hx rfl (hb hby d2_23) rfl) ?_
    show own_Ends p e below s _ _ _ T0 (mkF m 24 #[.val (.int i0), .val (.long j1), .second, .val (.long ((8 : Int64) * (i0.toInt64))), .second] [(.long ((1 : Int32).toInt64)), (.long (((8 : Int64) * (i0.toInt64)) / j1))])
    refine own_step (fun _ => XS.ladd X0.here hx rfl (hb hby d2_24) rfl) ?_
    show own_Ends p e below s _ _ _ T0 (mkF m 25 #[.val (.int i0), .val (.long j1), .second, .val (.long ((8 : Int64) * (i0.toInt64))), .second] [(.long ((((8 : Int64) * (i0.toInt64)) / j1) + ((1 : Int32).toInt64)))])
    exact own_retJ X0 hx hret hlk (hb hby d2_25) (by decide) (by decide) ⟨congrArg (fun z => some (Value.long z)) hv_f.symm, N0, e0⟩
theorem ef_rm2 (m : MethodId) (i0 : Int32) (j1 : Int64) : entryFrame m #[(.int i0), (.long j1)] 5 = mkF m 0 #[.val (.int i0), .val (.long j1), .second, .unset, .unset] [] := by first | (simp [entryFrame, mkF, argsToLocals, Value.category]; done) | rfl
set_option maxRecDepth 65536 in
set_option maxHeartbeats 40000000 in
theorem rm2 (l : Launch) (Z : State) (a0 : Array Value) (hw : ∀ d ∈ tables_1, d.before a0 Z = true) (ws : List Jvm.Cond) (i0 : Int32) (j1 : Int64) (h0 : Heap) (n0 : Nat) (Z0 : n0 ≤ h0.size) (hnz : j1 ≠ 0) :
    MetFree l (⟨"com/example/graded_queue/gradedqueue/port/OutputPort", "transmissionNs", "(IJ)J"⟩ : MethodName) (head1 (Jvm.Cond.code (⟨"com/example/graded_queue/gradedqueue/port/OutputPort", "transmissionNs", "(IJ)J"⟩ : MethodName) prog_29_method_8_code 5 (some .long) :: ws) ({ frames := 0, cells := 0, slots := 0, locals := 0 } : Room)) (fun a U => a = #[(.int i0), (.long j1)] ∧ Z.Warmed39 U.vm ∧ U.heap = h0) (fun _ _ _ _ _ => True) (fun _ U o U' => ∃ v L, o = .returned v ∧ (own_Q n0 h0 (some (.long (f2_0 i0 j1)))) v U'.heap L ∧ FrameEnd U o U' L ({ frames := 0, cells := 0, slots := 0, locals := 0 } : Room).cells ({ frames := 0, cells := 0, slots := 0, locals := 0 } : Room).slots) := by
  refine MetFree.of_bodySF (plainFor_of_name pn_0) hisR ?_
  intro p e s m args below meth c s₁ Bd hml0 hP hK
  obtain ⟨rfl, hZ, hh⟩ := hP
  have X0 : Stand p l e ({ frames := 0, cells := 0, slots := 0, locals := 0 } : Room) s m #[(.int i0), (.long j1)] below meth c s₁ [] 0 0 := Stand.of_body Bd
  have e0 : s₁.heap = h0 := by rw [← hh, Bd.state]; rfl
  have C : own_C "com/example/graded_queue/gradedqueue/port/OutputPort" prog_29_method_8_code 5 (some .long) "transmissionNs" p s m meth c Z a0 := ⟨Bd.exec, hZ, hw, Bd.bytes, hml0, findClass_of_methodNamed Bd.named, Bd.returns, Bd.notSynchronized, (name_of_methodNamed Bd.named Bd.method).1⟩
  have r := b2_0 C Z0 X0 e0 (Fr.nil n0) i0 j1 hnz _ rfl
  rw [ef_rm2 m i0 j1]
  exact r
theorem own_maskL (x m : Int64) (k : Nat) (hk : k ≤ 63) (hm : m.toBitVec.toNat = 2 ^ k - 1) : 0 ≤ (x &&& m).toInt ∧ (x &&& m).toInt < 2 ^ k := by
  have h1 : (x &&& m).toBitVec.toNat = x.toBitVec.toNat % 2 ^ k := by
    show (x.toBitVec &&& m.toBitVec).toNat = _
    rw [BitVec.toNat_and, hm, Nat.and_two_pow_sub_one_eq_mod]
  have h3 : x.toBitVec.toNat % 2 ^ k < 2 ^ k := Nat.mod_lt _ (Nat.two_pow_pos k)
  have h4 : 2 ^ k ≤ 2 ^ 63 := Nat.pow_le_pow_right (by decide) hk
  show 0 ≤ (x &&& m).toBitVec.toInt ∧ (x &&& m).toBitVec.toInt < 2 ^ k
  rw [BitVec.toInt_eq_toNat_cond, h1, if_pos (by omega)]
  constructor
  · omega
  · exact_mod_cast h3
theorem own_nz1 (x : Int64) : (x &&& (1023 : Int64)) + (1 : Int64) ≠ 0 := by
  have h := own_maskL x 1023 10 (by decide) (by decide)
  intro q
  have q1 := congrArg Int64.toInt q
  rw [Int64.toInt_add, Int.bmod_eq_of_le (by simp; omega) (by simp; omega)] at q1
  have : (1 : Int64).toInt = 1 := rfl
  have : (0 : Int64).toInt = 0 := rfl
  omega
theorem own_nz2 (y : Int64) : f1_0 (1 : Int64) y ≠ 0 := by
  unfold f1_0
  split
  · rename_i h
    intro q; subst q; exact absurd h (by decide)
  · decide

def f0_57 (i0 : Int32) (j1 : Int64) (i2 : Int32) (il4_28 : Int32) (jl5_57 : Int64) : Int32 := (if (f2_0 il4_28 jl5_57) = (((((8 : Int64) * (il4_28.toInt64)) - (1 : Int64)) / jl5_57) + (1 : Int64)) then (if (f2_0 il4_28 jl5_57) < (1 : Int64) then (0 : Int32) else (if (0 : Int64) < (((8 : Int64) * (il4_28.toInt64)) - (((f2_0 il4_28 jl5_57) - (1 : Int64)) * jl5_57)) then (if jl5_57 < (((8 : Int64) * (il4_28.toInt64)) - (((f2_0 il4_28 jl5_57) - (1 : Int64)) * jl5_57)) then (0 : Int32) else (1 : Int32)) else (0 : Int32))) else (0 : Int32))
set_option maxRecDepth 65536 in
set_option maxHeartbeats 40000000 in
theorem b0_57 {p : Program} {l : Launch} {e : Env} {s : State} {m : MethodId} {args : Array Value} {below : List Frame} {meth : Method} {c : Code} {Z : State} {a0 : Array Value} {h0 : Heap} {n0 : Nat} (C : own_C "com/example/graded_queue/gradedqueue/port/OutputPortTransmissionNsPinLaw" code maxLocals ret x.name p s m meth c Z a0) (Z0 : n0 ≤ h0.size) {T0 : State} {locs : List Loc} (X0 : Stand p l e room_1 s m args below meth c T0 locs 0 0) (e0 : T0.heap = h0) (N0 : Fr n0 locs) (i0 : Int32) (j1 : Int64) (i2 : Int32) (il4_28 : Int32) (jl5_57 : Int64) (hr : jl5_57 ≠ 0) (W : Int32) (hv : W = f0_57 i0 j1 i2 il4_28 jl5_57) :
    own_Ends p e below s room_1.cells room_1.slots (own_Q n0 h0 (some (.int W))) T0 (mkF m 57 #[.val (.int i0), .val (.long j1), .second, .val (.int i2), .val (.int il4_28), .val (.long jl5_57), .second, .unset, .unset, .unset, .unset, .unset, .unset, .unset, .unset, .unset, .unset] []) := by
  obtain ⟨hx, hZ, hw, hby, hml, hown, hret, hlk, hnm⟩ := C
  have C : own_C "com/example/graded_queue/gradedqueue/port/OutputPortTransmissionNsPinLaw" code maxLocals ret x.name p s m meth c Z a0 := ⟨hx, hZ, hw, hby, hml, hown, hret, hlk, hnm⟩
  unfold f0_57 at hv
  refine own_step (fun _ => XS.iload X0.here hx rfl (hb hby at_57) rfl) ?_
  show own_Ends p e below s _ _ _ T0 (mkF m 59 #[.val (.int i0), .val (.long j1), .second, .val (.int i2), .val (.int il4_28), .val (.long jl5_57), .second, .unset, .unset, .unset, .unset, .unset, .unset, .unset, .unset, .unset, .unset] [(.int il4_28)])
  refine own_step (fun _ => XS.lload X0.here hx rfl (hb hby at_59) rfl) ?_
  show own_Ends p e below s _ _ _ T0 (mkF m 61 #[.val (.int i0), .val (.long j1), .second, .val (.int i2), .val (.int il4_28), .val (.long jl5_57), .second, .unset, .unset, .unset, .unset, .unset, .unset, .unset, .unset, .unset, .unset] [(.long jl5_57), (.int il4_28)])
  obtain ⟨_, _, ⟨T6, L6, k6, n6⟩, -, X6, ⟨Lc6, hQ6, l6, y6, z6⟩, st6⟩ := Jvm.LawKit.callS X0 hx (y := (⟨"com/example/graded_queue/gradedqueue/port/OutputPort", "transmissionNs", "(IJ)J"⟩ : MethodName)) hown (mvT hZ (hw _ (List.mem_of_getElem? (i := 5) rfl))) (mvT hZ (hw _ (List.mem_of_getElem? (i := 6) rfl))) (mvT hZ (hw _ (List.mem_of_getElem? (i := 7) rfl))) (mvT hZ (hw _ (List.mem_of_getElem? (i := 8) rfl))) (by decide) (backOf (W := 0) (rm2 l Z a0 hw [] il4_28 jl5_57 h0 n0 Z0 hr) hZ (hw _ (List.mem_of_getElem? (i := 8) rfl)) (hw _ (List.mem_of_getElem? (i := 7) rfl)) (by decide) (by decide)) (g := (mkF m 61 #[.val (.int i0), .val (.long j1), .second, .val (.int i2), .val (.int il4_28), .val (.long jl5_57), .second, .unset, .unset, .unset, .unset, .unset, .unset, .unset, .unset, .unset, .unset] [(.long jl5_57), (.int il4_28)])) rfl (by rw [hml]; rfl) (argsL := [(.int il4_28), (.long jl5_57)]) (rest := []) (lenOf pd_2 rfl) rfl (by show 2 * 0 + _ ≤ _; exact Nat.le_of_eq rfl) (hb hby at_61) (fun _ _ => ⟨rfl, e0, (by decide : 0 + 0 ≤ _), (by decide : 0 + 0 ≤ _)⟩)
  dsimp only [Pt.U, Pt.locs, Pt.cells, Pt.slots] at X6 l6 y6 z6 st6 hQ6
  subst l6 y6 z6
  obtain ⟨rfl, N6q, hh6⟩ := hQ6
  have N6 := Fr.app N0 N6q
  refine own_step st6 ?_
  show own_Ends p e below s _ _ _ T6 (mkF m 64 #[.val (.int i0), .val (.long j1), .second, .val (.int i2), .val (.int il4_28), .val (.long jl5_57), .second, .unset, .unset, .unset, .unset, .unset, .unset, .unset, .unset, .unset, .unset] [(.long (f2_0 il4_28 jl5_57))])
  refine own_step (fun _ => XS.lstore X6.here hx rfl (hb hby at_64) rfl (l' := #[.val (.int i0), .val (.long j1), .second, .val (.int i2), .val (.int il4_28), .val (.long jl5_57), .second, .val (.long (f2_0 il4_28 jl5_57)), .second, .unset, .unset, .unset, .unset, .unset, .unset, .unset, .unset]) rfl) ?_
  show own_Ends p e below s _ _ _ T6 (mkF m 66 #[.val (.int i0), .val (.long j1), .second, .val (.int i2), .val (.int il4_28), .val (.long jl5_57), .second, .val (.long (f2_0 il4_28 jl5_57)), .second, .unset, .unset, .unset, .unset, .unset, .unset, .unset, .unset] [])
  refine own_step (fun _ => X6.ldc2Long hx hown (mvT hZ (hw _ (List.mem_of_getElem? (i := 10) rfl))) (g := (mkF m 66 #[.val (.int i0), .val (.long j1), .second, .val (.int i2), .val (.int il4_28), .val (.long jl5_57), .second, .val (.long (f2_0 il4_28 jl5_57)), .second, .unset, .unset, .unset, .unset, .unset, .unset, .unset, .unset] [])) rfl (hb hby at_66) _) ?_
  show own_Ends p e below s _ _ _ T6 (mkF m 69 #[.val (.int i0), .val (.long j1), .second, .val (.int i2), .val (.int il4_28), .val (.long jl5_57), .second, .val (.long (f2_0 il4_28 jl5_57)), .second, .unset, .unset, .unset, .unset, .unset, .unset, .unset, .unset] [(.long (8 : Int64))])
  refine own_step (fun _ => XS.iload X6.here hx rfl (hb hby at_69) rfl) ?_
  show own_Ends p e below s _ _ _ T6 (mkF m 71 #[.val (.int i0), .val (.long j1), .second, .val (.int i2), .val (.int il4_28), .val (.long jl5_57), .second, .val (.long (f2_0 il4_28 jl5_57)), .second, .unset, .unset, .unset, .unset, .unset, .unset, .unset, .unset] [(.int il4_28), (.long (8 : Int64))])
  refine own_step (fun _ => XS.i2l X6.here hx rfl (hb hby at_71) rfl) ?_
  show own_Ends p e below s _ _ _ T6 (mkF m 72 #[.val (.int i0), .val (.long j1), .second, .val (.int i2), .val (.int il4_28), .val (.long jl5_57), .second, .val (.long (f2_0 il4_28 jl5_57)), .second, .unset, .unset, .unset, .unset, .unset, .unset, .unset, .unset] [(.long (il4_28.toInt64)), (.long (8 : Int64))])
  refine own_step (fun _ => XS.lmul X6.here hx rfl (hb hby at_72) rfl) ?_
  show own_Ends p e below s _ _ _ T6 (mkF m 73 #[.val (.int i0), .val (.long j1), .second, .val (.int i2), .val (.int il4_28), .val (.long jl5_57), .second, .val (.long (f2_0 il4_28 jl5_57)), .second, .unset, .unset, .unset, .unset, .unset, .unset, .unset, .unset] [(.long ((8 : Int64) * (il4_28.toInt64)))])
  refine own_step (fun _ => XS.lstore X6.here hx rfl (hb hby at_73) rfl (l' := #[.val (.int i0), .val (.long j1), .second, .val (.int i2), .val (.int il4_28), .val (.long jl5_57), .second, .val (.long (f2_0 il4_28 jl5_57)), .second, .val (.long ((8 : Int64) * (il4_28.toInt64))), .second, .unset, .unset, .unset, .unset, .unset, .unset]) rfl) ?_
  show own_Ends p e below s _ _ _ T6 (mkF m 75 #[.val (.int i0), .val (.long j1), .second, .val (.int i2), .val (.int il4_28), .val (.long jl5_57), .second, .val (.long (f2_0 il4_28 jl5_57)), .second, .val (.long ((8 : Int64) * (il4_28.toInt64))), .second, .unset, .unset, .unset, .unset, .unset, .unset] [])
  refine own_step (fun _ => XS.lload X6.here hx rfl (hb hby at_75) rfl) ?_
  show own_Ends p e below s _ _ _ T6 (mkF m 77 #[.val (.int i0), .val (.long j1), .second, .val (.int i2), .val (.int il4_28), .val (.long jl5_57), .second, .val (.long (f2_0 il4_28 jl5_57)), .second, .val (.long ((8 : Int64) * (il4_28.toInt64))), .second, .unset, .unset, .unset, .unset, .unset, .unset] [(.long ((8 : Int64) * (il4_28.toInt64)))])
  refine own_step (fun _ => XS.lconst X6.here hx rfl (hb hby at_77)) ?_
  show own_Ends p e below s _ _ _ T6 (mkF m 78 #[.val (.int i0), .val (.long j1), .second, .val (.int i2), .val (.int il4_28), .val (.long jl5_57), .second, .val (.long (f2_0 il4_28 jl5_57)), .second, .val (.long ((8 : Int64) * (il4_28.toInt64))), .second, .unset, .unset, .unset, .unset, .unset, .unset] [(.long (1 : Int64)), (.long ((8 : Int64) * (il4_28.toInt64)))])
  refine own_step (fun _ => XS.lsub X6.here hx rfl (hb hby at_78) rfl) ?_
  show own_Ends p e below s _ _ _ T6 (mkF m 79 #[.val (.int i0), .val (.long j1), .second, .val (.int i2), .val (.int il4_28), .val (.long jl5_57), .second, .val (.long (f2_0 il4_28 jl5_57)), .second, .val (.long ((8 : Int64) * (il4_28.toInt64))), .second, .unset, .unset, .unset, .unset, .unset, .unset] [(.long (((8 : Int64) * (il4_28.toInt64)) - (1 : Int64)))])
  refine own_step (fun _ => XS.lload X6.here hx rfl (hb hby at_79) rfl) ?_
  show own_Ends p e below s _ _ _ T6 (mkF m 81 #[.val (.int i0), .val (.long j1), .second, .val (.int i2), .val (.int il4_28), .val (.long jl5_57), .second, .val (.long (f2_0 il4_28 jl5_57)), .second, .val (.long ((8 : Int64) * (il4_28.toInt64))), .second, .unset, .unset, .unset, .unset, .unset, .unset] [(.long jl5_57), (.long (((8 : Int64) * (il4_28.toInt64)) - (1 : Int64)))])
  refine own_step (fun _ => XS.ldiv X6.here hx rfl (hb hby at_81) rfl hr) ?_
  show own_Ends p e below s _ _ _ T6 (mkF m 82 #[.val (.int i0), .val (.long j1), .second, .val (.int i2), .val (.int il4_28), .val (.long jl5_57), .second, .val (.long (f2_0 il4_28 jl5_57)), .second, .val (.long ((8 : Int64) * (il4_28.toInt64))), .second, .unset, .unset, .unset, .unset, .unset, .unset] [(.long ((((8 : Int64) * (il4_28.toInt64)) - (1 : Int64)) / jl5_57))])
  refine own_step (fun _ => XS.lconst X6.here hx rfl (hb hby at_82)) ?_
  show own_Ends p e below s _ _ _ T6 (mkF m 83 #[.val (.int i0), .val (.long j1), .second, .val (.int i2), .val (.int il4_28), .val (.long jl5_57), .second, .val (.long (f2_0 il4_28 jl5_57)), .second, .val (.long ((8 : Int64) * (il4_28.toInt64))), .second, .unset, .unset, .unset, .unset, .unset, .unset] [(.long (1 : Int64)), (.long ((((8 : Int64) * (il4_28.toInt64)) - (1 : Int64)) / jl5_57))])
  refine own_step (fun _ => XS.ladd X6.here hx rfl (hb hby at_83) rfl) ?_
  show own_Ends p e below s _ _ _ T6 (mkF m 84 #[.val (.int i0), .val (.long j1), .second, .val (.int i2), .val (.int il4_28), .val (.long jl5_57), .second, .val (.long (f2_0 il4_28 jl5_57)), .second, .val (.long ((8 : Int64) * (il4_28.toInt64))), .second, .unset, .unset, .unset, .unset, .unset, .unset] [(.long (((((8 : Int64) * (il4_28.toInt64)) - (1 : Int64)) / jl5_57) + (1 : Int64)))])
  refine own_step (fun _ => XS.lstore X6.here hx rfl (hb hby at_84) rfl (l' := #[.val (.int i0), .val (.long j1), .second, .val (.int i2), .val (.int il4_28), .val (.long jl5_57), .second, .val (.long (f2_0 il4_28 jl5_57)), .second, .val (.long ((8 : Int64) * (il4_28.toInt64))), .second, .val (.long (((((8 : Int64) * (il4_28.toInt64)) - (1 : Int64)) / jl5_57) + (1 : Int64))), .second, .unset, .unset, .unset, .unset]) rfl) ?_
  show own_Ends p e below s _ _ _ T6 (mkF m 86 #[.val (.int i0), .val (.long j1), .second, .val (.int i2), .val (.int il4_28), .val (.long jl5_57), .second, .val (.long (f2_0 il4_28 jl5_57)), .second, .val (.long ((8 : Int64) * (il4_28.toInt64))), .second, .val (.long (((((8 : Int64) * (il4_28.toInt64)) - (1 : Int64)) / jl5_57) + (1 : Int64))), .second, .unset, .unset, .unset, .unset] [])
  refine own_step (fun _ => XS.lload X6.here hx rfl (hb hby at_86) rfl) ?_
  show own_Ends p e below s _ _ _ T6 (mkF m 88 #[.val (.int i0), .val (.long j1), .second, .val (.int i2), .val (.int il4_28), .val (.long jl5_57), .second, .val (.long (f2_0 il4_28 jl5_57)), .second, .val (.long ((8 : Int64) * (il4_28.toInt64))), .second, .val (.long (((((8 : Int64) * (il4_28.toInt64)) - (1 : Int64)) / jl5_57) + (1 : Int64))), .second, .unset, .unset, .unset, .unset] [(.long (f2_0 il4_28 jl5_57))])
  refine own_step (fun _ => XS.lload X6.here hx rfl (hb hby at_88) rfl) ?_
  show own_Ends p e below s _ _ _ T6 (mkF m 90 #[.val (.int i0), .val (.long j1), .second, .val (.int i2), .val (.int il4_28), .val (.long jl5_57), .second, .val (.long (f2_0 il4_28 jl5_57)), .second, .val (.long ((8 : Int64) * (il4_28.toInt64))), .second, .val (.long (((((8 : Int64) * (il4_28.toInt64)) - (1 : Int64)) / jl5_57) + (1 : Int64))), .second, .unset, .unset, .unset, .unset] [(.long (((((8 : Int64) * (il4_28.toInt64)) - (1 : Int64)) / jl5_57) + (1 : Int64))), (.long (f2_0 il4_28 jl5_57))])
  refine own_step (fun _ => XS.lcmp X6.here hx rfl (hb hby at_90) rfl) ?_
  show own_Ends p e below s _ _ _ T6 (mkF m 91 #[.val (.int i0), .val (.long j1), .second, .val (.int i2), .val (.int il4_28), .val (.long jl5_57), .second, .val (.long (f2_0 il4_28 jl5_57)), .second, .val (.long ((8 : Int64) * (il4_28.toInt64))), .second, .val (.long (((((8 : Int64) * (il4_28.toInt64)) - (1 : Int64)) / jl5_57) + (1 : Int64))), .second, .unset, .unset, .unset, .unset] [(.int (lcmpW (f2_0 il4_28 jl5_57) (((((8 : Int64) * (il4_28.toInt64)) - (1 : Int64)) / jl5_57) + (1 : Int64))))])
  by_cases hc91 : (f2_0 il4_28 jl5_57) = (((((8 : Int64) * (il4_28.toInt64)) - (1 : Int64)) / jl5_57) + (1 : Int64))
  · have hv_t := hv.trans (if_pos hc91)
    refine own_step (fun _ => XS.ifYes X6.here hx rfl (pc0 := 91) (pc' := 96) rfl (hb hby at_91) rfl ((if0 _ _).trans (teq ((lw_eq _ _).mpr hc91)).1) (by decide) (by decide)) ?_
    show own_Ends p e below s _ _ _ T6 (mkF m 96 #[.val (.int i0), .val (.long j1), .second, .val (.int i2), .val (.int il4_28), .val (.long jl5_57), .second, .val (.long (f2_0 il4_28 jl5_57)), .second, .val (.long ((8 : Int64) * (il4_28.toInt64))), .second, .val (.long (((((8 : Int64) * (il4_28.toInt64)) - (1 : Int64)) / jl5_57) + (1 : Int64))), .second, .unset, .unset, .unset, .unset] [])
    refine own_step (fun _ => XS.lload X6.here hx rfl (hb hby at_96) rfl) ?_
    show own_Ends p e below s _ _ _ T6 (mkF m 98 #[.val (.int i0), .val (.long j1), .second, .val (.int i2), .val (.int il4_28), .val (.long jl5_57), .second, .val (.long (f2_0 il4_28 jl5_57)), .second, .val (.long ((8 : Int64) * (il4_28.toInt64))), .second, .val (.long (((((8 : Int64) * (il4_28.toInt64)) - (1 : Int64)) / jl5_57) + (1 : Int64))), .second, .unset, .unset, .unset, .unset] [(.long (f2_0 il4_28 jl5_57))])
    refine own_step (fun _ => XS.lconst X6.here hx rfl (hb hby at_98)) ?_
    show own_Ends p e below s _ _ _ T6 (mkF m 99 #[.val (.int i0), .val (.long j1), .second, .val (.int i2), .val (.int il4_28), .val (.long jl5_57), .second, .val (.long (f2_0 il4_28 jl5_57)), .second, .val (.long ((8 : Int64) * (il4_28.toInt64))), .second, .val (.long (((((8 : Int64) * (il4_28.toInt64)) - (1 : Int64)) / jl5_57) + (1 : Int64))), .second, .unset, .unset, .unset, .unset] [(.long (1 : Int64)), (.long (f2_0 il4_28 jl5_57))])
    refine own_step (fun _ => XS.lsub X6.here hx rfl (hb hby at_99) rfl) ?_
    show own_Ends p e below s _ _ _ T6 (mkF m 100 #[.val (.int i0), .val (.long j1), .second, .val (.int i2), .val (.int il4_28), .val (.long jl5_57), .second, .val (.long (f2_0 il4_28 jl5_57)), .second, .val (.long ((8 : Int64) * (il4_28.toInt64))), .second, .val (.long (((((8 : Int64) * (il4_28.toInt64)) - (1 : Int64)) / jl5_57) + (1 : Int64))), .second, .unset, .unset, .unset, .unset] [(.long ((f2_0 il4_28 jl5_57) - (1 : Int64)))])
    refine own_step (fun _ => XS.lload X6.here hx rfl (hb hby at_100) rfl) ?_
    show own_Ends p e below s _ _ _ T6 (mkF m 102 #[.val (.int i0), .val (.long j1), .second, .val (.int i2), .val (.int il4_28), .val (.long jl5_57), .second, .val (.long (f2_0 il4_28 jl5_57)), .second, .val (.long ((8 : Int64) * (il4_28.toInt64))), .second, .val (.long (((((8 : Int64) * (il4_28.toInt64)) - (1 : Int64)) / jl5_57) + (1 : Int64))), .second, .unset, .unset, .unset, .unset] [(.long jl5_57), (.long ((f2_0 il4_28 jl5_57) - (1 : Int64)))])
    refine own_step (fun _ => XS.lmul X6.here hx rfl (hb hby at_102) rfl) ?_
    show own_Ends p e below s _ _ _ T6 (mkF m 103 #[.val (.int i0), .val (.long j1), .second, .val (.int i2), .val (.int il4_28), .val (.long jl5_57), .second, .val (.long (f2_0 il4_28 jl5_57)), .second, .val (.long ((8 : Int64) * (il4_28.toInt64))), .second, .val (.long (((((8 : Int64) * (il4_28.toInt64)) - (1 : Int64)) / jl5_57) + (1 : Int64))), .second, .unset, .unset, .unset, .unset] [(.long (((f2_0 il4_28 jl5_57) - (1 : Int64)) * jl5_57))])
    refine own_step (fun _ => XS.lstore X6.here hx rfl (hb hby at_103) rfl (l' := #[.val (.int i0), .val (.long j1), .second, .val (.int i2), .val (.int il4_28), .val (.long jl5_57), .second, .val (.long (f2_0 il4_28 jl5_57)), .second, .val (.long ((8 : Int64) * (il4_28.toInt64))), .second, .val (.long (((((8 : Int64) * (il4_28.toInt64)) - (1 : Int64)) / jl5_57) + (1 : Int64))), .second, .val (.long (((f2_0 il4_28 jl5_57) - (1 : Int64)) * jl5_57)), .second, .unset, .unset]) rfl) ?_
    show own_Ends p e below s _ _ _ T6 (mkF m 105 #[.val (.int i0), .val (.long j1), .second, .val (.int i2), .val (.int il4_28), .val (.long jl5_57), .second, .val (.long (f2_0 il4_28 jl5_57)), .second, .val (.long ((8 : Int64) * (il4_28.toInt64))), .second, .val (.long (((((8 : Int64) * (il4_28.toInt64)) - (1 : Int64)) / jl5_57) + (1 : Int64))), .second, .val (.long (((f2_0 il4_28 jl5_57) - (1 : Int64)) * jl5_57)), .second, .unset, .unset] [])
    refine own_step (fun _ => XS.lload X6.here hx rfl (hb hby at_105) rfl) ?_
    show own_Ends p e below s _ _ _ T6 (mkF m 107 #[.val (.int i0), .val (.long j1), .second, .val (.int i2), .val (.int il4_28), .val (.long jl5_57), .second, .val (.long (f2_0 il4_28 jl5_57)), .second, .val (.long ((8 : Int64) * (il4_28.toInt64))), .second, .val (.long (((((8 : Int64) * (il4_28.toInt64)) - (1 : Int64)) / jl5_57) + (1 : Int64))), .second, .val (.long (((f2_0 il4_28 jl5_57) - (1 : Int64)) * jl5_57)), .second, .unset, .unset] [(.long ((8 : Int64) * (il4_28.toInt64)))])
    refine own_step (fun _ => XS.lload X6.here hx rfl (hb hby at_107) rfl) ?_
    show own_Ends p e below s _ _ _ T6 (mkF m 109 #[.val (.int i0), .val (.long j1), .second, .val (.int i2), .val (.int il4_28), .val (.long jl5_57), .second, .val (.long (f2_0 il4_28 jl5_57)), .second, .val (.long ((8 : Int64) * (il4_28.toInt64))), .second, .val (.long (((((8 : Int64) * (il4_28.toInt64)) - (1 : Int64)) / jl5_57) + (1 : Int64))), .second, .val (.long (((f2_0 il4_28 jl5_57) - (1 : Int64)) * jl5_57)), .second, .unset, .unset] [(.long (((f2_0 il4_28 jl5_57) - (1 : Int64)) * jl5_57)), (.long ((8 : Int64) * (il4_28.toInt64)))])
    refine own_step (fun _ => XS.lsub X6.here hx rfl (hb hby at_109) rfl) ?_
    show own_Ends p e below s _ _ _ T6 (mkF m 110 #[.val (.int i0), .val (.long j1), .second, .val (.int i2), .val (.int il4_28), .val (.long jl5_57), .second, .val (.long (f2_0 il4_28 jl5_57)), .second, .val (.long ((8 : Int64) * (il4_28.toInt64))), .second, .val (.long (((((8 : Int64) * (il4_28.toInt64)) - (1 : Int64)) / jl5_57) + (1 : Int64))), .second, .val (.long (((f2_0 il4_28 jl5_57) - (1 : Int64)) * jl5_57)), .second, .unset, .unset] [(.long (((8 : Int64) * (il4_28.toInt64)) - (((f2_0 il4_28 jl5_57) - (1 : Int64)) * jl5_57)))])
    refine own_step (fun _ => XS.lstore X6.here hx rfl (hb hby at_110) rfl (l' := #[.val (.int i0), .val (.long j1), .second, .val (.int i2), .val (.int il4_28), .val (.long jl5_57), .second, .val (.long (f2_0 il4_28 jl5_57)), .second, .val (.long ((8 : Int64) * (il4_28.toInt64))), .second, .val (.long (((((8 : Int64) * (il4_28.toInt64)) - (1 : Int64)) / jl5_57) + (1 : Int64))), .second, .val (.long (((f2_0 il4_28 jl5_57) - (1 : Int64)) * jl5_57)), .second, .val (.long (((8 : Int64) * (il4_28.toInt64)) - (((f2_0 il4_28 jl5_57) - (1 : Int64)) * jl5_57))), .second]) rfl) ?_
    show own_Ends p e below s _ _ _ T6 (mkF m 112 #[.val (.int i0), .val (.long j1), .second, .val (.int i2), .val (.int il4_28), .val (.long jl5_57), .second, .val (.long (f2_0 il4_28 jl5_57)), .second, .val (.long ((8 : Int64) * (il4_28.toInt64))), .second, .val (.long (((((8 : Int64) * (il4_28.toInt64)) - (1 : Int64)) / jl5_57) + (1 : Int64))), .second, .val (.long (((f2_0 il4_28 jl5_57) - (1 : Int64)) * jl5_57)), .second, .val (.long (((8 : Int64) * (il4_28.toInt64)) - (((f2_0 il4_28 jl5_57) - (1 : Int64)) * jl5_57))), .second] [])
    refine own_step (fun _ => XS.lload X6.here hx rfl (hb hby at_112) rfl) ?_
    show own_Ends p e below s _ _ _ T6 (mkF m 114 #[.val (.int i0), .val (.long j1), .second, .val (.int i2), .val (.int il4_28), .val (.long jl5_57), .second, .val (.long (f2_0 il4_28 jl5_57)), .second, .val (.long ((8 : Int64) * (il4_28.toInt64))), .second, .val (.long (((((8 : Int64) * (il4_28.toInt64)) - (1 : Int64)) / jl5_57) + (1 : Int64))), .second, .val (.long (((f2_0 il4_28 jl5_57) - (1 : Int64)) * jl5_57)), .second, .val (.long (((8 : Int64) * (il4_28.toInt64)) - (((f2_0 il4_28 jl5_57) - (1 : Int64)) * jl5_57))), .second] [(.long (f2_0 il4_28 jl5_57))])
    refine own_step (fun _ => XS.lconst X6.here hx rfl (hb hby at_114)) ?_
    show own_Ends p e below s _ _ _ T6 (mkF m 115 #[.val (.int i0), .val (.long j1), .second, .val (.int i2), .val (.int il4_28), .val (.long jl5_57), .second, .val (.long (f2_0 il4_28 jl5_57)), .second, .val (.long ((8 : Int64) * (il4_28.toInt64))), .second, .val (.long (((((8 : Int64) * (il4_28.toInt64)) - (1 : Int64)) / jl5_57) + (1 : Int64))), .second, .val (.long (((f2_0 il4_28 jl5_57) - (1 : Int64)) * jl5_57)), .second, .val (.long (((8 : Int64) * (il4_28.toInt64)) - (((f2_0 il4_28 jl5_57) - (1 : Int64)) * jl5_57))), .second] [(.long (1 : Int64)), (.long (f2_0 il4_28 jl5_57))])
    refine own_step (fun _ => XS.lcmp X6.here hx rfl (hb hby at_115) rfl) ?_
    show own_Ends p e below s _ _ _ T6 (mkF m 116 #[.val (.int i0), .val (.long j1), .second, .val (.int i2), .val (.int il4_28), .val (.long jl5_57), .second, .val (.long (f2_0 il4_28 jl5_57)), .second, .val (.long ((8 : Int64) * (il4_28.toInt64))), .second, .val (.long (((((8 : Int64) * (il4_28.toInt64)) - (1 : Int64)) / jl5_57) + (1 : Int64))), .second, .val (.long (((f2_0 il4_28 jl5_57) - (1 : Int64)) * jl5_57)), .second, .val (.long (((8 : Int64) * (il4_28.toInt64)) - (((f2_0 il4_28 jl5_57) - (1 : Int64)) * jl5_57))), .second] [(.int (lcmpW (f2_0 il4_28 jl5_57) (1 : Int64)))])
    by_cases hc116 : (f2_0 il4_28 jl5_57) < (1 : Int64)
    · have hv_t_t := hv_t.trans (if_pos hc116)
      refine own_step (fun _ => XS.ifYes X6.here hx rfl (pc0 := 116) (pc' := 138) rfl (hb hby at_116) rfl ((if0 _ _).trans (tlt ((lw_lt _ _).mpr hc116)).1) (by decide) (by decide)) ?_
      show own_Ends p e below s _ _ _ T6 (mkF m 138 #[.val (.int i0), .val (.long j1), .second, .val (.int i2), .val (.int il4_28), .val (.long jl5_57), .second, .val (.long (f2_0 il4_28 jl5_57)), .second, .val (.long ((8 : Int64) * (il4_28.toInt64))), .second, .val (.long (((((8 : Int64) * (il4_28.toInt64)) - (1 : Int64)) / jl5_57) + (1 : Int64))), .second, .val (.long (((f2_0 il4_28 jl5_57) - (1 : Int64)) * jl5_57)), .second, .val (.long (((8 : Int64) * (il4_28.toInt64)) - (((f2_0 il4_28 jl5_57) - (1 : Int64)) * jl5_57))), .second] [])
      refine own_step (fun _ => XS.iconst X6.here hx rfl (hb hby at_138)) ?_
      show own_Ends p e below s _ _ _ T6 (mkF m 139 #[.val (.int i0), .val (.long j1), .second, .val (.int i2), .val (.int il4_28), .val (.long jl5_57), .second, .val (.long (f2_0 il4_28 jl5_57)), .second, .val (.long ((8 : Int64) * (il4_28.toInt64))), .second, .val (.long (((((8 : Int64) * (il4_28.toInt64)) - (1 : Int64)) / jl5_57) + (1 : Int64))), .second, .val (.long (((f2_0 il4_28 jl5_57) - (1 : Int64)) * jl5_57)), .second, .val (.long (((8 : Int64) * (il4_28.toInt64)) - (((f2_0 il4_28 jl5_57) - (1 : Int64)) * jl5_57))), .second] [(.int (0 : Int32))])
      exact own_retN X6 (t := .boolean) hx hret hlk (hb hby at_139) (by decide) (by decide) (by simp) ⟨congrArg (fun z => some (Value.int z)) hv_t_t.symm, N6, hh6⟩
    · have hv_t_f := hv_t.trans (if_neg hc116)
      refine own_step (fun _ => XS.ifNo X6.here hx rfl (hb hby at_116) rfl ((if0 _ _).trans (flt (fun q => hc116 ((lw_lt _ _).mp q))).1)) ?_
      show own_Ends p e below s _ _ _ T6 (mkF m 119 #[.val (.int i0), .val (.long j1), .second, .val (.int i2), .val (.int il4_28), .val (.long jl5_57), .second, .val (.long (f2_0 il4_28 jl5_57)), .second, .val (.long ((8 : Int64) * (il4_28.toInt64))), .second, .val (.long (((((8 : Int64) * (il4_28.toInt64)) - (1 : Int64)) / jl5_57) + (1 : Int64))), .second, .val (.long (((f2_0 il4_28 jl5_57) - (1 : Int64)) * jl5_57)), .second, .val (.long (((8 : Int64) * (il4_28.toInt64)) - (((f2_0 il4_28 jl5_57) - (1 : Int64)) * jl5_57))), .second] [])
      refine own_step (fun _ => XS.lload X6.here hx rfl (hb hby at_119) rfl) ?_
      show own_Ends p e below s _ _ _ T6 (mkF m 121 #[.val (.int i0), .val (.long j1), .second, .val (.int i2), .val (.int il4_28), .val (.long jl5_57), .second, .val (.long (f2_0 il4_28 jl5_57)), .second, .val (.long ((8 : Int64) * (il4_28.toInt64))), .second, .val (.long (((((8 : Int64) * (il4_28.toInt64)) - (1 : Int64)) / jl5_57) + (1 : Int64))), .second, .val (.long (((f2_0 il4_28 jl5_57) - (1 : Int64)) * jl5_57)), .second, .val (.long (((8 : Int64) * (il4_28.toInt64)) - (((f2_0 il4_28 jl5_57) - (1 : Int64)) * jl5_57))), .second] [(.long (((8 : Int64) * (il4_28.toInt64)) - (((f2_0 il4_28 jl5_57) - (1 : Int64)) * jl5_57)))])
      refine own_step (fun _ => XS.lconst X6.here hx rfl (hb hby at_121)) ?_
      show own_Ends p e below s _ _ _ T6 (mkF m 122 #[.val (.int i0), .val (.long j1), .second, .val (.int i2), .val (.int il4_28), .val (.long jl5_57), .second, .val (.long (f2_0 il4_28 jl5_57)), .second, .val (.long ((8 : Int64) * (il4_28.toInt64))), .second, .val (.long (((((8 : Int64) * (il4_28.toInt64)) - (1 : Int64)) / jl5_57) + (1 : Int64))), .second, .val (.long (((f2_0 il4_28 jl5_57) - (1 : Int64)) * jl5_57)), .second, .val (.long (((8 : Int64) * (il4_28.toInt64)) - (((f2_0 il4_28 jl5_57) - (1 : Int64)) * jl5_57))), .second] [(.long (0 : Int64)), (.long (((8 : Int64) * (il4_28.toInt64)) - (((f2_0 il4_28 jl5_57) - (1 : Int64)) * jl5_57)))])
      refine own_step (fun _ => XS.lcmp X6.here hx rfl (hb hby at_122) rfl) ?_
      show own_Ends p e below s _ _ _ T6 (mkF m 123 #[.val (.int i0), .val (.long j1), .second, .val (.int i2), .val (.int il4_28), .val (.long jl5_57), .second, .val (.long (f2_0 il4_28 jl5_57)), .second, .val (.long ((8 : Int64) * (il4_28.toInt64))), .second, .val (.long (((((8 : Int64) * (il4_28.toInt64)) - (1 : Int64)) / jl5_57) + (1 : Int64))), .second, .val (.long (((f2_0 il4_28 jl5_57) - (1 : Int64)) * jl5_57)), .second, .val (.long (((8 : Int64) * (il4_28.toInt64)) - (((f2_0 il4_28 jl5_57) - (1 : Int64)) * jl5_57))), .second] [(.int (lcmpW (((8 : Int64) * (il4_28.toInt64)) - (((f2_0 il4_28 jl5_57) - (1 : Int64)) * jl5_57)) (0 : Int64)))])
      by_cases hc123 : (0 : Int64) < (((8 : Int64) * (il4_28.toInt64)) - (((f2_0 il4_28 jl5_57) - (1 : Int64)) * jl5_57))
      · have hv_t_f_t := hv_t_f.trans (if_pos hc123)
        refine own_step (fun _ => XS.ifNo X6.here hx rfl (hb hby at_123) rfl ((if0 _ _).trans (tlt ((lw_gt _ _).mpr hc123)).2.2.2)) ?_
        show own_Ends p e below s _ _ _ T6 (mkF m 126 #[.val (.int i0), .val (.long j1), .second, .val (.int i2), .val (.int il4_28), .val (.long jl5_57), .second, .val (.long (f2_0 il4_28 jl5_57)), .second, .val (.long ((8 : Int64) * (il4_28.toInt64))), .second, .val (.long (((((8 : Int64) * (il4_28.toInt64)) - (1 : Int64)) / jl5_57) + (1 : Int64))), .second, .val (.long (((f2_0 il4_28 jl5_57) - (1 : Int64)) * jl5_57)), .second, .val (.long (((8 : Int64) * (il4_28.toInt64)) - (((f2_0 il4_28 jl5_57) - (1 : Int64)) * jl5_57))), .second] [])
        refine own_step (fun _ => XS.lload X6.here hx rfl (hb hby at_126) rfl) ?_
        show own_Ends p e below s _ _ _ T6 (mkF m 128 #[.val (.int i0), .val (.long j1), .second, .val (.int i2), .val (.int il4_28), .val (.long jl5_57), .second, .val (.long (f2_0 il4_28 jl5_57)), .second, .val (.long ((8 : Int64) * (il4_28.toInt64))), .second, .val (.long (((((8 : Int64) * (il4_28.toInt64)) - (1 : Int64)) / jl5_57) + (1 : Int64))), .second, .val (.long (((f2_0 il4_28 jl5_57) - (1 : Int64)) * jl5_57)), .second, .val (.long (((8 : Int64) * (il4_28.toInt64)) - (((f2_0 il4_28 jl5_57) - (1 : Int64)) * jl5_57))), .second] [(.long (((8 : Int64) * (il4_28.toInt64)) - (((f2_0 il4_28 jl5_57) - (1 : Int64)) * jl5_57)))])
        refine own_step (fun _ => XS.lload X6.here hx rfl (hb hby at_128) rfl) ?_
        show own_Ends p e below s _ _ _ T6 (mkF m 130 #[.val (.int i0), .val (.long j1), .second, .val (.int i2), .val (.int il4_28), .val (.long jl5_57), .second, .val (.long (f2_0 il4_28 jl5_57)), .second, .val (.long ((8 : Int64) * (il4_28.toInt64))), .second, .val (.long (((((8 : Int64) * (il4_28.toInt64)) - (1 : Int64)) / jl5_57) + (1 : Int64))), .second, .val (.long (((f2_0 il4_28 jl5_57) - (1 : Int64)) * jl5_57)), .second, .val (.long (((8 : Int64) * (il4_28.toInt64)) - (((f2_0 il4_28 jl5_57) - (1 : Int64)) * jl5_57))), .second] [(.long jl5_57), (.long (((8 : Int64) * (il4_28.toInt64)) - (((f2_0 il4_28 jl5_57) - (1 : Int64)) * jl5_57)))])
        refine own_step (fun _ => XS.lcmp X6.here hx rfl (hb hby at_130) rfl) ?_
        show own_Ends p e below s _ _ _ T6 (mkF m 131 #[.val (.int i0), .val (.long j1), .second, .val (.int i2), .val (.int il4_28), .val (.long jl5_57), .second, .val (.long (f2_0 il4_28 jl5_57)), .second, .val (.long ((8 : Int64) * (il4_28.toInt64))), .second, .val (.long (((((8 : Int64) * (il4_28.toInt64)) - (1 : Int64)) / jl5_57) + (1 : Int64))), .second, .val (.long (((f2_0 il4_28 jl5_57) - (1 : Int64)) * jl5_57)), .second, .val (.long (((8 : Int64) * (il4_28.toInt64)) - (((f2_0 il4_28 jl5_57) - (1 : Int64)) * jl5_57))), .second] [(.int (lcmpW (((8 : Int64) * (il4_28.toInt64)) - (((f2_0 il4_28 jl5_57) - (1 : Int64)) * jl5_57)) jl5_57))])
        by_cases hc131 : jl5_57 < (((8 : Int64) * (il4_28.toInt64)) - (((f2_0 il4_28 jl5_57) - (1 : Int64)) * jl5_57))
        · have hv_t_f_t_t := hv_t_f_t.trans (if_pos hc131)
          refine own_step (fun _ => XS.ifYes X6.here hx rfl (pc0 := 131) (pc' := 138) rfl (hb hby at_131) rfl ((if0 _ _).trans (tlt ((lw_gt _ _).mpr hc131)).2.2.1) (by decide) (by decide)) ?_
          show own_Ends p e below s _ _ _ T6 (mkF m 138 #[.val (.int i0), .val (.long j1), .second, .val (.int i2), .val (.int il4_28), .val (.long jl5_57), .second, .val (.long (f2_0 il4_28 jl5_57)), .second, .val (.long ((8 : Int64) * (il4_28.toInt64))), .second, .val (.long (((((8 : Int64) * (il4_28.toInt64)) - (1 : Int64)) / jl5_57) + (1 : Int64))), .second, .val (.long (((f2_0 il4_28 jl5_57) - (1 : Int64)) * jl5_57)), .second, .val (.long (((8 : Int64) * (il4_28.toInt64)) - (((f2_0 il4_28 jl5_57) - (1 : Int64)) * jl5_57))), .second] [])
          refine own_step (fun _ => XS.iconst X6.here hx rfl (hb hby at_138)) ?_
          show own_Ends p e below s _ _ _ T6 (mkF m 139 #[.val (.int i0), .val (.long j1), .second, .val (.int i2), .val (.int il4_28), .val (.long jl5_57), .second, .val (.long (f2_0 il4_28 jl5_57)), .second, .val (.long ((8 : Int64) * (il4_28.toInt64))), .second, .val (.long (((((8 : Int64) * (il4_28.toInt64)) - (1 : Int64)) / jl5_57) + (1 : Int64))), .second, .val (.long (((f2_0 il4_28 jl5_57) - (1 : Int64)) * jl5_57)), .second, .val (.long (((8 : Int64) * (il4_28.toInt64)) - (((f2_0 il4_28 jl5_57) - (1 : Int64)) * jl5_57))), .second] [(.int (0 : Int32))])
          exact own_retN X6 (t := .boolean) hx hret hlk (hb hby at_139) (by decide) (by decide) (by simp) ⟨congrArg (fun z => some (Value.int z)) hv_t_f_t_t.symm, N6, hh6⟩
        · have hv_t_f_t_f := hv_t_f_t.trans (if_neg hc131)
          refine own_step (fun _ => XS.ifNo X6.here hx rfl (hb hby at_131) rfl ((if0 _ _).trans (flt (fun q => hc131 ((lw_gt _ _).mp q))).2.2.1)) ?_
          show own_Ends p e below s _ _ _ T6 (mkF m 134 #[.val (.int i0), .val (.long j1), .second, .val (.int i2), .val (.int il4_28), .val (.long jl5_57), .second, .val (.long (f2_0 il4_28 jl5_57)), .second, .val (.long ((8 : Int64) * (il4_28.toInt64))), .second, .val (.long (((((8 : Int64) * (il4_28.toInt64)) - (1 : Int64)) / jl5_57) + (1 : Int64))), .second, .val (.long (((f2_0 il4_28 jl5_57) - (1 : Int64)) * jl5_57)), .second, .val (.long (((8 : Int64) * (il4_28.toInt64)) - (((f2_0 il4_28 jl5_57) - (1 : Int64)) * jl5_57))), .second] [])
          refine own_step (fun _ => XS.iconst X6.here hx rfl (hb hby at_134)) ?_
          show own_Ends p e below s _ _ _ T6 (mkF m 135 #[.val (.int i0), .val (.long j1), .second, .val (.int i2), .val (.int il4_28), .val (.long jl5_57), .second, .val (.long (f2_0 il4_28 jl5_57)), .second, .val (.long ((8 : Int64) * (il4_28.toInt64))), .second, .val (.long (((((8 : Int64) * (il4_28.toInt64)) - (1 : Int64)) / jl5_57) + (1 : Int64))), .second, .val (.long (((f2_0 il4_28 jl5_57) - (1 : Int64)) * jl5_57)), .second, .val (.long (((8 : Int64) * (il4_28.toInt64)) - (((f2_0 il4_28 jl5_57) - (1 : Int64)) * jl5_57))), .second] [(.int (1 : Int32))])
          refine own_step (fun _ => XS.goto X6.here hx rfl (pc0 := 135) (pc' := 139) rfl (hb hby at_135) (by decide) (by decide)) ?_
          show own_Ends p e below s _ _ _ T6 (mkF m 139 #[.val (.int i0), .val (.long j1), .second, .val (.int i2), .val (.int il4_28), .val (.long jl5_57), .second, .val (.long (f2_0 il4_28 jl5_57)), .second, .val (.long ((8 : Int64) * (il4_28.toInt64))), .second, .val (.long (((((8 : Int64) * (il4_28.toInt64)) - (1 : Int64)) / jl5_57) + (1 : Int64))), .second, .val (.long (((f2_0 il4_28 jl5_57) - (1 : Int64)) * jl5_57)), .second, .val (.long (((8 : Int64) * (il4_28.toInt64)) - (((f2_0 il4_28 jl5_57) - (1 : Int64)) * jl5_57))), .second] [(.int (1 : Int32))])
          exact own_retN X6 (t := .boolean) hx hret hlk (hb hby at_139) (by decide) (by decide) (by simp) ⟨congrArg (fun z => some (Value.int z)) hv_t_f_t_f.symm, N6, hh6⟩
      · have hv_t_f_f := hv_t_f.trans (if_neg hc123)
        refine own_step (fun _ => XS.ifYes X6.here hx rfl (pc0 := 123) (pc' := 138) rfl (hb hby at_123) rfl ((if0 _ _).trans (flt (fun q => hc123 ((lw_gt _ _).mp q))).2.2.2) (by decide) (by decide)) ?_
        show own_Ends p e below s _ _ _ T6 (mkF m 138 #[.val (.int i0), .val (.long j1), .second, .val (.int i2), .val (.int il4_28), .val (.long jl5_57), .second, .val (.long (f2_0 il4_28 jl5_57)), .second, .val (.long ((8 : Int64) * (il4_28.toInt64))), .second, .val (.long (((((8 : Int64) * (il4_28.toInt64)) - (1 : Int64)) / jl5_57) + (1 : Int64))), .second, .val (.long (((f2_0 il4_28 jl5_57) - (1 : Int64)) * jl5_57)), .second, .val (.long (((8 : Int64) * (il4_28.toInt64)) - (((f2_0 il4_28 jl5_57) - (1 : Int64)) * jl5_57))), .second] [])
        refine own_step (fun _ => XS.iconst X6.here hx rfl (hb hby at_138)) ?_
        show own_Ends p e below s _ _ _ T6 (mkF m 139 #[.val (.int i0), .val (.long j1), .second, .val (.int i2), .val (.int il4_28), .val (.long jl5_57), .second, .val (.long (f2_0 il4_28 jl5_57)), .second, .val (.long ((8 : Int64) * (il4_28.toInt64))), .second, .val (.long (((((8 : Int64) * (il4_28.toInt64)) - (1 : Int64)) / jl5_57) + (1 : Int64))), .second, .val (.long (((f2_0 il4_28 jl5_57) - (1 : Int64)) * jl5_57)), .second, .val (.long (((8 : Int64) * (il4_28.toInt64)) - (((f2_0 il4_28 jl5_57) - (1 : Int64)) * jl5_57))), .second] [(.int (0 : Int32))])
        exact own_retN X6 (t := .boolean) hx hret hlk (hb hby at_139) (by decide) (by decide) (by simp) ⟨congrArg (fun z => some (Value.int z)) hv_t_f_f.symm, N6, hh6⟩
  · have hv_f := hv.trans (if_neg hc91)
    refine own_step (fun _ => XS.ifNo X6.here hx rfl (hb hby at_91) rfl ((if0 _ _).trans (feq (fun q => hc91 ((lw_eq _ _).mp q))).1)) ?_
    show own_Ends p e below s _ _ _ T6 (mkF m 94 #[.val (.int i0), .val (.long j1), .second, .val (.int i2), .val (.int il4_28), .val (.long jl5_57), .second, .val (.long (f2_0 il4_28 jl5_57)), .second, .val (.long ((8 : Int64) * (il4_28.toInt64))), .second, .val (.long (((((8 : Int64) * (il4_28.toInt64)) - (1 : Int64)) / jl5_57) + (1 : Int64))), .second, .unset, .unset, .unset, .unset] [])
    refine own_step (fun _ => XS.iconst X6.here hx rfl (hb hby at_94)) ?_
    show own_Ends p e below s _ _ _ T6 (mkF m 95 #[.val (.int i0), .val (.long j1), .second, .val (.int i2), .val (.int il4_28), .val (.long jl5_57), .second, .val (.long (f2_0 il4_28 jl5_57)), .second, .val (.long ((8 : Int64) * (il4_28.toInt64))), .second, .val (.long (((((8 : Int64) * (il4_28.toInt64)) - (1 : Int64)) / jl5_57) + (1 : Int64))), .second, .unset, .unset, .unset, .unset] [(.int (0 : Int32))])
    exact own_retN X6 (t := .boolean) hx hret hlk (hb hby at_95) (by decide) (by decide) (by simp) ⟨congrArg (fun z => some (Value.int z)) hv_f.symm, N6, hh6⟩
def f0_28 (i0 : Int32) (j1 : Int64) (i2 : Int32) (il4_28 : Int32) : Int32 := (if (i2 &&& (2 : Int32)) = (0 : Int32) then (f0_57 i0 j1 i2 il4_28 (f1_0 (1 : Int64) (j1 &&& (9223372036854775807 : Int64)))) else (f0_57 i0 j1 i2 il4_28 ((j1 &&& (1023 : Int64)) + (1 : Int64))))
set_option maxRecDepth 65536 in
set_option maxHeartbeats 40000000 in
theorem b0_28 {p : Program} {l : Launch} {e : Env} {s : State} {m : MethodId} {args : Array Value} {below : List Frame} {meth : Method} {c : Code} {Z : State} {a0 : Array Value} {h0 : Heap} {n0 : Nat} (C : own_C "com/example/graded_queue/gradedqueue/port/OutputPortTransmissionNsPinLaw" code maxLocals ret x.name p s m meth c Z a0) (Z0 : n0 ≤ h0.size) {T0 : State} {locs : List Loc} (X0 : Stand p l e room_1 s m args below meth c T0 locs 0 0) (e0 : T0.heap = h0) (N0 : Fr n0 locs) (i0 : Int32) (j1 : Int64) (i2 : Int32) (il4_28 : Int32) (W : Int32) (hv : W = f0_28 i0 j1 i2 il4_28) :
    own_Ends p e below s room_1.cells room_1.slots (own_Q n0 h0 (some (.int W))) T0 (mkF m 28 #[.val (.int i0), .val (.long j1), .second, .val (.int i2), .val (.int il4_28), .unset, .unset, .unset, .unset, .unset, .unset, .unset, .unset, .unset, .unset, .unset, .unset] []) := by
  obtain ⟨hx, hZ, hw, hby, hml, hown, hret, hlk, hnm⟩ := C
  have C : own_C "com/example/graded_queue/gradedqueue/port/OutputPortTransmissionNsPinLaw" code maxLocals ret x.name p s m meth c Z a0 := ⟨hx, hZ, hw, hby, hml, hown, hret, hlk, hnm⟩
  unfold f0_28 at hv
  refine own_step (fun _ => XS.iloadN X0.here hx rfl (hb hby at_28) rfl) ?_
  show own_Ends p e below s _ _ _ T0 (mkF m 29 #[.val (.int i0), .val (.long j1), .second, .val (.int i2), .val (.int il4_28), .unset, .unset, .unset, .unset, .unset, .unset, .unset, .unset, .unset, .unset, .unset, .unset] [(.int i2)])
  refine own_step (fun _ => XS.iconst X0.here hx rfl (hb hby at_29)) ?_
  show own_Ends p e below s _ _ _ T0 (mkF m 30 #[.val (.int i0), .val (.long j1), .second, .val (.int i2), .val (.int il4_28), .unset, .unset, .unset, .unset, .unset, .unset, .unset, .unset, .unset, .unset, .unset, .unset] [(.int (2 : Int32)), (.int i2)])
  refine own_step (fun _ => XS.iand X0.here hx rfl (hb hby at_30) rfl) ?_
  show own_Ends p e below s _ _ _ T0 (mkF m 31 #[.val (.int i0), .val (.long j1), .second, .val (.int i2), .val (.int il4_28), .unset, .unset, .unset, .unset, .unset, .unset, .unset, .unset, .unset, .unset, .unset, .unset] [(.int (i2 &&& (2 : Int32)))])
  by_cases hc31 : (i2 &&& (2 : Int32)) = (0 : Int32)
  · have hv_t := hv.trans (if_pos hc31)
    refine own_step (fun _ => XS.ifYes X0.here hx rfl (pc0 := 31) (pc' := 46) rfl (hb hby at_31) rfl ((if0 _ _).trans (teq hc31).1) (by decide) (by decide)) ?_
    show own_Ends p e below s _ _ _ T0 (mkF m 46 #[.val (.int i0), .val (.long j1), .second, .val (.int i2), .val (.int il4_28), .unset, .unset, .unset, .unset, .unset, .unset, .unset, .unset, .unset, .unset, .unset, .unset] [])
    refine own_step (fun _ => XS.lconst X0.here hx rfl (hb hby at_46)) ?_
    show own_Ends p e below s _ _ _ T0 (mkF m 47 #[.val (.int i0), .val (.long j1), .second, .val (.int i2), .val (.int il4_28), .unset, .unset, .unset, .unset, .unset, .unset, .unset, .unset, .unset, .unset, .unset, .unset] [(.long (1 : Int64))])
    refine own_step (fun _ => XS.lloadN X0.here hx rfl (hb hby at_47) rfl) ?_
    show own_Ends p e below s _ _ _ T0 (mkF m 48 #[.val (.int i0), .val (.long j1), .second, .val (.int i2), .val (.int il4_28), .unset, .unset, .unset, .unset, .unset, .unset, .unset, .unset, .unset, .unset, .unset, .unset] [(.long j1), (.long (1 : Int64))])
    refine own_step (fun _ => X0.ldc2Long hx hown (mvT hZ (hw _ (List.mem_of_getElem? (i := 0) rfl))) (g := (mkF m 48 #[.val (.int i0), .val (.long j1), .second, .val (.int i2), .val (.int il4_28), .unset, .unset, .unset, .unset, .unset, .unset, .unset, .unset, .unset, .unset, .unset, .unset] [(.long j1), (.long (1 : Int64))])) rfl (hb hby at_48) _) ?_
    show own_Ends p e below s _ _ _ T0 (mkF m 51 #[.val (.int i0), .val (.long j1), .second, .val (.int i2), .val (.int il4_28), .unset, .unset, .unset, .unset, .unset, .unset, .unset, .unset, .unset, .unset, .unset, .unset] [(.long (9223372036854775807 : Int64)), (.long j1), (.long (1 : Int64))])
    refine own_step (fun _ => XS.land X0.here hx rfl (hb hby at_51) rfl) ?_
    show own_Ends p e below s _ _ _ T0 (mkF m 52 #[.val (.int i0), .val (.long j1), .second, .val (.int i2), .val (.int il4_28), .unset, .unset, .unset, .unset, .unset, .unset, .unset, .unset, .unset, .unset, .unset, .unset] [(.long (j1 &&& (9223372036854775807 : Int64))), (.long (1 : Int64))])
    obtain ⟨_, _, ⟨T7, L7, k7, n7⟩, -, X7, ⟨Lc7, hQ7, l7, y7, z7⟩, st7⟩ := Jvm.LawKit.callS X0 hx (y := (⟨"java/lang/Math", "max", "(JJ)J"⟩ : MethodName)) hown (mvT hZ (hw _ (List.mem_of_getElem? (i := 1) rfl))) (mvT hZ (hw _ (List.mem_of_getElem? (i := 2) rfl))) (mvT hZ (hw _ (List.mem_of_getElem? (i := 3) rfl))) (mvT hZ (hw _ (List.mem_of_getElem? (i := 4) rfl))) (by decide) (backOf (W := 0) (rm1 l Z a0 hw [] (1 : Int64) (j1 &&& (9223372036854775807 : Int64)) h0 n0 Z0) hZ (hw _ (List.mem_of_getElem? (i := 4) rfl)) (hw _ (List.mem_of_getElem? (i := 3) rfl)) (by decide) (by decide)) (g := (mkF m 52 #[.val (.int i0), .val (.long j1), .second, .val (.int i2), .val (.int il4_28), .unset, .unset, .unset, .unset, .unset, .unset, .unset, .unset, .unset, .unset, .unset, .unset] [(.long (j1 &&& (9223372036854775807 : Int64))), (.long (1 : Int64))])) rfl (by rw [hml]; rfl) (argsL := [(.long (1 : Int64)), (.long (j1 &&& (9223372036854775807 : Int64)))]) (rest := []) (lenOf pd_1 rfl) rfl (by show 2 * 0 + _ ≤ _; exact Nat.le_of_eq rfl) (hb hby at_52) (fun _ _ => ⟨rfl, e0, (by decide : 0 + 0 ≤ _), (by decide : 0 + 0 ≤ _)⟩)
    dsimp only [Pt.U, Pt.locs, Pt.cells, Pt.slots] at X7 l7 y7 z7 st7 hQ7
    subst l7 y7 z7
    obtain ⟨rfl, N7q, hh7⟩ := hQ7
    have N7 := Fr.app N0 N7q
    refine own_step st7 ?_
    show own_Ends p e below s _ _ _ T7 (mkF m 55 #[.val (.int i0), .val (.long j1), .second, .val (.int i2), .val (.int il4_28), .unset, .unset, .unset, .unset, .unset, .unset, .unset, .unset, .unset, .unset, .unset, .unset] [(.long (f1_0 (1 : Int64) (j1 &&& (9223372036854775807 : Int64))))])
    refine own_step (fun _ => XS.lstore X7.here hx rfl (hb hby at_55) rfl (l' := #[.val (.int i0), .val (.long j1), .second, .val (.int i2), .val (.int il4_28), .val (.long (f1_0 (1 : Int64) (j1 &&& (9223372036854775807 : Int64)))), .second, .unset, .unset, .unset, .unset, .unset, .unset, .unset, .unset, .unset, .unset]) rfl) ?_
    show own_Ends p e below s _ _ _ T7 (mkF m 57 #[.val (.int i0), .val (.long j1), .second, .val (.int i2), .val (.int il4_28), .val (.long (f1_0 (1 : Int64) (j1 &&& (9223372036854775807 : Int64)))), .second, .unset, .unset, .unset, .unset, .unset, .unset, .unset, .unset, .unset, .unset] [])
    exact b0_57 C Z0 X7 hh7 N7 i0 j1 i2 il4_28 (f1_0 (1 : Int64) (j1 &&& (9223372036854775807 : Int64))) (by first | exact own_nz1 _ | exact own_nz2 _) _ hv_t
  · have hv_f := hv.trans (if_neg hc31)
    refine own_step (fun _ => XS.ifNo X0.here hx rfl (hb hby at_31) rfl ((if0 _ _).trans (feq hc31).1)) ?_
    show own_Ends p e below s _ _ _ T0 (mkF m 34 #[.val (.int i0), .val (.long j1), .second, .val (.int i2), .val (.int il4_28), .unset, .unset, .unset, .unset, .unset, .unset, .unset, .unset, .unset, .unset, .unset, .unset] [])
    refine own_step (fun _ => XS.lloadN X0.here hx rfl (hb hby at_34) rfl) ?_
    show own_Ends p e below s _ _ _ T0 (mkF m 35 #[.val (.int i0), .val (.long j1), .second, .val (.int i2), .val (.int il4_28), .unset, .unset, .unset, .unset, .unset, .unset, .unset, .unset, .unset, .unset, .unset, .unset] [(.long j1)])
    refine own_step (fun _ => X0.ldc2Long hx hown (mvT hZ (hw _ (List.mem_of_getElem? (i := 15) rfl))) (g := (mkF m 35 #[.val (.int i0), .val (.long j1), .second, .val (.int i2), .val (.int il4_28), .unset, .unset, .unset, .unset, .unset, .unset, .unset, .unset, .unset, .unset, .unset, .unset] [(.long j1)])) rfl (hb hby at_35) _) ?_
    show own_Ends p e below s _ _ _ T0 (mkF m 38 #[.val (.int i0), .val (.long j1), .second, .val (.int i2), .val (.int il4_28), .unset, .unset, .unset, .unset, .unset, .unset, .unset, .unset, .unset, .unset, .unset, .unset] [(.long (1023 : Int64)), (.long j1)])
    refine own_step (fun _ => XS.land X0.here hx rfl (hb hby at_38) rfl) ?_
    show own_Ends p e below s _ _ _ T0 (mkF m 39 #[.val (.int i0), .val (.long j1), .second, .val (.int i2), .val (.int il4_28), .unset, .unset, .unset, .unset, .unset, .unset, .unset, .unset, .unset, .unset, .unset, .unset] [(.long (j1 &&& (1023 : Int64)))])
    refine own_step (fun _ => XS.lconst X0.here hx rfl (hb hby at_39)) ?_
    show own_Ends p e below s _ _ _ T0 (mkF m 40 #[.val (.int i0), .val (.long j1), .second, .val (.int i2), .val (.int il4_28), .unset, .unset, .unset, .unset, .unset, .unset, .unset, .unset, .unset, .unset, .unset, .unset] [(.long (1 : Int64)), (.long (j1 &&& (1023 : Int64)))])
    refine own_step (fun _ => XS.ladd X0.here hx rfl (hb hby at_40) rfl) ?_
    show own_Ends p e below s _ _ _ T0 (mkF m 41 #[.val (.int i0), .val (.long j1), .second, .val (.int i2), .val (.int il4_28), .unset, .unset, .unset, .unset, .unset, .unset, .unset, .unset, .unset, .unset, .unset, .unset] [(.long ((j1 &&& (1023 : Int64)) + (1 : Int64)))])
    refine own_step (fun _ => XS.lstore X0.here hx rfl (hb hby at_41) rfl (l' := #[.val (.int i0), .val (.long j1), .second, .val (.int i2), .val (.int il4_28), .val (.long ((j1 &&& (1023 : Int64)) + (1 : Int64))), .second, .unset, .unset, .unset, .unset, .unset, .unset, .unset, .unset, .unset, .unset]) rfl) ?_
    show own_Ends p e below s _ _ _ T0 (mkF m 43 #[.val (.int i0), .val (.long j1), .second, .val (.int i2), .val (.int il4_28), .val (.long ((j1 &&& (1023 : Int64)) + (1 : Int64))), .second, .unset, .unset, .unset, .unset, .unset, .unset, .unset, .unset, .unset, .unset] [])
    refine own_step (fun _ => XS.goto X0.here hx rfl (pc0 := 43) (pc' := 57) rfl (hb hby at_43) (by decide) (by decide)) ?_
    show own_Ends p e below s _ _ _ T0 (mkF m 57 #[.val (.int i0), .val (.long j1), .second, .val (.int i2), .val (.int il4_28), .val (.long ((j1 &&& (1023 : Int64)) + (1 : Int64))), .second, .unset, .unset, .unset, .unset, .unset, .unset, .unset, .unset, .unset, .unset] [])
    exact b0_57 C Z0 X0 e0 N0 i0 j1 i2 il4_28 ((j1 &&& (1023 : Int64)) + (1 : Int64)) (by first | exact own_nz1 _ | exact own_nz2 _) _ hv_f
def f0_0 (i0 : Int32) (j1 : Int64) (i2 : Int32) : Int32 := (if (i2 &&& (1 : Int32)) = (0 : Int32) then (f0_28 i0 j1 i2 (f3_0 (1 : Int32) (i0 &&& (2147483647 : Int32)))) else (f0_28 i0 j1 i2 ((i0 &&& (4095 : Int32)) + (1 : Int32))))
set_option maxRecDepth 65536 in
set_option maxHeartbeats 40000000 in
theorem b0_0 {p : Program} {l : Launch} {e : Env} {s : State} {m : MethodId} {args : Array Value} {below : List Frame} {meth : Method} {c : Code} {Z : State} {a0 : Array Value} {h0 : Heap} {n0 : Nat} (C : own_C "com/example/graded_queue/gradedqueue/port/OutputPortTransmissionNsPinLaw" code maxLocals ret x.name p s m meth c Z a0) (Z0 : n0 ≤ h0.size) {T0 : State} {locs : List Loc} (X0 : Stand p l e room_1 s m args below meth c T0 locs 0 0) (e0 : T0.heap = h0) (N0 : Fr n0 locs) (i0 : Int32) (j1 : Int64) (i2 : Int32) (W : Int32) (hv : W = f0_0 i0 j1 i2) :
    own_Ends p e below s room_1.cells room_1.slots (own_Q n0 h0 (some (.int W))) T0 (mkF m 0 #[.val (.int i0), .val (.long j1), .second, .val (.int i2), .unset, .unset, .unset, .unset, .unset, .unset, .unset, .unset, .unset, .unset, .unset, .unset, .unset] []) := by
  obtain ⟨hx, hZ, hw, hby, hml, hown, hret, hlk, hnm⟩ := C
  have C : own_C "com/example/graded_queue/gradedqueue/port/OutputPortTransmissionNsPinLaw" code maxLocals ret x.name p s m meth c Z a0 := ⟨hx, hZ, hw, hby, hml, hown, hret, hlk, hnm⟩
  unfold f0_0 at hv
  refine own_step (fun _ => XS.iloadN X0.here hx rfl (hb hby at_0) rfl) ?_
  show own_Ends p e below s _ _ _ T0 (mkF m 1 #[.val (.int i0), .val (.long j1), .second, .val (.int i2), .unset, .unset, .unset, .unset, .unset, .unset, .unset, .unset, .unset, .unset, .unset, .unset, .unset] [(.int i2)])
  refine own_step (fun _ => XS.iconst X0.here hx rfl (hb hby at_1)) ?_
  show own_Ends p e below s _ _ _ T0 (mkF m 2 #[.val (.int i0), .val (.long j1), .second, .val (.int i2), .unset, .unset, .unset, .unset, .unset, .unset, .unset, .unset, .unset, .unset, .unset, .unset, .unset] [(.int (1 : Int32)), (.int i2)])
  refine own_step (fun _ => XS.iand X0.here hx rfl (hb hby at_2) rfl) ?_
  show own_Ends p e below s _ _ _ T0 (mkF m 3 #[.val (.int i0), .val (.long j1), .second, .val (.int i2), .unset, .unset, .unset, .unset, .unset, .unset, .unset, .unset, .unset, .unset, .unset, .unset, .unset] [(.int (i2 &&& (1 : Int32)))])
  by_cases hc3 : (i2 &&& (1 : Int32)) = (0 : Int32)
  · have hv_t := hv.trans (if_pos hc3)
    refine own_step (fun _ => XS.ifYes X0.here hx rfl (pc0 := 3) (pc' := 18) rfl (hb hby at_3) rfl ((if0 _ _).trans (teq hc3).1) (by decide) (by decide)) ?_
    show own_Ends p e below s _ _ _ T0 (mkF m 18 #[.val (.int i0), .val (.long j1), .second, .val (.int i2), .unset, .unset, .unset, .unset, .unset, .unset, .unset, .unset, .unset, .unset, .unset, .unset, .unset] [])
    refine own_step (fun _ => XS.iconst X0.here hx rfl (hb hby at_18)) ?_
    show own_Ends p e below s _ _ _ T0 (mkF m 19 #[.val (.int i0), .val (.long j1), .second, .val (.int i2), .unset, .unset, .unset, .unset, .unset, .unset, .unset, .unset, .unset, .unset, .unset, .unset, .unset] [(.int (1 : Int32))])
    refine own_step (fun _ => XS.iloadN X0.here hx rfl (hb hby at_19) rfl) ?_
    show own_Ends p e below s _ _ _ T0 (mkF m 20 #[.val (.int i0), .val (.long j1), .second, .val (.int i2), .unset, .unset, .unset, .unset, .unset, .unset, .unset, .unset, .unset, .unset, .unset, .unset, .unset] [(.int i0), (.int (1 : Int32))])
    refine own_step (fun _ => X0.ldcInt hx hown (mvT hZ (hw _ (List.mem_of_getElem? (i := 11) rfl))) (g := (mkF m 20 #[.val (.int i0), .val (.long j1), .second, .val (.int i2), .unset, .unset, .unset, .unset, .unset, .unset, .unset, .unset, .unset, .unset, .unset, .unset, .unset] [(.int i0), (.int (1 : Int32))])) rfl (hb hby at_20) _) ?_
    show own_Ends p e below s _ _ _ T0 (mkF m 22 #[.val (.int i0), .val (.long j1), .second, .val (.int i2), .unset, .unset, .unset, .unset, .unset, .unset, .unset, .unset, .unset, .unset, .unset, .unset, .unset] [(.int (2147483647 : Int32)), (.int i0), (.int (1 : Int32))])
    refine own_step (fun _ => XS.iand X0.here hx rfl (hb hby at_22) rfl) ?_
    show own_Ends p e below s _ _ _ T0 (mkF m 23 #[.val (.int i0), .val (.long j1), .second, .val (.int i2), .unset, .unset, .unset, .unset, .unset, .unset, .unset, .unset, .unset, .unset, .unset, .unset, .unset] [(.int (i0 &&& (2147483647 : Int32))), (.int (1 : Int32))])
    obtain ⟨_, _, ⟨T8, L8, k8, n8⟩, -, X8, ⟨Lc8, hQ8, l8, y8, z8⟩, st8⟩ := Jvm.LawKit.callS X0 hx (y := (⟨"java/lang/Math", "max", "(II)I"⟩ : MethodName)) hown (mvT hZ (hw _ (List.mem_of_getElem? (i := 12) rfl))) (mvT hZ (hw _ (List.mem_of_getElem? (i := 13) rfl))) (mvT hZ (hw _ (List.mem_of_getElem? (i := 3) rfl))) (mvT hZ (hw _ (List.mem_of_getElem? (i := 14) rfl))) (by decide) (backOf (W := 0) (rm3 l Z a0 hw [] (1 : Int32) (i0 &&& (2147483647 : Int32)) h0 n0 Z0) hZ (hw _ (List.mem_of_getElem? (i := 14) rfl)) (hw _ (List.mem_of_getElem? (i := 3) rfl)) (by decide) (by decide)) (g := (mkF m 23 #[.val (.int i0), .val (.long j1), .second, .val (.int i2), .unset, .unset, .unset, .unset, .unset, .unset, .unset, .unset, .unset, .unset, .unset, .unset, .unset] [(.int (i0 &&& (2147483647 : Int32))), (.int (1 : Int32))])) rfl (by rw [hml]; rfl) (argsL := [(.int (1 : Int32)), (.int (i0 &&& (2147483647 : Int32)))]) (rest := []) (lenOf pd_0 rfl) rfl (by show 2 * 0 + _ ≤ _; exact Nat.le_of_eq rfl) (hb hby at_23) (fun _ _ => ⟨rfl, e0, (by decide : 0 + 0 ≤ _), (by decide : 0 + 0 ≤ _)⟩)
    dsimp only [Pt.U, Pt.locs, Pt.cells, Pt.slots] at X8 l8 y8 z8 st8 hQ8
    subst l8 y8 z8
    obtain ⟨rfl, N8q, hh8⟩ := hQ8
    have N8 := Fr.app N0 N8q
    refine own_step st8 ?_
    show own_Ends p e below s _ _ _ T8 (mkF m 26 #[.val (.int i0), .val (.long j1), .second, .val (.int i2), .unset, .unset, .unset, .unset, .unset, .unset, .unset, .unset, .unset, .unset, .unset, .unset, .unset] [(.int (f3_0 (1 : Int32) (i0 &&& (2147483647 : Int32))))])
    refine own_step (fun _ => XS.istore X8.here hx rfl (hb hby at_26) rfl (l' := #[.val (.int i0), .val (.long j1), .second, .val (.int i2), .val (.int (f3_0 (1 : Int32) (i0 &&& (2147483647 : Int32)))), .unset, .unset, .unset, .unset, .unset, .unset, .unset, .unset, .unset, .unset, .unset, .unset]) rfl) ?_
    show own_Ends p e below s _ _ _ T8 (mkF m 28 #[.val (.int i0), .val (.long j1), .second, .val (.int i2), .val (.int (f3_0 (1 : Int32) (i0 &&& (2147483647 : Int32)))), .unset, .unset, .unset, .unset, .unset, .unset, .unset, .unset, .unset, .unset, .unset, .unset] [])
    exact b0_28 C Z0 X8 hh8 N8 i0 j1 i2 (f3_0 (1 : Int32) (i0 &&& (2147483647 : Int32))) _ hv_t
  · have hv_f := hv.trans (if_neg hc3)
    refine own_step (fun _ => XS.ifNo X0.here hx rfl (hb hby at_3) rfl ((if0 _ _).trans (feq hc3).1)) ?_
    show own_Ends p e below s _ _ _ T0 (mkF m 6 #[.val (.int i0), .val (.long j1), .second, .val (.int i2), .unset, .unset, .unset, .unset, .unset, .unset, .unset, .unset, .unset, .unset, .unset, .unset, .unset] [])
    refine own_step (fun _ => XS.iloadN X0.here hx rfl (hb hby at_6) rfl) ?_
    show own_Ends p e below s _ _ _ T0 (mkF m 7 #[.val (.int i0), .val (.long j1), .second, .val (.int i2), .unset, .unset, .unset, .unset, .unset, .unset, .unset, .unset, .unset, .unset, .unset, .unset, .unset] [(.int i0)])
    refine own_step (fun _ => XS.sipush X0.here hx rfl (hb hby at_7)) ?_
    show own_Ends p e below s _ _ _ T0 (mkF m 10 #[.val (.int i0), .val (.long j1), .second, .val (.int i2), .unset, .unset, .unset, .unset, .unset, .unset, .unset, .unset, .unset, .unset, .unset, .unset, .unset] [(.int (4095 : Int32)), (.int i0)])
    refine own_step (fun _ => XS.iand X0.here hx rfl (hb hby at_10) rfl) ?_
    show own_Ends p e below s _ _ _ T0 (mkF m 11 #[.val (.int i0), .val (.long j1), .second, .val (.int i2), .unset, .unset, .unset, .unset, .unset, .unset, .unset, .unset, .unset, .unset, .unset, .unset, .unset] [(.int (i0 &&& (4095 : Int32)))])
    refine own_step (fun _ => XS.iconst X0.here hx rfl (hb hby at_11)) ?_
    show own_Ends p e below s _ _ _ T0 (mkF m 12 #[.val (.int i0), .val (.long j1), .second, .val (.int i2), .unset, .unset, .unset, .unset, .unset, .unset, .unset, .unset, .unset, .unset, .unset, .unset, .unset] [(.int (1 : Int32)), (.int (i0 &&& (4095 : Int32)))])
    refine own_step (fun _ => XS.iadd X0.here hx rfl (hb hby at_12) rfl) ?_
    show own_Ends p e below s _ _ _ T0 (mkF m 13 #[.val (.int i0), .val (.long j1), .second, .val (.int i2), .unset, .unset, .unset, .unset, .unset, .unset, .unset, .unset, .unset, .unset, .unset, .unset, .unset] [(.int ((i0 &&& (4095 : Int32)) + (1 : Int32)))])
    refine own_step (fun _ => XS.istore X0.here hx rfl (hb hby at_13) rfl (l' := #[.val (.int i0), .val (.long j1), .second, .val (.int i2), .val (.int ((i0 &&& (4095 : Int32)) + (1 : Int32))), .unset, .unset, .unset, .unset, .unset, .unset, .unset, .unset, .unset, .unset, .unset, .unset]) rfl) ?_
    show own_Ends p e below s _ _ _ T0 (mkF m 15 #[.val (.int i0), .val (.long j1), .second, .val (.int i2), .val (.int ((i0 &&& (4095 : Int32)) + (1 : Int32))), .unset, .unset, .unset, .unset, .unset, .unset, .unset, .unset, .unset, .unset, .unset, .unset] [])
    refine own_step (fun _ => XS.goto X0.here hx rfl (pc0 := 15) (pc' := 28) rfl (hb hby at_15) (by decide) (by decide)) ?_
    show own_Ends p e below s _ _ _ T0 (mkF m 28 #[.val (.int i0), .val (.long j1), .second, .val (.int i2), .val (.int ((i0 &&& (4095 : Int32)) + (1 : Int32))), .unset, .unset, .unset, .unset, .unset, .unset, .unset, .unset, .unset, .unset, .unset, .unset] [])
    exact b0_28 C Z0 X0 e0 N0 i0 j1 i2 ((i0 &&& (4095 : Int32)) + (1 : Int32)) _ hv_f
theorem ef_rm0 (m : MethodId) (i0 : Int32) (j1 : Int64) (i2 : Int32) : entryFrame m #[(.int i0), (.long j1), (.int i2)] maxLocals = mkF m 0 #[.val (.int i0), .val (.long j1), .second, .val (.int i2), .unset, .unset, .unset, .unset, .unset, .unset, .unset, .unset, .unset, .unset, .unset, .unset, .unset] [] := by first | (simp [entryFrame, mkF, argsToLocals, Value.category, maxLocals]; done) | rfl
set_option maxRecDepth 65536 in
set_option maxHeartbeats 40000000 in
theorem rm0 (l : Launch) (Z : State) (a0 : Array Value) (hw : ∀ d ∈ tables_1, d.before a0 Z = true) (ws : List Jvm.Cond) (i0 : Int32) (j1 : Int64) (i2 : Int32) (h0 : Heap) (n0 : Nat) (Z0 : n0 ≤ h0.size) :
    MetFree l x (head1 (Jvm.Cond.code x code maxLocals ret :: ws) room_1) (fun a U => a = #[(.int i0), (.long j1), (.int i2)] ∧ Z.Warmed39 U.vm ∧ U.heap = h0) (fun _ _ _ _ _ => True) (fun _ U o U' => ∃ v L, o = .returned v ∧ (own_Q n0 h0 (some (.int (f0_0 i0 j1 i2)))) v U'.heap L ∧ FrameEnd U o U' L room_1.cells room_1.slots) := by
  refine MetFree.of_bodySF (plainFor_of_name pn_1) hisR ?_
  intro p e s m args below meth c s₁ Bd hml0 hP hK
  obtain ⟨rfl, hZ, hh⟩ := hP
  have X0 : Stand p l e room_1 s m #[(.int i0), (.long j1), (.int i2)] below meth c s₁ [] 0 0 := Stand.of_body Bd
  have e0 : s₁.heap = h0 := by rw [← hh, Bd.state]; rfl
  have C : own_C "com/example/graded_queue/gradedqueue/port/OutputPortTransmissionNsPinLaw" code maxLocals ret x.name p s m meth c Z a0 := ⟨Bd.exec, hZ, hw, Bd.bytes, hml0, findClass_of_methodNamed Bd.named, Bd.returns, Bd.notSynchronized, (name_of_methodNamed Bd.named Bd.method).1⟩
  have r := b0_0 C Z0 X0 e0 (Fr.nil n0) i0 j1 i2 _ rfl
  rw [ef_rm0 m i0 j1 i2]
  exact r
theorem own_maskI (x m : Int32) (k : Nat) (hk : k ≤ 31) (hm : m.toBitVec.toNat = 2 ^ k - 1) : 0 ≤ (x &&& m).toInt ∧ (x &&& m).toInt < 2 ^ k := by
  have h1 : (x &&& m).toBitVec.toNat = x.toBitVec.toNat % 2 ^ k := by
    show (x.toBitVec &&& m.toBitVec).toNat = _
    rw [BitVec.toNat_and, hm, Nat.and_two_pow_sub_one_eq_mod]
  have h3 : x.toBitVec.toNat % 2 ^ k < 2 ^ k := Nat.mod_lt _ (Nat.two_pow_pos k)
  have h4 : 2 ^ k ≤ 2 ^ 31 := Nat.pow_le_pow_right (by decide) hk
  show 0 ≤ (x &&& m).toBitVec.toInt ∧ (x &&& m).toBitVec.toInt < 2 ^ k
  rw [BitVec.toInt_eq_toNat_cond, h1, if_pos (by omega)]
  constructor
  · omega
  · exact_mod_cast h3
theorem own_addL (x y : Int64) (h1 : -9223372036854775808 ≤ x.toInt + y.toInt) (h2 : x.toInt + y.toInt < 9223372036854775808) : (x + y).toInt = x.toInt + y.toInt := by
  rw [Int64.toInt_add]; exact Int.bmod_eq_of_le (by simp; omega) (by simp; omega)
theorem own_subL (x y : Int64) (h1 : -9223372036854775808 ≤ x.toInt - y.toInt) (h2 : x.toInt - y.toInt < 9223372036854775808) : (x - y).toInt = x.toInt - y.toInt := by
  rw [Int64.toInt_sub]; exact Int.bmod_eq_of_le (by simp; omega) (by simp; omega)
theorem own_mulL (x y : Int64) (h1 : -9223372036854775808 ≤ x.toInt * y.toInt) (h2 : x.toInt * y.toInt < 9223372036854775808) : (x * y).toInt = x.toInt * y.toInt := by
  rw [Int64.toInt_mul]; exact Int.bmod_eq_of_le (by simp; omega) (by simp; omega)
theorem own_addI (x y : Int32) (h1 : -2147483648 ≤ x.toInt + y.toInt) (h2 : x.toInt + y.toInt < 2147483648) : (x + y).toInt = x.toInt + y.toInt := by
  rw [Int32.toInt_add]; exact Int.bmod_eq_of_le (by simp; omega) (by simp; omega)
theorem own_divL (x y : Int64) (hx : 0 ≤ x.toInt) (hy : 1 ≤ y.toInt) : (x / y).toInt = x.toInt / y.toInt := by
  rw [Int64.toInt_div, Int.tdiv_eq_ediv_of_nonneg hx]
  have h0 := x.toInt_lt
  have h1 : x.toInt / y.toInt ≤ x.toInt := Int.ediv_le_self _ hx
  have h2 : 0 ≤ x.toInt / y.toInt := Int.ediv_nonneg hx (by omega)
  exact Int.bmod_eq_of_le (by simp; omega) (by simp; omega)
theorem own_modL (x y : Int64) (hx : 0 ≤ x.toInt) : (x % y).toInt = x.toInt % y.toInt := by
  rw [Int64.toInt_mod, Int.tmod_eq_emod_of_nonneg hx]
theorem own_core (b : Int32) (r : Int64) (hb : 1 ≤ b.toInt) (hr : 1 ≤ r.toInt) (i0 : Int32) (j1 : Int64) (i2 : Int32) : f0_57 i0 j1 i2 b r = 1 := by
  have hb2 := b.toInt_lt
  have hr2 := r.toInt_lt
  have e8 : ((8 : Int64) * b.toInt64).toInt = 8 * b.toInt := by
    have q : b.toInt64.toInt = b.toInt := Int32.toInt_toInt64 b
    have q8 : (8 : Int64).toInt = 8 := rfl
    rw [own_mulL _ _ (by rw [q, q8]; omega) (by rw [q, q8]; omega), q, q8]
  have q1 : (1 : Int64).toInt = 1 := rfl
  have q0 : (0 : Int64).toInt = 0 := rfl
  unfold f0_57 f2_0
  generalize (8 : Int64) * b.toInt64 = B at *
  have hB : 8 ≤ B.toInt ∧ B.toInt < 8 * 2147483648 := by omega
  have ed := own_divL B r (by omega) hr
  have em := own_modL B r (by omega)
  have es : (B - 1).toInt = B.toInt - 1 := by rw [own_subL _ _ (by rw [q1]; omega) (by rw [q1]; omega), q1]
  have ed1 := own_divL (B - 1) r (by omega) hr
  rw [es] at ed1
  have hq0 : 0 ≤ B.toInt / r.toInt := Int.ediv_nonneg (by omega) (by omega)
  have hq1 : B.toInt / r.toInt ≤ B.toInt := Int.ediv_le_self _ (by omega)
  have hm0 := Int.emod_nonneg B.toInt (show r.toInt ≠ 0 by omega)
  have hm1 := Int.emod_lt_of_pos B.toInt (show 0 < r.toInt by omega)
  have hdm := Int.mul_ediv_add_emod B.toInt r.toInt
  -- the ceiling
  have hp0 : 0 ≤ (B.toInt - 1) / r.toInt := Int.ediv_nonneg (by omega) (by omega)
  have hp1 : (B.toInt - 1) / r.toInt ≤ B.toInt - 1 := Int.ediv_le_self _ (by omega)
  have hn0 := Int.emod_nonneg (B.toInt - 1) (show r.toInt ≠ 0 by omega)
  have hn1 := Int.emod_lt_of_pos (B.toInt - 1) (show 0 < r.toInt by omega)
  have hdn := Int.mul_ediv_add_emod (B.toInt - 1) r.toInt
  have eR : ((B - 1) / r + 1).toInt = (B.toInt - 1) / r.toInt + 1 := by
    rw [own_addL _ _ (by rw [ed1, q1]; omega) (by rw [ed1, q1]; omega), ed1, q1]
  have key : (if B % r = 0 then B / r + (0 : Int32).toInt64 else B / r + (1 : Int32).toInt64) = (B - 1) / r + 1 := by
    apply Int64.toInt_inj.mp
    rw [eR]
    have z0 : (0 : Int32).toInt64.toInt = 0 := rfl
    have z1 : (1 : Int32).toInt64.toInt = 1 := rfl
    split
    · rename_i h
      have h' : B.toInt % r.toInt = 0 := by rw [← em, h]; rfl
      rw [own_addL _ _ (by rw [ed, z0]; omega) (by rw [ed, z0]; omega), ed, z0]
      have : B.toInt / r.toInt = (B.toInt - 1) / r.toInt + 1 := by
        have hk : 1 ≤ B.toInt / r.toInt := by
          rcases Int.lt_or_le (B.toInt / r.toInt) 1 with c | c
          · have : B.toInt / r.toInt = 0 := by omega
            rw [this] at hdm; omega
          · exact c
        have : (B.toInt - 1) / r.toInt = B.toInt / r.toInt - 1 := by
          have e : B.toInt - 1 = (r.toInt - 1) + r.toInt * (B.toInt / r.toInt - 1) := by
            rw [Int.mul_sub]; omega
          rw [e, Int.add_mul_ediv_left _ _ (by omega), Int.ediv_eq_zero_of_lt (by omega) (by omega)]
          have : r.toInt - 1 + r.toInt * (B.toInt / r.toInt - 1) = B.toInt - 1 := e.symm
          omega
        omega
      omega
    · rename_i h
      have h' : B.toInt % r.toInt ≠ 0 := by
        intro c; apply h; apply Int64.toInt_inj.mp; rw [em, c]; rfl
      rw [own_addL _ _ (by rw [ed, z1]; omega) (by rw [ed, z1]; omega), ed, z1]
      have : (B.toInt - 1) / r.toInt = B.toInt / r.toInt := by
        have e : B.toInt - 1 = (B.toInt % r.toInt - 1) + r.toInt * (B.toInt / r.toInt) := by omega
        have e2 : (B.toInt - 1) / r.toInt = ((B.toInt % r.toInt - 1) + r.toInt * (B.toInt / r.toInt)) / r.toInt := by rw [← e]
        rw [e2, Int.add_mul_ediv_left _ _ (by omega), Int.ediv_eq_zero_of_lt (by omega) (by omega)]; omega
      omega
  rw [key]
  have hm2 : r.toInt * ((B.toInt - 1) / r.toInt) ≤ B.toInt - 1 := by omega
  have hm3 : 0 ≤ r.toInt * ((B.toInt - 1) / r.toInt) := Int.mul_nonneg (by omega) hp0
  have eS : ((B - 1) / r + 1 - 1).toInt = (B.toInt - 1) / r.toInt := by
    rw [own_subL _ _ (by rw [eR, q1]; omega) (by rw [eR, q1]; omega), eR, q1]; omega
  have eM : (((B - 1) / r + 1 - 1) * r).toInt = r.toInt * ((B.toInt - 1) / r.toInt) := by
    rw [own_mulL _ _ (by rw [eS, Int.mul_comm]; omega) (by rw [eS, Int.mul_comm]; omega), eS, Int.mul_comm]
  have eT : (B - ((B - 1) / r + 1 - 1) * r).toInt = B.toInt - r.toInt * ((B.toInt - 1) / r.toInt) := by
    rw [own_subL _ _ (by rw [eM]; omega) (by rw [eM]; omega), eM]
  rw [if_pos rfl, if_neg (by rw [Int64.lt_iff_toInt_lt, eR, q1]; omega), if_pos (by rw [Int64.lt_iff_toInt_lt, eT, q0]; omega), if_neg (by rw [Int64.lt_iff_toInt_lt, eT]; omega)]
theorem own_law (i0 : Int32) (j1 : Int64) (i2 : Int32) : f0_0 i0 j1 i2 = 1 := by
  have q1 : (1 : Int64).toInt = 1 := rfl
  have p1 : (1 : Int32).toInt = 1 := rfl
  have hr1 : 1 ≤ (f1_0 (1 : Int64) (j1 &&& (9223372036854775807 : Int64))).toInt := by
    unfold f1_0
    split
    · rename_i h; rw [Int64.lt_iff_toInt_lt, q1] at h; omega
    · decide
  have hr2 : 1 ≤ ((j1 &&& (1023 : Int64)) + (1 : Int64)).toInt := by
    have h := own_maskL j1 1023 10 (by decide) (by decide)
    rw [own_addL _ _ (by rw [q1]; omega) (by rw [q1]; omega), q1]; omega
  have hb1 : 1 ≤ (f3_0 (1 : Int32) (i0 &&& (2147483647 : Int32))).toInt := by
    unfold f3_0
    split
    · rename_i h; rw [Int32.lt_iff_toInt_lt, p1] at h; omega
    · decide
  have hb2 : 1 ≤ ((i0 &&& (4095 : Int32)) + (1 : Int32)).toInt := by
    have h := own_maskI i0 4095 12 (by decide) (by decide)
    rw [own_addI _ _ (by rw [p1]; omega) (by rw [p1]; omega), p1]; omega
  unfold f0_0
  split <;> unfold f0_28 <;> split <;> exact own_core _ _ (by assumption) (by assumption) _ _ _

set_option maxRecDepth 65536 in
set_option maxHeartbeats 40000000 in
theorem comes_1 {Post : Tables → Env → Array Value → State → Outcome → State → Prop} (hpost : ∀ tb e args s v u, (limb_1_1.after args s (.returned v) u = true ∧ limb_1_2.after args s (.returned v) u = true ∧ True) → FrameEnd s (.returned v) u (Jvm.fieldLocs frame_1_writes args s ++ Jvm.arrayLocs frame_1_arrays args s ++ Jvm.staticLocs frame_1_statics s) 0 0 → Post tb e args s (.returned v) u) :
    ArmFor flags0 classFile x code maxLocals ret World_1 tables_1 room_1 Calls_1 rest_1 Pre_1 Post := by
  intro l hfl _ _ p e ha hc hk s m args below hf hA hF happ hP
  obtain ⟨hcalls, hrest, hpre⟩ := hP
  obtain ⟨-, -, -, hnamed, -, -, -, hat⟩ := (Spec.applies_iff hf).mp happ
  obtain ⟨hg, hn⟩ := and_e (Cond.before_iff.mp (show (Jvm.Cond.and given_1 narrow_1).before args s = true from hpre))
  obtain ⟨g1, g2⟩ := and_e hg
  obtain ⟨g3, g4⟩ := and_e g2
  obtain ⟨g5, g6⟩ := and_e g4
  obtain ⟨w0, w1, w2, rfl⟩ : ∃ w0 w1 w2 : Value, args = #[w0, w1, w2] := by
    have hs : args.size = 3 := by simpa [Cond.value, given_1] using g1
    obtain ⟨L⟩ := args
    match L, hs with
    | [w0, w1, w2], _ => exact ⟨w0, w1, w2, rfl⟩
  have hw := fun d (hd : d ∈ tables_1) => atoms_spec (ws := Jvm.Cond.code x code maxLocals ret :: tables_1) hat d (List.mem_cons_of_mem _ hd)
  have hfit : Fit s := fun {y c} hc i hi => by
    obtain ⟨ha, rfl⟩ := Array.getElem?_eq_some_iff.mp hc
    have q := List.all_eq_true.mp ((Array.all_eq_true_iff_forall_mem.mp hF) _ (Array.getElem_mem ha)) i (List.mem_range.mpr hi)
    simpa [Array.getElem?_eq_getElem hi] using q
  obtain ⟨i0, ei0⟩ := is_v g3
  obtain rfl : w0 = (.int i0) := Option.some.inj ei0
  obtain ⟨i1, ei1⟩ := isL_v g5
  obtain rfl : w1 = (.long i1) := Option.some.inj ei1
  obtain ⟨i2, ei2⟩ := is_v g6
  obtain rfl : w2 = (.int i2) := Option.some.inj ei2
  obtain ⟨n, o, h1, h2, h3, _, L, rfl, ⟨rfl, N, -⟩, hq⟩ := rm0 l s _ hw tables_1 i0 i1 i2 s.heap s.heap.size (Nat.le_refl _) p e ha hc hk s m _ below hf ((Spec.applies_iff_loose hf).mp happ).1 ⟨rfl, State.Warmed39.refl s, rfl⟩ trivial
  refine ⟨n, _, h1, h2, h3, hpost _ _ _ _ _ _ ⟨Cond.after_iff.mpr rfl, Cond.after_iff.mpr (eq_i res_at (Term.int_eval (1)) (congrArg Value.int (own_law i0 i1 i2))), trivial⟩ ⟨hq.1, hq.2.1, (hq.2.2.sift fun y hy => Or.inr (N y hy)).mono (by decide) (by decide)⟩⟩
theorem main_1_1 : Claimed_1_1 := comes_1 fun _ _ _ _ _ _ h hF => ⟨h.1, hF⟩
theorem main_1_2 : Claimed_1_2 := comes_1 fun _ _ _ _ _ _ h hF => ⟨h.2.1, hF⟩
end Jvm.Pilot.@@N@@
namespace Jvm.Pilot.@@N@@
open Jvm Jvm.ClassFile Sem Op Lib Jvm.Free Jvm.Stand Jvm.Pilot.@@N@@.Jvm.D
/-! MADE BY PROGRAM (witnessworld.py) out of the Statement's table words and the real class files: 10 classes; the members and pool entries that the words name. The judged class is class 1, her method 1. -/
namespace start1
open Jvm.ClassFile
def u (s : String) : CpInfo := .utf8 (stringToUtf16 s)
/-- a pool by its gaps: so many unusable entries, then the entry; so many at the end -/
def gap : Nat → List CpInfo → List CpInfo
  | 0, r => r
  | n + 1, r => .unusable :: gap n r
def poolList (es : List (Nat × CpInfo)) (last : Nat) : List CpInfo := es.foldr (fun e r => gap e.1 (e.2 :: r)) (gap last [])
def pool (es : List (Nat × CpInfo)) (last : Nat) : Array CpInfo := ⟨poolList es last⟩
def fileOf (pool : Array CpInfo) (this : Nat) (attrs : Array Attribute := #[]) (ms : Array MethodInfo := #[]) (fl : Nat := 33) (sup : Nat := 0) (ifs : Array Nat := #[]) (fds : Array FieldInfo := #[]) : ClassFile where
  minorVersion := 0
  majorVersion := 65
  constantPool := pool
  accessFlags := fl
  thisClass := this
  superClass := sup
  interfaces := ifs
  fields := fds
  methods := ms
  attributes := attrs
def plain (name : String) (sup : Option ClassId) : Class where
  name := name
  kind := .ordinary
  loader := none
  accessFlags := 33
  super := sup
  interfaces := #[]
  cf := none
  fields := #[]
  methods := #[]
  instanceTypes := #[]
  staticTypes := #[]
  resolved := #[]
  callSites := []
  init := .initialized
  statics := none
  mirror := none

def pool0 : Array CpInfo := pool [(5, u "<init>"), (0, u "()V"), (1, .class_ 10), (1, u "java/lang/Object")] 113

def k0m0 : Method := { name := "<init>", desc := "()V", sig := { parameters := [], returnType := none }, accessFlags := 1, code := none }
/-- java/lang/Object -/
def k0 : Class := { plain "java/lang/Object" none with
  accessFlags := 33
  interfaces := #[]
  cf := some (fileOf pool0 8 #[] #[{ accessFlags := 1, nameIndex := 5, descriptorIndex := 6, attributes := #[] }] 33 0 #[] #[])
  fields := #[]
  methods := #[k0m0]
  instanceTypes := #[]
  staticTypes := #[]
  resolved := Array.replicate 124 none
  statics := none }

def pool1 : Array CpInfo := pool [(2, .class_ 4), (1, u "java/lang/Object"), (0, u "<init>"), (0, u "()V"), (0, .integer 2147483647), (0, .methodref 9 10), (0, .class_ 11), (0, .nameAndType 12 13), (0, u "java/lang/Math"), (0, u "max"), (0, u "(II)I"), (0, .long 1023), (3, .long 9223372036854775807), (1, .methodref 9 21), (0, .nameAndType 12 22), (0, u "(JJ)J"), (0, .methodref 24 25), (0, .class_ 26), (0, .nameAndType 27 28), (0, u "com/example/graded_queue/gradedqueue/port/OutputPort"), (0, u "transmissionNs"), (0, u "(IJ)J"), (0, .long 8), (1, .class_ 32), (0, u "com/example/graded_queue/gradedqueue/port/OutputPortTransmissionNsPinLaw"), (2, u "law"), (0, u "(IJI)Z")] 3

def k1m0 : Method := { name := "<init>", desc := "()V", sig := { parameters := [], returnType := none }, accessFlags := 2, code := none }
def k1c1 : Code := { maxStack := 6, maxLocals := 17, code := code, exceptionTable := #[], attributes := #[] }
def k1m1 : Method := { name := "law", desc := "(IJI)Z", sig := { parameters := [.int, .long, .int], returnType := some .boolean }, accessFlags := 9, code := some k1c1 }
/-- com/example/graded_queue/gradedqueue/port/OutputPortTransmissionNsPinLaw -/
def k1 : Class := { plain "com/example/graded_queue/gradedqueue/port/OutputPortTransmissionNsPinLaw" (some 0) with
  accessFlags := 49
  interfaces := #[]
  cf := some (fileOf pool1 31 #[] #[{ accessFlags := 2, nameIndex := 5, descriptorIndex := 6, attributes := #[] }, { accessFlags := 9, nameIndex := 35, descriptorIndex := 36, attributes := #[] }] 49 2 #[] #[])
  fields := #[]
  methods := #[k1m0, k1m1]
  instanceTypes := #[]
  staticTypes := #[]
  resolved := Array.replicate 40 none
  statics := none }

def pool2 : Array CpInfo := pool [(1, .class_ 2), (0, u "java/lang/Math"), (1, .class_ 6), (1, u "java/lang/Object"), (0, u "<init>"), (0, u "()V"), (89, .class_ 100), (1, u "java/lang/Math$RandomNumberGeneratorHolder"), (20, u "(JJ)J"), (50, u "negativeZeroFloatBits"), (0, u "J"), (2, u "negativeZeroDoubleBits"), (21, u "max"), (46, u "$assertionsDisabled"), (0, u "Z"), (88, u "(II)I"), (2, u "twoToTheDoubleScaleDown"), (0, u "D"), (4, u "twoToTheDoubleScaleUp"), (9, u "E"), (3, u "PI"), (2, u "TAU"), (2, u "DEGREES_TO_RADIANS"), (0, u "RADIANS_TO_DEGREES")] 94

def k2m0 : Method := { name := "<init>", desc := "()V", sig := { parameters := [], returnType := none }, accessFlags := 2, code := none }
def k2c1 : Code := { maxStack := 2, maxLocals := 2, code := jdk_29_method_65_code, exceptionTable := #[], attributes := #[] }
def k2m1 : Method := { name := "max", desc := "(II)I", sig := { parameters := [.int, .int], returnType := some .int }, accessFlags := 9, code := some k2c1 }
def k2c2 : Code := { maxStack := 4, maxLocals := 4, code := jdk_29_method_66_code, exceptionTable := #[], attributes := #[] }
def k2m2 : Method := { name := "max", desc := "(JJ)J", sig := { parameters := [.long, .long], returnType := some .long }, accessFlags := 9, code := some k2c2 }
/-- java/lang/Math -/
def k2 : Class := { plain "java/lang/Math" (some 0) with
  accessFlags := 49
  interfaces := #[]
  cf := some (fileOf pool2 1 #[.nestMembers #[98]] #[{ accessFlags := 2, nameIndex := 7, descriptorIndex := 8, attributes := #[] }, { accessFlags := 9, nameIndex := 198, descriptorIndex := 335, attributes := #[] }, { accessFlags := 9, nameIndex := 198, descriptorIndex := 121, attributes := #[] }] 49 4 #[] #[{ accessFlags := 25, nameIndex := 354, descriptorIndex := 339, attributes := #[] }, { accessFlags := 25, nameIndex := 358, descriptorIndex := 339, attributes := #[] }, { accessFlags := 25, nameIndex := 361, descriptorIndex := 339, attributes := #[] }, { accessFlags := 26, nameIndex := 364, descriptorIndex := 339, attributes := #[] }, { accessFlags := 26, nameIndex := 365, descriptorIndex := 339, attributes := #[] }, { accessFlags := 26, nameIndex := 172, descriptorIndex := 173, attributes := #[] }, { accessFlags := 26, nameIndex := 176, descriptorIndex := 173, attributes := #[] }, { accessFlags := 8, nameIndex := 344, descriptorIndex := 339, attributes := #[] }, { accessFlags := 8, nameIndex := 338, descriptorIndex := 339, attributes := #[] }, { accessFlags := 4120, nameIndex := 245, descriptorIndex := 246, attributes := #[] }])
  fields := #[{ name := "E", type := .double, accessFlags := 25, slot := 0, constantValue := 0 }, { name := "PI", type := .double, accessFlags := 25, slot := 1, constantValue := 0 }, { name := "TAU", type := .double, accessFlags := 25, slot := 2, constantValue := 0 }, { name := "DEGREES_TO_RADIANS", type := .double, accessFlags := 26, slot := 3, constantValue := 0 }, { name := "RADIANS_TO_DEGREES", type := .double, accessFlags := 26, slot := 4, constantValue := 0 }, { name := "negativeZeroFloatBits", type := .long, accessFlags := 26, slot := 5, constantValue := 0 }, { name := "negativeZeroDoubleBits", type := .long, accessFlags := 26, slot := 6, constantValue := 0 }, { name := "twoToTheDoubleScaleUp", type := .double, accessFlags := 8, slot := 7, constantValue := 0 }, { name := "twoToTheDoubleScaleDown", type := .double, accessFlags := 8, slot := 8, constantValue := 0 }, { name := "$assertionsDisabled", type := .boolean, accessFlags := 4120, slot := 9, constantValue := 0 }]
  methods := #[k2m0, k2m1, k2m2]
  instanceTypes := #[]
  staticTypes := #[.double, .double, .double, .double, .double, .long, .long, .double, .double, .boolean]
  resolved := Array.replicate 460 none
  statics := none }

def pool3 : Array CpInfo := pool [(2, .class_ 4), (1, u "java/lang/Object"), (6, .class_ 13), (1, u "com/example/graded_queue/gradedqueue/port/OutputPort"), (0, u "heldRanks"), (0, u "Ljava/util/TreeMap;"), (11, u "rateGbps"), (0, u "J"), (2, u "scheduler"), (0, u "Lcom/example/graded_queue/gradedqueue/scheduler/Scheduler;"), (2, u "listener"), (0, u "Lcom/example/graded_queue/gradedqueue/port/OutputPort$DepartureListener;"), (8, u "nowNs"), (9, u "packets"), (30, u "dropped"), (14, u "linkFreeNs"), (28, u "inversions"), (6, u "transmissionNs"), (0, u "(IJ)J"), (10, u "sent"), (1, .class_ 153), (1, u "com/example/graded_queue/gradedqueue/port/OutputPort$DepartureListener"), (17, .long 8)] 49

def k3c0 : Code := { maxStack := 6, maxLocals := 5, code := prog_29_method_8_code, exceptionTable := #[], attributes := #[] }
def k3m0 : Method := { name := "transmissionNs", desc := "(IJ)J", sig := { parameters := [.int, .long], returnType := some .long }, accessFlags := 9, code := some k3c0 }
/-- com/example/graded_queue/gradedqueue/port/OutputPort -/
def k3 : Class := { plain "com/example/graded_queue/gradedqueue/port/OutputPort" (some 0) with
  accessFlags := 49
  interfaces := #[]
  cf := some (fileOf pool3 11 #[.nestMembers #[151]] #[{ accessFlags := 9, nameIndex := 137, descriptorIndex := 138, attributes := #[] }] 49 2 #[] #[{ accessFlags := 18, nameIndex := 27, descriptorIndex := 28, attributes := #[] }, { accessFlags := 18, nameIndex := 31, descriptorIndex := 32, attributes := #[] }, { accessFlags := 18, nameIndex := 35, descriptorIndex := 36, attributes := #[] }, { accessFlags := 18, nameIndex := 14, descriptorIndex := 15, attributes := #[] }, { accessFlags := 2, nameIndex := 45, descriptorIndex := 28, attributes := #[] }, { accessFlags := 2, nameIndex := 101, descriptorIndex := 28, attributes := #[] }, { accessFlags := 2, nameIndex := 55, descriptorIndex := 28, attributes := #[] }, { accessFlags := 2, nameIndex := 149, descriptorIndex := 28, attributes := #[] }, { accessFlags := 2, nameIndex := 86, descriptorIndex := 28, attributes := #[] }, { accessFlags := 2, nameIndex := 130, descriptorIndex := 28, attributes := #[] }])
  fields := #[{ name := "rateGbps", type := .long, accessFlags := 18, slot := 0, constantValue := 0 }, { name := "scheduler", type := (.object "com/example/graded_queue/gradedqueue/scheduler/Scheduler"), accessFlags := 18, slot := 1, constantValue := 0 }, { name := "listener", type := (.object "com/example/graded_queue/gradedqueue/port/OutputPort$DepartureListener"), accessFlags := 18, slot := 2, constantValue := 0 }, { name := "heldRanks", type := (.object "java/util/TreeMap"), accessFlags := 18, slot := 3, constantValue := 0 }, { name := "nowNs", type := .long, accessFlags := 2, slot := 4, constantValue := 0 }, { name := "linkFreeNs", type := .long, accessFlags := 2, slot := 5, constantValue := 0 }, { name := "packets", type := .long, accessFlags := 2, slot := 6, constantValue := 0 }, { name := "sent", type := .long, accessFlags := 2, slot := 7, constantValue := 0 }, { name := "dropped", type := .long, accessFlags := 2, slot := 8, constantValue := 0 }, { name := "inversions", type := .long, accessFlags := 2, slot := 9, constantValue := 0 }]
  methods := #[k3m0]
  instanceTypes := #[.long, (.object "com/example/graded_queue/gradedqueue/scheduler/Scheduler"), (.object "com/example/graded_queue/gradedqueue/port/OutputPort$DepartureListener"), (.object "java/util/TreeMap"), .long, .long, .long, .long, .long, .long]
  staticTypes := #[]
  resolved := Array.replicate 221 none
  statics := none }

def pool4 : Array CpInfo := pool [(1, u "java/lang/Cloneable"), (0, .class_ 1), (0, u "java/lang/Object"), (0, .class_ 3)] 3

/-- java/lang/Cloneable -/
def k4 : Class := { plain "java/lang/Cloneable" (some 0) with
  accessFlags := 1537
  interfaces := #[]
  cf := some (fileOf pool4 2 #[] #[] 1537 4 #[] #[])
  fields := #[]
  methods := #[]
  instanceTypes := #[]
  staticTypes := #[]
  resolved := Array.replicate 8 none
  statics := none }

def pool5 : Array CpInfo := pool [(1, u "java/io/Serializable"), (0, .class_ 1), (0, u "java/lang/Object"), (0, .class_ 3)] 3

/-- java/io/Serializable -/
def k5 : Class := { plain "java/io/Serializable" (some 0) with
  accessFlags := 1537
  interfaces := #[]
  cf := some (fileOf pool5 2 #[] #[] 1537 4 #[] #[])
  fields := #[]
  methods := #[]
  instanceTypes := #[]
  staticTypes := #[]
  resolved := Array.replicate 8 none
  statics := none }

/-- the primitive byte -/
def k6 : Class := { plain "byte" none with kind := .primitive 'B', accessFlags := 0x411 }
/-- [B -/
def k7 : Class := { plain "[B" (some 0) with kind := .array 6 .byte, interfaces := #[4, 5], accessFlags := 1041 }

/-- the primitive int -/
def k8 : Class := { plain "int" none with kind := .primitive 'I', accessFlags := 0x411 }
/-- [I -/
def k9 : Class := { plain "[I" (some 0) with kind := .array 8 .int, interfaces := #[4, 5], accessFlags := 1041 }

def heap : Heap := #[]
def classes : Array Class := #[k0, k1, k2, k3, k4, k5, k6, k7, k8, k9]
def interned : List (Array UInt16 × Addr) := []
def slotsUsed : Nat := 0
def theMethod : MethodId := ⟨1, 1⟩
def args0 : Array Value := #[.int 5, .long 7, .int 1]
def aboutOver (below : List Frame) : State where
  vm := { classes := classes, interned := interned.toArray }
  heap := heap
  slotsUsed := slotsUsed
  threads := #[{ frames := .invoking theMethod args0 :: below }]
def below0 : List Frame := [.native { method := ⟨0, 0⟩, args := #[] }]
def about1 : State := aboutOver below0
def p0 : Program := .bare "" "" ""
def e0 : Env := launch0.env 0 0 0
theorem w_frames : about1.frames = Frame.invoking theMethod args0 :: below0 := rfl
set_option maxRecDepth 65536 in
theorem w_args : argsFit about1.vm theMethod args0 = true := by decide +kernel
set_option maxRecDepth 65536 in
theorem w_heap : heapFits about1 = true := by decide +kernel
set_option maxRecDepth 65536 in
theorem w_runnable : about1.curStatus? = some .runnable := by decide +kernel
set_option maxRecDepth 65536 in
theorem w_alone : about1.alone = true := by decide +kernel
set_option maxRecDepth 65536 in
theorem w_named : about1.methodNamed? x = some theMethod := by decide +kernel
set_option maxRecDepth 65536 in
theorem w_hears : about1.hears theMethod below0 = true := by decide +kernel
set_option maxRecDepth 65536 in
theorem w_ripe : about1.ripe theMethod args0 below0 = true := by decide +kernel
theorem w_running : about1.status = .running := rfl
set_option maxRecDepth 65536 in
theorem w_room : about1.hasRoom e0.platform room_1 = true :=
  launch0.hasRoom_least _ room_1 (by decide +kernel) (by decide +kernel) (by decide +kernel) (by decide +kernel) (by decide +kernel) (by decide +kernel)
theorem allAtoms_all (ts : List Jvm.Cond) (a : Array Jvm.Value) (st : Jvm.State) : (allAtoms ts).before a st = ts.all (fun c => c.before a st) := by
  induction ts with
  | nil => rfl
  | cons c t ih =>
    show (Jvm.Cond.and c (allAtoms t)).before a st = _
    rw [Jvm.Cond.before_and, ih, List.all_cons]
def words1 : List Jvm.Cond := Jvm.Cond.code x code maxLocals ret :: tables_1
/-- a 'code' word, met by the world's own term for the bytes: nothing is compared byte by byte -/
theorem code_word {y : MethodName} {bytes : ByteArray} {mx : Nat} {rt : Option FieldType} {a : Array Value} {s : State} {m : MethodId} {meth : Method} {c : Code} (h1 : s.methodNamed? y = some m) (h2 : s.vm.method? m = some meth) (h3 : meth.code = some c) (h4 : c.code = bytes)
    (h5 : (c.maxLocals == mx && c.exceptionTable.isEmpty && decide (c.maxStack ≤ mostOperands) && decide (meth.sig.returnType = rt) && !meth.locks && decide (parseMethodDescriptor y.desc = some meth.sig)) = true) : (Jvm.Cond.code y bytes mx rt).before a s = true := by
  simp only [Bool.and_eq_true, beq_iff_eq, Bool.not_eq_true', decide_eq_true_eq] at h5
  obtain ⟨⟨⟨⟨⟨g1, g2⟩, g3⟩, g4⟩, g5⟩, g6⟩ := h5
  simp [Cond.before, Cond.holds, Cond.value, h1, h2, h3, h4, g1, g2, g3, g4, g5, g6]
def isCode : Jvm.Cond → Bool
  | .code _ _ _ _ => true
  | _ => false
theorem all_split {L : List Jvm.Cond} {P : Jvm.Cond → Bool} (h1 : L.all (fun c => isCode c || P c) = true) (h2 : ∀ c ∈ L.filter isCode, P c = true) : L.all P = true := by
  refine List.all_eq_true.mpr fun c hc => ?_
  have h := List.all_eq_true.mp h1 c hc
  rcases Bool.eq_false_or_eq_true (isCode c) with hi | hi
  · exact h2 c (List.mem_filter.mpr ⟨hc, hi⟩)
  · simpa [hi] using h
set_option maxRecDepth 65536 in
theorem w_c0 : (Jvm.Cond.code x code maxLocals ret).before args0 about1 = true := code_word (m := ⟨1, 1⟩) (meth := k1m1) (c := k1c1) (by decide +kernel) rfl rfl rfl (by decide +kernel)
set_option maxRecDepth 65536 in
theorem w_c1 : (Jvm.Cond.code ({ cls := "java/lang/Math", name := "max", desc := "(JJ)J" } : Jvm.MethodName) jdk_29_method_66_code (4 : Nat) (Option.some Jvm.ClassFile.FieldType.long)).before args0 about1 = true := code_word (m := ⟨2, 2⟩) (meth := k2m2) (c := k2c2) (by decide +kernel) rfl rfl rfl (by decide +kernel)
set_option maxRecDepth 65536 in
theorem w_c2 : (Jvm.Cond.code ({ cls := "com/example/graded_queue/gradedqueue/port/OutputPort", name := "transmissionNs", desc := "(IJ)J" } : Jvm.MethodName) prog_29_method_8_code (5 : Nat) (Option.some Jvm.ClassFile.FieldType.long)).before args0 about1 = true := code_word (m := ⟨3, 0⟩) (meth := k3m0) (c := k3c0) (by decide +kernel) rfl rfl rfl (by decide +kernel)
set_option maxRecDepth 65536 in
theorem w_c3 : (Jvm.Cond.code ({ cls := "java/lang/Math", name := "max", desc := "(II)I" } : Jvm.MethodName) jdk_29_method_65_code (2 : Nat) (Option.some Jvm.ClassFile.FieldType.int)).before args0 about1 = true := code_word (m := ⟨2, 1⟩) (meth := k2m1) (c := k2c1) (by decide +kernel) rfl rfl rfl (by decide +kernel)
def codes1 : List Jvm.Cond := [Jvm.Cond.code x code maxLocals ret, Jvm.Cond.code ({ cls := "java/lang/Math", name := "max", desc := "(JJ)J" } : Jvm.MethodName) jdk_29_method_66_code (4 : Nat) (Option.some Jvm.ClassFile.FieldType.long), Jvm.Cond.code ({ cls := "com/example/graded_queue/gradedqueue/port/OutputPort", name := "transmissionNs", desc := "(IJ)J" } : Jvm.MethodName) prog_29_method_8_code (5 : Nat) (Option.some Jvm.ClassFile.FieldType.long), Jvm.Cond.code ({ cls := "java/lang/Math", name := "max", desc := "(II)I" } : Jvm.MethodName) jdk_29_method_65_code (2 : Nat) (Option.some Jvm.ClassFile.FieldType.int)]
set_option maxRecDepth 65536 in
theorem codes_eq : words1.filter isCode = codes1 := rfl
theorem w_codes : ∀ c ∈ words1.filter isCode, c.before args0 about1 = true := by
  rw [codes_eq]
  intro c hc
  simp only [codes1, List.mem_cons, List.not_mem_nil, or_false] at hc
  rcases hc with rfl | rfl | rfl | rfl
  · exact w_c0
  · exact w_c1
  · exact w_c2
  · exact w_c3
set_option maxRecDepth 65536 in
theorem w_t1 : words1.all (fun c => isCode c || c.before args0 about1) = true := by decide +kernel
theorem w_tables : (allAtoms (Jvm.Cond.code x code maxLocals ret :: tables_1)).before args0 about1 = true := by
  rw [allAtoms_all]
  show words1.all (fun c => c.before args0 about1) = true
  refine all_split ?_ w_codes
  rw [w_t1]
set_option maxRecDepth 65536 in
theorem w_case : (Jvm.Cond.and given_1 narrow_1).before args0 about1 = true := by decide +kernel
theorem w_applies : (headSpec (Jvm.Cond.code x code maxLocals ret :: tables_1) room_1).applies x e0.platform about1 = true :=
  (Spec.applies_iff w_frames).mpr ⟨w_running, w_runnable, w_alone, w_named, w_hears, w_ripe, w_room, w_tables⟩
theorem atStart : AtStart classFile x code maxLocals ret World_1 tables_1 room_1 Calls_1 rest_1 Pre_1 launch0 p0 e0 about1 theMethod args0 below0 :=
  ⟨lists_1, trivial, launch0.admits_env _ _ _, launch0.least_env, fairChoices_fair.cas, fairChoices_fair.clock, w_frames, w_args, w_heap, w_applies, trivial, trivial, w_case⟩
end start1
theorem witness_1 : WitnessClaimed_1 := ⟨start1.p0, start1.e0, start1.about1, start1.theMethod, start1.args0, start1.below0, start1.atStart⟩
end Jvm.Pilot.@@N@@
