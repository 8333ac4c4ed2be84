import JvmDerived
import JvmDerived.Pilot.@@N@@Statement
import JvmDerived.Pilot.@@N@@Code
set_option linter.unusedVariables false
set_option linter.unusedSimpArgs false
namespace Jvm.Pilot.@@N@@
open Jvm Jvm.ClassFile Sem Op Lib Jvm.Free Jvm.Stand Jvm.LawKit Jvm.RoadKit Bundle Jvm.Pilot.@@N@@.Jvm.D
/-! own words: where a body stands (own_C), how it ends (own_Ends), one step ahead of that (own_step), the returns -/
def own_C (cls : String) (code : ByteArray) (ml : Nat) (rt : Option FieldType) (nm : String) (p : Program) (s : State) (m : MethodId) (meth : Method) (c : Code) (Z : State) (a0 : Array Value) : Prop :=
  p.tables.exec = Jvm.exec ∧ Z.Warmed39 s.vm ∧ (∀ d ∈ tables_1, d.before a0 Z = true) ∧ c.code = code ∧ c.maxLocals = ml ∧ s.vm.findClass cls = some m.cls ∧ meth.sig.returnType = rt ∧ meth.locks = false ∧ meth.name = nm
def own_Q (n0 : Nat) (h0 : Heap) (w : Option Value) (v : Option Value) (h : Heap) (L : List Loc) : Prop := v = w ∧ Fr n0 L ∧ h = h0
def own_QL (n0 : Nat) (w : Option Value) (v : Option Value) (h : Heap) (L : List Loc) : Prop := v = w ∧ Fr n0 L ∧ True
def own_QR (n0 : Nat) (h0 : Heap) (v : Option Value) (h : Heap) (L : List Loc) : Prop := ∃ b : Addr, v = some (.ref b) ∧ Fr n0 L ∧ Keep h0 h []
def own_Ends (p : Program) (e : Env) (below : List Frame) (s : State) (kc ks : Nat) (Q : Option Value → Heap → List Loc → Prop) (T : State) (g : JFrame) : Prop :=
  ∃ s₂ o, Steps p.tables e below (T.setTop g) s₂ ∧ s₂.status = .running ∧ Ended s₂ below o ∧ ∃ v L, o = .returned v ∧ Q v s₂.heap L ∧ FrameEnd s o s₂ L kc ks
theorem own_step {p : Program} {e : Env} {below : List Frame} {s : State} {kc ks : Nat} {Q : Option Value → Heap → List Loc → Prop} {T T' : State} {g g' : JFrame}
    (st : ∀ target, Steps p.tables e below (T'.setTop g') target → Steps p.tables e below (T.setTop g) target) (h : own_Ends p e below s kc ks Q T' g') : own_Ends p e below s kc ks Q T g := by
  obtain ⟨s₂, o, h1, r⟩ := h
  exact ⟨s₂, o, st _ h1, r⟩
theorem own_mono {p : Program} {e : Env} {below : List Frame} {s : State} {kc ks : Nat} {Q Q' : Option Value → Heap → List Loc → Prop} {T : State} {g : JFrame} (h : own_Ends p e below s kc ks Q T g) (hq : ∀ v h L, Q v h L → Q' v h L) : own_Ends p e below s kc ks Q' T g := by
  obtain ⟨s₂, o, h1, h2, h3, v, L, h4, h5, h6⟩ := h
  exact ⟨s₂, o, h1, h2, h3, v, L, h4, hq _ _ _ h5, h6⟩
theorem own_nn {v : Value} (h : v.isRef = true) (q : ¬ v = .null) : ∃ y, v = .ref y := (ref_cases h).resolve_left q
theorem own_eqR {Z : State} {args : Array Value} {X F : Term} {idx : List Nat} {y : Addr} (hF : F.eval args Z none idx Z = some (.ref y)) (h : (Cond.eq X F).value args Z none Z idx = some true) : X.eval args Z none idx Z = some (.ref y) := by
  obtain ⟨x, y', e1, e2, k1, k2⟩ := cmp_v (Or.inl h)
  cases hF.symm.trans e2
  have hx : x.isRef = true := k2.2
  have := gotT (eq_R e1 hF hx rfl) h
  exact e1.trans (congrArg some this)
theorem own_lmod (x y : Int64) : x - (x / y) * y = x % y := by
  apply Int64.toInt_inj.mp
  have h1 := Int64.le_toInt (x % y)
  have h2 := Int64.toInt_lt (x % y)
  rw [Int64.toInt_sub, Int64.toInt_mul, Int64.toInt_div, Int.bmod_mul_bmod, Int.sub_bmod_bmod, Int.mul_comm (x.toInt.tdiv y.toInt), ← Int.tmod_def, ← Int64.toInt_mod]
  exact Int.bmod_eq_of_le_mul_two (by omega) (by omega)
theorem own_lremM {p : Program} {l : Launch} {e : Env} {R : Room} {s : State} {m : MethodId} {args : Array Value} {below : List Frame} {meth : Method} {c : Code} {T target : State} {locs : List Loc} {cells slots : Nat} {g : JFrame} (X : Stand p l e R s m args below meth c T locs cells slots) (hx : p.tables.exec = Jvm.exec) (hg : g.method = m) {x y : Int64} {rest : List Value} (hd : decode c.code g.pc = .ok (.lrem, 1)) (hs : g.stack = .long y :: .long x :: rest) (hy : y ≠ 0)
    (hr : Steps p.tables e below (T.setTop { g with pc := g.pc + 1, stack := .long (x % y) :: rest }) target) : Steps p.tables e below (T.setTop g) target :=
  XS.lrem X.here hx hg hd hs hy (by rw [own_lmod]; exact hr)
section OwnRet
variable {p : Program} {l : Launch} {e : Env} {R : Room} {s : State} {m : MethodId} {args : Array Value} {below : List Frame} {meth : Method} {c : Code} {T : State} {locs : List Loc} {cells slots : Nat} {kc ks : Nat} {Q : Option Value → Heap → List Loc → Prop}
theorem own_retO (X : Stand p l e R s m args below meth c T locs cells slots) (hx : p.tables.exec = Jvm.exec) {t : FieldType} (hret : meth.sig.returnType = some t) (hlk : meth.locks = false) {pc : Nat} {Ls : Array Slot} {w : Value} {i : Instr} {rest : List Value} (hn : narrow t w = w)
    (hi : (i = .ireturn ∧ (t = .int ∨ t = .boolean ∨ t = .byte ∨ t = .char ∨ t = .short) ∧ ∃ z, w = .int z) ∨ (i = .lreturn ∧ t = .long ∧ ∃ z, w = .long z) ∨ (i = .dreturn ∧ t = .double ∧ ∃ z, w = .double z) ∨ (i = .freturn ∧ t = .float ∧ ∃ z, w = .float z) ∨ (i = .areturn ∧ t.isReference = true ∧ w.isRef = true))
    (hd : decode c.code pc = .ok (i, 1)) (hc : cells ≤ kc) (hs : slots ≤ ks) (hQ : Q (some w) T.heap locs) : own_Ends p e below s kc ks Q T (mkF m pc Ls (w :: rest)) := by
  obtain ⟨fs, hr, hrun, hended, hW, hsame⟩ := X.leave (v := some w) (fun h => by rw [hret] at h; cases h) hlk
  exact ⟨_, _, retOut X hx hret hn hi hd hr, hrun, hended, _, _, rfl, hQ, ⟨_, rfl⟩, hW, hsame.mono hc hs⟩
theorem own_retI (X : Stand p l e R s m args below meth c T locs cells slots) (hx : p.tables.exec = Jvm.exec) (hret : meth.sig.returnType = some .int) (hlk : meth.locks = false) {pc : Nat} {Ls : Array Slot} {z : Int32} {rest : List Value}
    (hd : decode c.code pc = .ok (.ireturn, 1)) (hc : cells ≤ kc) (hs : slots ≤ ks) (hQ : Q (some (.int z)) T.heap locs) : own_Ends p e below s kc ks Q T (mkF m pc Ls (.int z :: rest)) :=
  own_retO X hx hret hlk rfl (Or.inl ⟨rfl, Or.inl rfl, z, rfl⟩) hd hc hs hQ
theorem own_retJ (X : Stand p l e R s m args below meth c T locs cells slots) (hx : p.tables.exec = Jvm.exec) (hret : meth.sig.returnType = some .long) (hlk : meth.locks = false) {pc : Nat} {Ls : Array Slot} {z : Int64} {rest : List Value}
    (hd : decode c.code pc = .ok (.lreturn, 1)) (hc : cells ≤ kc) (hs : slots ≤ ks) (hQ : Q (some (.long z)) T.heap locs) : own_Ends p e below s kc ks Q T (mkF m pc Ls (.long z :: rest)) :=
  own_retO X hx hret hlk rfl (Or.inr (Or.inl ⟨rfl, rfl, z, rfl⟩)) hd hc hs hQ
theorem own_retR (X : Stand p l e R s m args below meth c T locs cells slots) (hx : p.tables.exec = Jvm.exec) {t : FieldType} (hret : meth.sig.returnType = some t) (hlk : meth.locks = false) {pc : Nat} {Ls : Array Slot} {w : Value} {rest : List Value}
    (hd : decode c.code pc = .ok (.areturn, 1)) (hc : cells ≤ kc) (hs : slots ≤ ks) (ht : t.isReference = true) (hw : w.isRef = true) (hQ : Q (some w) T.heap locs) : own_Ends p e below s kc ks Q T (mkF m pc Ls (w :: rest)) :=
  own_retO X hx hret hlk (by cases t <;> first | rfl | cases ht) (Or.inr (Or.inr (Or.inr (Or.inr ⟨rfl, ht, hw⟩)))) hd hc hs hQ
theorem own_retN (X : Stand p l e R s m args below meth c T locs cells slots) {t : FieldType} (hx : p.tables.exec = Jvm.exec) (hret : meth.sig.returnType = some t) (hlk : meth.locks = false) {pc : Nat} {Ls : Array Slot} {z : Int32} {rest : List Value}
    (hd : decode c.code pc = .ok (.ireturn, 1)) (hc : cells ≤ kc) (hs : slots ≤ ks) (ht : t = .boolean ∨ t = .byte ∨ t = .char ∨ t = .short) (hQ : Q (some (.int (nar t z))) T.heap locs) : own_Ends p e below s kc ks Q T (mkF m pc Ls (.int z :: rest)) := by
  obtain ⟨fs, hr, hrun, hended, hW, hsame⟩ := X.leave (v := some (.int (nar t z))) (fun h => by rw [hret] at h; cases h) hlk
  exact ⟨_, _, retN X hx hret ht hd hr, hrun, hended, _, _, rfl, hQ, ⟨_, rfl⟩, hW, hsame.mono hc hs⟩
theorem own_retV (X : Stand p l e R s m args below meth c T locs cells slots) (hx : p.tables.exec = Jvm.exec) (hret : meth.sig.returnType = none) (hlk : meth.locks = false) {pc : Nat} {Ls : Array Slot}
    (hd : decode c.code pc = .ok (.return_, 1)) (hc : cells ≤ kc) (hs : slots ≤ ks) (hQ : Q none T.heap locs) : own_Ends p e below s kc ks Q T (mkF m pc Ls []) := by
  obtain ⟨fs, hr, hrun, hended, hW, hsame⟩ := X.leave (v := none) (fun _ => rfl) hlk
  exact ⟨_, _, X.returnOut hx hret hd hr, hrun, hended, _, _, rfl, hQ, ⟨_, rfl⟩, hW, hsame.mono hc hs⟩
end OwnRet
/-! the same for a body that may load String constants (the wide frame) -/
def own_EndsW (p : Program) (e : Env) (below : List Frame) (s : State) (kc ks : Nat) (Q : Option Value → Heap → List Loc → Prop) (T : State) (g : JFrame) : Prop :=
  ∃ s₂ o, Steps p.tables e below (T.setTop g) s₂ ∧ s₂.status = .running ∧ Ended s₂ below o ∧ ∃ v L, o = .returned v ∧ Q v s₂.heap L ∧ ReturnedEndW s o s₂ L kc ks
theorem own_stepW {p : Program} {e : Env} {below : List Frame} {s : State} {kc ks : Nat} {Q : Option Value → Heap → List Loc → Prop} {T T' : State} {g g' : JFrame}
    (st : ∀ target, Steps p.tables e below (T'.setTop g') target → Steps p.tables e below (T.setTop g) target) (h : own_EndsW p e below s kc ks Q T' g') : own_EndsW p e below s kc ks Q T g := by
  obtain ⟨s₂, o, h1, r⟩ := h
  exact ⟨s₂, o, st _ h1, r⟩
section OwnRetW
variable {p : Program} {l : Launch} {e : Env} {R : Room} {s : State} {vm0 : Vm} {k0 : Nat} {m : MethodId} {args : Array Value} {below : List Frame} {meth : Method} {c : Code} {T : State} {locs : List Loc} {cells slots : Nat} {kc ks : Nat} {Q : Option Value → Heap → List Loc → Prop}
theorem own_retOW (X : Stand p l e R (s.setVm vm0) m args below meth c T locs cells slots) (hS : s.Since vm0 k0) (hk : k0 ≤ T.heap.size) (hx : p.tables.exec = Jvm.exec) {t : FieldType} (hret : meth.sig.returnType = some t) (hlk : meth.locks = false) {pc : Nat} {Ls : Array Slot} {w : Value} {i : Instr} {rest : List Value} (hn : narrow t w = w)
    (hi : (i = .ireturn ∧ (t = .int ∨ t = .boolean ∨ t = .byte ∨ t = .char ∨ t = .short) ∧ ∃ z, w = .int z) ∨ (i = .lreturn ∧ t = .long ∧ ∃ z, w = .long z) ∨ (i = .dreturn ∧ t = .double ∧ ∃ z, w = .double z) ∨ (i = .freturn ∧ t = .float ∧ ∃ z, w = .float z) ∨ (i = .areturn ∧ t.isReference = true ∧ w.isRef = true))
    (hd : decode c.code pc = .ok (i, 1)) (hc : cells ≤ kc) (hs : slots ≤ ks) (hQ : Q (some w) T.heap locs) : own_EndsW p e below s kc ks Q T (mkF m pc Ls (w :: rest)) := by
  obtain ⟨fs, hr, hrun, hended, e1, e2, e3, e4⟩ := X.leaveW hS hk (v := some w) (fun h => by rw [hret] at h; cases h) hlk
  exact ⟨_, _, retOut X hx hret hn hi hd hr, hrun, hended, _, _, rfl, hQ, e1, e2, e3, e4.mono hc hs⟩
theorem own_retRW (X : Stand p l e R (s.setVm vm0) m args below meth c T locs cells slots) (hS : s.Since vm0 k0) (hk : k0 ≤ T.heap.size) (hx : p.tables.exec = Jvm.exec) {t : FieldType} (hret : meth.sig.returnType = some t) (hlk : meth.locks = false) {pc : Nat} {Ls : Array Slot} {w : Value} {rest : List Value}
    (hd : decode c.code pc = .ok (.areturn, 1)) (hc : cells ≤ kc) (hs : slots ≤ ks) (ht : t.isReference = true) (hw : w.isRef = true) (hQ : Q (some w) T.heap locs) : own_EndsW p e below s kc ks Q T (mkF m pc Ls (w :: rest)) :=
  own_retOW X hS hk hx hret hlk (by cases t <;> first | rfl | cases ht) (Or.inr (Or.inr (Or.inr (Or.inr ⟨rfl, ht, hw⟩)))) hd hc hs hQ
theorem own_retNW (X : Stand p l e R (s.setVm vm0) m args below meth c T locs cells slots) (hS : s.Since vm0 k0) (hk : k0 ≤ T.heap.size) {t : FieldType} (hx : p.tables.exec = Jvm.exec) (hret : meth.sig.returnType = some t) (hlk : meth.locks = false) {pc : Nat} {Ls : Array Slot} {z : Int32} {rest : List Value}
    (hd : decode c.code pc = .ok (.ireturn, 1)) (hc : cells ≤ kc) (hs : slots ≤ ks) (ht : t = .boolean ∨ t = .byte ∨ t = .char ∨ t = .short) (hQ : Q (some (.int (nar t z))) T.heap locs) : own_EndsW p e below s kc ks Q T (mkF m pc Ls (.int z :: rest)) := by
  obtain ⟨fs, hr, hrun, hended, e1, e2, e3, e4⟩ := X.leaveW hS hk (v := some (.int (nar t z))) (fun h => by rw [hret] at h; cases h) hlk
  exact ⟨_, _, retN X hx hret ht hd hr, hrun, hended, _, _, rfl, hQ, e1, e2, e3, e4.mono hc hs⟩
end OwnRetW

theorem own_len {s : State} {args : Array Value} {t : Term} {w : Addr} {cl : Cell} {ty : FieldType} {z : Int32} (ew : t.eval args s none [] s = some (.ref w)) (A : Arr s s.heap w cl ty) (e : (Term.length t).eval args s none [] s = some (.int z)) : cl.slots.size = z.toNatClampNeg := by
  have hA : s.arrayAt? w = some cl := A.fin (Vm.Alike.refl _)
  simp only [Term.eval] at e
  simp [ew, hA] at e
  rw [← e.2]
  simp only [Int32.toNatClampNeg, len_toInt e.1]; rfl
theorem pn_0 : plainName "lomwright/lom/Datatype" = true := by first | (simp [plainName, overriddenIn]; done) | decide +kernel
theorem pn_1 : plainName "java/util/ImmutableCollections$ListN" = true := by first | (simp [plainName, overriddenIn]; done) | decide +kernel
theorem pn_2 : plainName "java/util/ImmutableCollections$List12" = true := by first | (simp [plainName, overriddenIn]; done) | decide +kernel
theorem pd_0 : parseMethodDescriptor "()Z" = some ⟨[], some .boolean⟩ := by decide +kernel
theorem pd_1 : parseMethodDescriptor "()Ljava/util/List;" = some ⟨[], some (.object "java/util/List")⟩ := by decide +kernel
theorem pd_2 : parseMethodDescriptor "()I" = some ⟨[], some .int⟩ := by decide +kernel
theorem pn_3 : plainName "lomwright/lom/DatatypeHoldsTextPinLaw" = true := by first | (simp [plainName, overriddenIn]; done) | decide +kernel
theorem d1_0 : decode prog_41_method_5_code 0 = .ok (.aload_n 0, 1) := by decide +kernel
theorem d1_1 : decode prog_41_method_5_code 1 = .ok (.getstatic 7, 3) := by decide +kernel
theorem d1_4 : decode prog_41_method_5_code 4 = .ok (.if_acmp .eq 17, 3) := by decide +kernel
theorem d1_7 : decode prog_41_method_5_code 7 = .ok (.aload_n 0, 1) := by decide +kernel
theorem d1_8 : decode prog_41_method_5_code 8 = .ok (.getstatic 10, 3) := by decide +kernel
theorem d1_11 : decode prog_41_method_5_code 11 = .ok (.if_acmp .eq 10, 3) := by decide +kernel
theorem d1_14 : decode prog_41_method_5_code 14 = .ok (.aload_n 0, 1) := by decide +kernel
theorem d1_15 : decode prog_41_method_5_code 15 = .ok (.getstatic 13, 3) := by decide +kernel
theorem d1_18 : decode prog_41_method_5_code 18 = .ok (.if_acmp .ne 7, 3) := by decide +kernel
theorem d1_21 : decode prog_41_method_5_code 21 = .ok (.iconst 1, 1) := by decide +kernel
theorem d1_22 : decode prog_41_method_5_code 22 = .ok (.goto 4, 3) := by decide +kernel
theorem d1_25 : decode prog_41_method_5_code 25 = .ok (.iconst 0, 1) := by decide +kernel
theorem d1_26 : decode prog_41_method_5_code 26 = .ok (.ireturn, 1) := by decide +kernel
def f1_0 (o0 : Addr) (wC : Addr) (wL : Addr) (wV : Addr) : Int32 := (if o0 = wC then (1 : Int32) else (if o0 = wL then (1 : Int32) else (if o0 = wV then (1 : Int32) else (0 : Int32))))
set_option maxRecDepth 65536 in
set_option maxHeartbeats 40000000 in
theorem b1_0 {p : Program} {l : Launch} {e : Env} {s : State} {m : MethodId} {args : Array Value} {below : List Frame} {meth : Method} {c : Code} {Z : State} {a0 : Array Value} {h0 : Heap} {n0 : Nat} (C : own_C "lomwright/lom/Datatype" prog_41_method_5_code 1 (some .boolean) "holdsText" p s m meth c Z a0) (Z0 : n0 ≤ h0.size) {T0 : State} {locs : List Loc} (X0 : Stand p l e ({ frames := 0, cells := 0, slots := 0, locals := 0 } : Room) s m args below meth c T0 locs 0 0) (e0 : T0.heap = h0) (N0 : Fr n0 locs) (o0 : Addr) (wC : Addr) (wL : Addr) (wV : Addr) (SC : Sta Z h0 "lomwright/lom/Datatype" "CHARACTER_STRING" "Llomwright/lom/Datatype;" (.ref wC)) (SL : Sta Z h0 "lomwright/lom/Datatype" "LANGUAGE_ID" "Llomwright/lom/Datatype;" (.ref wL)) (SV : Sta Z h0 "lomwright/lom/Datatype" "VCARD" "Llomwright/lom/Datatype;" (.ref wV)) (W : Int32) (hv : W = f1_0 o0 wC wL wV) :
    own_Ends p e below s ({ frames := 0, cells := 0, slots := 0, locals := 0 } : Room).cells ({ frames := 0, cells := 0, slots := 0, locals := 0 } : Room).slots (own_Q n0 h0 (some (.int W))) T0 (mkF m 0 #[.val (.ref o0)] []) := by
  obtain ⟨hx, hZ, hw, hby, hml, hown, hret, hlk, hnm⟩ := C
  have C : own_C "lomwright/lom/Datatype" prog_41_method_5_code 1 (some .boolean) "holdsText" p s m meth c Z a0 := ⟨hx, hZ, hw, hby, hml, hown, hret, hlk, hnm⟩
  unfold f1_0 at hv
  refine own_step (fun _ => XS.aloadN X0.here hx rfl (hb hby d1_0) rfl rfl) ?_
  show own_Ends p e below s _ _ _ T0 (mkF m 1 #[.val (.ref o0)] [(.ref o0)])
  obtain ⟨T4, X4, e4, st4⟩ := getS2 X0 hx hZ hown (host := "") (Or.inl (hw _ (List.mem_of_getElem? (i := 8) rfl))) Via.refl e0 SC (g := (mkF m 1 #[.val (.ref o0)] [(.ref o0)])) rfl (hb hby d1_1)
  refine own_step st4 ?_
  show own_Ends p e below s _ _ _ T4 (mkF m 4 #[.val (.ref o0)] [(.ref wC), (.ref o0)])
  by_cases hc4 : o0 = wC
  · have hv_t := hv.trans (if_pos hc4)
    refine own_step (fun _ => Jvm.RoadKit.acmp (g := (mkF m 4 #[.val (.ref o0)] [(.ref wC), (.ref o0)])) X4 hx rfl rfl rfl (pc0 := 4) (pc' := 21) (same := true) rfl (hb hby d1_4) rfl (decide_eq_true (congrArg Value.ref hc4)) (by decide) (by decide)) ?_
    show own_Ends p e below s _ _ _ T4 (mkF m 21 #[.val (.ref o0)] [])
    refine own_step (fun _ => XS.iconst X4.here hx rfl (hb hby d1_21)) ?_
    show own_Ends p e below s _ _ _ T4 (mkF m 22 #[.val (.ref o0)] [(.int (1 : Int32))])
    refine own_step (fun _ => XS.goto X4.here hx rfl (pc0 := 22) (pc' := 26) rfl (hb hby d1_22) (by decide) (by decide)) ?_
    show own_Ends p e below s _ _ _ T4 (mkF m 26 #[.val (.ref o0)] [(.int (1 : Int32))])
    exact own_retN X4 (t := .boolean) hx hret hlk (hb hby d1_26) (by decide) (by decide) (by simp) ⟨congrArg (fun z => some (Value.int z)) hv_t.symm, N0, e4⟩
  · have hv_f := hv.trans (if_neg hc4)
    refine own_step (fun _ => Jvm.RoadKit.acmp (g := (mkF m 4 #[.val (.ref o0)] [(.ref wC), (.ref o0)])) X4 hx rfl rfl rfl (pc0 := 4) (pc' := 7) (same := false) rfl (hb hby d1_4) rfl (decide_eq_false fun q => hc4 (Value.ref.inj q)) (by decide) (by decide)) ?_
    show own_Ends p e below s _ _ _ T4 (mkF m 7 #[.val (.ref o0)] [])
    refine own_step (fun _ => XS.aloadN X4.here hx rfl (hb hby d1_7) rfl rfl) ?_
    show own_Ends p e below s _ _ _ T4 (mkF m 8 #[.val (.ref o0)] [(.ref o0)])
    obtain ⟨T5, X5, e5, st5⟩ := getS2 X4 hx hZ hown (host := "") (Or.inl (hw _ (List.mem_of_getElem? (i := 10) rfl))) Via.refl e4 SL (g := (mkF m 8 #[.val (.ref o0)] [(.ref o0)])) rfl (hb hby d1_8)
    refine own_step st5 ?_
    show own_Ends p e below s _ _ _ T5 (mkF m 11 #[.val (.ref o0)] [(.ref wL), (.ref o0)])
    by_cases hc11 : o0 = wL
    · have hv_f_t := hv_f.trans (if_pos hc11)
      refine own_step (fun _ => Jvm.RoadKit.acmp (g := (mkF m 11 #[.val (.ref o0)] [(.ref wL), (.ref o0)])) X5 hx rfl rfl rfl (pc0 := 11) (pc' := 21) (same := true) rfl (hb hby d1_11) rfl (decide_eq_true (congrArg Value.ref hc11)) (by decide) (by decide)) ?_
      show own_Ends p e below s _ _ _ T5 (mkF m 21 #[.val (.ref o0)] [])
      refine own_step (fun _ => XS.iconst X5.here hx rfl (hb hby d1_21)) ?_
      show own_Ends p e below s _ _ _ T5 (mkF m 22 #[.val (.ref o0)] [(.int (1 : Int32))])
      refine own_step (fun _ => XS.goto X5.here hx rfl (pc0 := 22) (pc' := 26) rfl (hb hby d1_22) (by decide) (by decide)) ?_
      show own_Ends p e below s _ _ _ T5 (mkF m 26 #[.val (.ref o0)] [(.int (1 : Int32))])
      exact own_retN X5 (t := .boolean) hx hret hlk (hb hby d1_26) (by decide) (by decide) (by simp) ⟨congrArg (fun z => some (Value.int z)) hv_f_t.symm, N0, e5⟩
    · have hv_f_f := hv_f.trans (if_neg hc11)
      refine own_step (fun _ => Jvm.RoadKit.acmp (g := (mkF m 11 #[.val (.ref o0)] [(.ref wL), (.ref o0)])) X5 hx rfl rfl rfl (pc0 := 11) (pc' := 14) (same := false) rfl (hb hby d1_11) rfl (decide_eq_false fun q => hc11 (Value.ref.inj q)) (by decide) (by decide)) ?_
      show own_Ends p e below s _ _ _ T5 (mkF m 14 #[.val (.ref o0)] [])
      refine own_step (fun _ => XS.aloadN X5.here hx rfl (hb hby d1_14) rfl rfl) ?_
      show own_Ends p e below s _ _ _ T5 (mkF m 15 #[.val (.ref o0)] [(.ref o0)])
      obtain ⟨T6, X6, e6, st6⟩ := getS2 X5 hx hZ hown (host := "") (Or.inl (hw _ (List.mem_of_getElem? (i := 12) rfl))) Via.refl e5 SV (g := (mkF m 15 #[.val (.ref o0)] [(.ref o0)])) rfl (hb hby d1_15)
      refine own_step st6 ?_
      show own_Ends p e below s _ _ _ T6 (mkF m 18 #[.val (.ref o0)] [(.ref wV), (.ref o0)])
      by_cases hc18 : o0 = wV
      · have hv_f_f_t := hv_f_f.trans (if_pos hc18)
        refine own_step (fun _ => Jvm.RoadKit.acmp (g := (mkF m 18 #[.val (.ref o0)] [(.ref wV), (.ref o0)])) X6 hx rfl rfl rfl (pc0 := 18) (pc' := 21) (same := true) rfl (hb hby d1_18) rfl (decide_eq_true (congrArg Value.ref hc18)) (by decide) (by decide)) ?_
        show own_Ends p e below s _ _ _ T6 (mkF m 21 #[.val (.ref o0)] [])
        refine own_step (fun _ => XS.iconst X6.here hx rfl (hb hby d1_21)) ?_
        show own_Ends p e below s _ _ _ T6 (mkF m 22 #[.val (.ref o0)] [(.int (1 : Int32))])
        refine own_step (fun _ => XS.goto X6.here hx rfl (pc0 := 22) (pc' := 26) rfl (hb hby d1_22) (by decide) (by decide)) ?_
        show own_Ends p e below s _ _ _ T6 (mkF m 26 #[.val (.ref o0)] [(.int (1 : Int32))])
        exact own_retN X6 (t := .boolean) hx hret hlk (hb hby d1_26) (by decide) (by decide) (by simp) ⟨congrArg (fun z => some (Value.int z)) hv_f_f_t.symm, N0, e6⟩
      · have hv_f_f_f := hv_f_f.trans (if_neg hc18)
        refine own_step (fun _ => Jvm.RoadKit.acmp (g := (mkF m 18 #[.val (.ref o0)] [(.ref wV), (.ref o0)])) X6 hx rfl rfl rfl (pc0 := 18) (pc' := 25) (same := false) rfl (hb hby d1_18) rfl (decide_eq_false fun q => hc18 (Value.ref.inj q)) (by decide) (by decide)) ?_
        show own_Ends p e below s _ _ _ T6 (mkF m 25 #[.val (.ref o0)] [])
        refine own_step (fun _ => XS.iconst X6.here hx rfl (hb hby d1_25)) ?_
        show own_Ends p e below s _ _ _ T6 (mkF m 26 #[.val (.ref o0)] [(.int (0 : Int32))])
        exact own_retN X6 (t := .boolean) hx hret hlk (hb hby d1_26) (by decide) (by decide) (by simp) ⟨congrArg (fun z => some (Value.int z)) hv_f_f_f.symm, N0, e6⟩
theorem ef_rm1 (m : MethodId) (o0 : Addr) : entryFrame m #[(.ref o0)] 1 = mkF m 0 #[.val (.ref o0)] [] := by first | (simp [entryFrame, mkF, argsToLocals, Value.category]; done) | rfl
set_option maxRecDepth 65536 in
set_option maxHeartbeats 40000000 in
theorem rm1 (l : Launch) (Z : State) (a0 : Array Value) (hw : ∀ d ∈ tables_1, d.before a0 Z = true) (ws : List Jvm.Cond) (o0 : Addr) (wC : Addr) (wL : Addr) (wV : Addr) (h0 : Heap) (n0 : Nat) (Z0 : n0 ≤ h0.size) (SC : Sta Z h0 "lomwright/lom/Datatype" "CHARACTER_STRING" "Llomwright/lom/Datatype;" (.ref wC)) (SL : Sta Z h0 "lomwright/lom/Datatype" "LANGUAGE_ID" "Llomwright/lom/Datatype;" (.ref wL)) (SV : Sta Z h0 "lomwright/lom/Datatype" "VCARD" "Llomwright/lom/Datatype;" (.ref wV)) :
    MetFree l (⟨"lomwright/lom/Datatype", "holdsText", "()Z"⟩ : MethodName) (head1 (Jvm.Cond.code (⟨"lomwright/lom/Datatype", "holdsText", "()Z"⟩ : MethodName) prog_41_method_5_code 1 (some .boolean) :: ws) ({ frames := 0, cells := 0, slots := 0, locals := 0 } : Room)) (fun a U => a = #[(.ref o0)] ∧ Z.Warmed39 U.vm ∧ U.heap = h0) (fun _ _ _ _ _ => True) (fun _ U o U' => ∃ v L, o = .returned v ∧ (own_Q n0 h0 (some (.int (f1_0 o0 wC wL wV)))) v U'.heap L ∧ FrameEnd U o U' L ({ frames := 0, cells := 0, slots := 0, locals := 0 } : Room).cells ({ frames := 0, cells := 0, slots := 0, locals := 0 } : Room).slots) := by
  refine MetFree.of_bodySF (plainFor_of_name pn_0) hisR ?_
  intro p e s m args below meth c s₁ Bd hml0 hP hK
  obtain ⟨rfl, hZ, hh⟩ := hP
  have X0 : Stand p l e ({ frames := 0, cells := 0, slots := 0, locals := 0 } : Room) s m #[(.ref o0)] below meth c s₁ [] 0 0 := Stand.of_body Bd
  have e0 : s₁.heap = h0 := by rw [← hh, Bd.state]; rfl
  have C : own_C "lomwright/lom/Datatype" prog_41_method_5_code 1 (some .boolean) "holdsText" p s m meth c Z a0 := ⟨Bd.exec, hZ, hw, Bd.bytes, hml0, findClass_of_methodNamed Bd.named, Bd.returns, Bd.notSynchronized, (name_of_methodNamed Bd.named Bd.method).1⟩
  have r := b1_0 C Z0 X0 e0 (Fr.nil n0) o0 wC wL wV SC SL SV _ rfl
  rw [ef_rm1 m o0]
  exact r
theorem d2_0 : decode prog_41_method_4_code 0 = .ok (.aload_n 0, 1) := by decide +kernel
theorem d2_1 : decode prog_41_method_4_code 1 = .ok (.getfield 53, 3) := by decide +kernel
theorem d2_4 : decode prog_41_method_4_code 4 = .ok (.areturn, 1) := by decide +kernel
def f2_0 (o0 : Addr) (ls : Addr) : Addr := ls
set_option maxRecDepth 65536 in
set_option maxHeartbeats 40000000 in
theorem b2_0 {p : Program} {l : Launch} {e : Env} {s : State} {m : MethodId} {args : Array Value} {below : List Frame} {meth : Method} {c : Code} {Z : State} {a0 : Array Value} {h0 : Heap} {n0 : Nat} (C : own_C "lomwright/lom/Datatype" prog_41_method_4_code 1 (some (.object "java/util/List")) "components" p s m meth c Z a0) (Z0 : n0 ≤ h0.size) {T0 : State} {locs : List Loc} (X0 : Stand p l e ({ frames := 0, cells := 0, slots := 0, locals := 0 } : Room) s m args below meth c T0 locs 0 0) (e0 : T0.heap = h0) (N0 : Fr n0 locs) (o0 : Addr) (ls : Addr) (Fl : Fld Z h0 o0 "lomwright/lom/Datatype" "components" "Ljava/util/List;" (.ref ls)) (W : Addr) (hv : W = f2_0 o0 ls) :
    own_Ends p e below s ({ frames := 0, cells := 0, slots := 0, locals := 0 } : Room).cells ({ frames := 0, cells := 0, slots := 0, locals := 0 } : Room).slots (own_Q n0 h0 (some (.ref W))) T0 (mkF m 0 #[.val (.ref o0)] []) := by
  obtain ⟨hx, hZ, hw, hby, hml, hown, hret, hlk, hnm⟩ := C
  have C : own_C "lomwright/lom/Datatype" prog_41_method_4_code 1 (some (.object "java/util/List")) "components" p s m meth c Z a0 := ⟨hx, hZ, hw, hby, hml, hown, hret, hlk, hnm⟩
  unfold f2_0 at hv
  refine own_step (fun _ => XS.aloadN X0.here hx rfl (hb hby d2_0) rfl rfl) ?_
  show own_Ends p e below s _ _ _ T0 (mkF m 1 #[.val (.ref o0)] [(.ref o0)])
  obtain ⟨T2, X2, e2, st2⟩ := getF X0 hx hZ hown (host := "") (Or.inl (hw _ (List.mem_of_getElem? (i := 19) rfl))) Via.refl e0 Fl (g := (mkF m 1 #[.val (.ref o0)] [(.ref o0)])) rfl rfl (hb hby d2_1)
  refine own_step st2 ?_
  show own_Ends p e below s _ _ _ T2 (mkF m 4 #[.val (.ref o0)] [(.ref ls)])
  exact own_retR X2 hx hret hlk (hb hby d2_4) (by decide) (by decide) rfl rfl ⟨congrArg (fun z => some (Value.ref z)) hv.symm, N0, e2⟩
theorem ef_rm2 (m : MethodId) (o0 : Addr) : entryFrame m #[(.ref o0)] 1 = mkF m 0 #[.val (.ref o0)] [] := by first | (simp [entryFrame, mkF, argsToLocals, Value.category]; done) | rfl
set_option maxRecDepth 65536 in
set_option maxHeartbeats 40000000 in
theorem rm2 (l : Launch) (Z : State) (a0 : Array Value) (hw : ∀ d ∈ tables_1, d.before a0 Z = true) (ws : List Jvm.Cond) (o0 : Addr) (ls : Addr) (h0 : Heap) (n0 : Nat) (Z0 : n0 ≤ h0.size) (Fl : Fld Z h0 o0 "lomwright/lom/Datatype" "components" "Ljava/util/List;" (.ref ls)) :
    MetFree l (⟨"lomwright/lom/Datatype", "components", "()Ljava/util/List;"⟩ : MethodName) (head1 (Jvm.Cond.code (⟨"lomwright/lom/Datatype", "components", "()Ljava/util/List;"⟩ : MethodName) prog_41_method_4_code 1 (some (.object "java/util/List")) :: ws) ({ frames := 0, cells := 0, slots := 0, locals := 0 } : Room)) (fun a U => a = #[(.ref o0)] ∧ Z.Warmed39 U.vm ∧ U.heap = h0) (fun _ _ _ _ _ => True) (fun _ U o U' => ∃ v L, o = .returned v ∧ (own_Q n0 h0 (some (.ref (f2_0 o0 ls)))) v U'.heap L ∧ FrameEnd U o U' L ({ frames := 0, cells := 0, slots := 0, locals := 0 } : Room).cells ({ frames := 0, cells := 0, slots := 0, locals := 0 } : Room).slots) := by
  refine MetFree.of_bodySF (plainFor_of_name pn_0) hisR ?_
  intro p e s m args below meth c s₁ Bd hml0 hP hK
  obtain ⟨rfl, hZ, hh⟩ := hP
  have X0 : Stand p l e ({ frames := 0, cells := 0, slots := 0, locals := 0 } : Room) s m #[(.ref o0)] below meth c s₁ [] 0 0 := Stand.of_body Bd
  have e0 : s₁.heap = h0 := by rw [← hh, Bd.state]; rfl
  have C : own_C "lomwright/lom/Datatype" prog_41_method_4_code 1 (some (.object "java/util/List")) "components" p s m meth c Z a0 := ⟨Bd.exec, hZ, hw, Bd.bytes, hml0, findClass_of_methodNamed Bd.named, Bd.returns, Bd.notSynchronized, (name_of_methodNamed Bd.named Bd.method).1⟩
  have r := b2_0 C Z0 X0 e0 (Fr.nil n0) o0 ls Fl _ rfl
  rw [ef_rm2 m o0]
  exact r
theorem d3_0 : decode jdk_45_method_3_code 0 = .ok (.aload_n 0, 1) := by decide +kernel
theorem d3_1 : decode jdk_45_method_3_code 1 = .ok (.getfield 7, 3) := by decide +kernel
theorem d3_4 : decode jdk_45_method_3_code 4 = .ok (.arraylength, 1) := by decide +kernel
theorem d3_5 : decode jdk_45_method_3_code 5 = .ok (.ireturn, 1) := by decide +kernel
def f3_0 (o0 : Addr) (el : Addr) (ce : Cell) : Int32 := (0 : Int32)
set_option maxRecDepth 65536 in
set_option maxHeartbeats 40000000 in
theorem b3_0 {p : Program} {l : Launch} {e : Env} {s : State} {m : MethodId} {args : Array Value} {below : List Frame} {meth : Method} {c : Code} {Z : State} {a0 : Array Value} {h0 : Heap} {n0 : Nat} (C : own_C "java/util/ImmutableCollections$ListN" jdk_45_method_3_code 1 (some .int) "size" p s m meth c Z a0) (Z0 : n0 ≤ h0.size) {T0 : State} {locs : List Loc} (X0 : Stand p l e ({ frames := 0, cells := 0, slots := 0, locals := 0 } : Room) s m args below meth c T0 locs 0 0) (e0 : T0.heap = h0) (N0 : Fr n0 locs) (o0 : Addr) (el : Addr) (ce : Cell) (Fe : Fld Z h0 o0 "java/util/ImmutableCollections$ListN" "elements" "[Ljava/lang/Object;" (.ref el)) (Ae : Arr Z h0 el ce (.object "java/lang/Object")) (Sz : ce.slots.size = (0 : Int32).toNatClampNeg) (W : Int32) (hv : W = f3_0 o0 el ce) :
    own_Ends p e below s ({ frames := 0, cells := 0, slots := 0, locals := 0 } : Room).cells ({ frames := 0, cells := 0, slots := 0, locals := 0 } : Room).slots (own_Q n0 h0 (some (.int W))) T0 (mkF m 0 #[.val (.ref o0)] []) := by
  obtain ⟨hx, hZ, hw, hby, hml, hown, hret, hlk, hnm⟩ := C
  have C : own_C "java/util/ImmutableCollections$ListN" jdk_45_method_3_code 1 (some .int) "size" p s m meth c Z a0 := ⟨hx, hZ, hw, hby, hml, hown, hret, hlk, hnm⟩
  unfold f3_0 at hv
  refine own_step (fun _ => XS.aloadN X0.here hx rfl (hb hby d3_0) rfl rfl) ?_
  show own_Ends p e below s _ _ _ T0 (mkF m 1 #[.val (.ref o0)] [(.ref o0)])
  obtain ⟨T2, X2, e2, st2⟩ := getF X0 hx hZ hown (host := "") (Or.inl (hw _ (List.mem_of_getElem? (i := 31) rfl))) Via.refl e0 Fe (g := (mkF m 1 #[.val (.ref o0)] [(.ref o0)])) rfl rfl (hb hby d3_1)
  refine own_step st2 ?_
  show own_Ends p e below s _ _ _ T2 (mkF m 4 #[.val (.ref o0)] [(.ref el)])
  refine own_step (fun _ => X2.arraylength hx (by rw [e2]; exact Ae.1) (State.isArrayOf_alike hZ.alike Ae.2.1) (g := (mkF m 4 #[.val (.ref o0)] [(.ref el)])) rfl rfl (hb hby d3_4) _) ?_
  rw [len_of Sz (by decide)]
  show own_Ends p e below s _ _ _ T2 (mkF m 5 #[.val (.ref o0)] [(.int (0 : Int32))])
  exact own_retI X2 hx hret hlk (hb hby d3_5) (by decide) (by decide) ⟨congrArg (fun z => some (Value.int z)) hv.symm, N0, e2⟩
theorem ef_rm3 (m : MethodId) (o0 : Addr) : entryFrame m #[(.ref o0)] 1 = mkF m 0 #[.val (.ref o0)] [] := by first | (simp [entryFrame, mkF, argsToLocals, Value.category]; done) | rfl
set_option maxRecDepth 65536 in
set_option maxHeartbeats 40000000 in
theorem rm3 (l : Launch) (Z : State) (a0 : Array Value) (hw : ∀ d ∈ tables_1, d.before a0 Z = true) (ws : List Jvm.Cond) (o0 : Addr) (el : Addr) (ce : Cell) (h0 : Heap) (n0 : Nat) (Z0 : n0 ≤ h0.size) (Fe : Fld Z h0 o0 "java/util/ImmutableCollections$ListN" "elements" "[Ljava/lang/Object;" (.ref el)) (Ae : Arr Z h0 el ce (.object "java/lang/Object")) (Sz : ce.slots.size = (0 : Int32).toNatClampNeg) :
    MetFree l (⟨"java/util/ImmutableCollections$ListN", "size", "()I"⟩ : MethodName) (head1 (Jvm.Cond.code (⟨"java/util/ImmutableCollections$ListN", "size", "()I"⟩ : MethodName) jdk_45_method_3_code 1 (some .int) :: ws) ({ frames := 0, cells := 0, slots := 0, locals := 0 } : Room)) (fun a U => a = #[(.ref o0)] ∧ Z.Warmed39 U.vm ∧ U.heap = h0) (fun _ _ _ _ _ => True) (fun _ U o U' => ∃ v L, o = .returned v ∧ (own_Q n0 h0 (some (.int (f3_0 o0 el ce)))) v U'.heap L ∧ FrameEnd U o U' L ({ frames := 0, cells := 0, slots := 0, locals := 0 } : Room).cells ({ frames := 0, cells := 0, slots := 0, locals := 0 } : Room).slots) := by
  refine MetFree.of_bodySF (plainFor_of_name pn_1) hisR ?_
  intro p e s m args below meth c s₁ Bd hml0 hP hK
  obtain ⟨rfl, hZ, hh⟩ := hP
  have X0 : Stand p l e ({ frames := 0, cells := 0, slots := 0, locals := 0 } : Room) s m #[(.ref o0)] below meth c s₁ [] 0 0 := Stand.of_body Bd
  have e0 : s₁.heap = h0 := by rw [← hh, Bd.state]; rfl
  have C : own_C "java/util/ImmutableCollections$ListN" jdk_45_method_3_code 1 (some .int) "size" p s m meth c Z a0 := ⟨Bd.exec, hZ, hw, Bd.bytes, hml0, findClass_of_methodNamed Bd.named, Bd.returns, Bd.notSynchronized, (name_of_methodNamed Bd.named Bd.method).1⟩
  have r := b3_0 C Z0 X0 e0 (Fr.nil n0) o0 el ce Fe Ae Sz _ rfl
  rw [ef_rm3 m o0]
  exact r
theorem d4_0 : decode jdk_44_method_3_code 0 = .ok (.aload_n 0, 1) := by decide +kernel
theorem d4_1 : decode jdk_44_method_3_code 1 = .ok (.getfield 24, 3) := by decide +kernel
theorem d4_4 : decode jdk_44_method_3_code 4 = .ok (.getstatic 19, 3) := by decide +kernel
theorem d4_7 : decode jdk_44_method_3_code 7 = .ok (.if_acmp .eq 7, 3) := by decide +kernel
theorem d4_10 : decode jdk_44_method_3_code 10 = .ok (.iconst 2, 1) := by decide +kernel
theorem d4_11 : decode jdk_44_method_3_code 11 = .ok (.goto 4, 3) := by decide +kernel
theorem d4_14 : decode jdk_44_method_3_code 14 = .ok (.iconst 1, 1) := by decide +kernel
theorem d4_15 : decode jdk_44_method_3_code 15 = .ok (.ireturn, 1) := by decide +kernel
def f4_0 (o0 : Addr) (x1 : Addr) (wE : Addr) : Int32 := (if x1 = wE then (1 : Int32) else (2 : Int32))
set_option maxRecDepth 65536 in
set_option maxHeartbeats 40000000 in
theorem b4_0 {p : Program} {l : Launch} {e : Env} {s : State} {m : MethodId} {args : Array Value} {below : List Frame} {meth : Method} {c : Code} {Z : State} {a0 : Array Value} {h0 : Heap} {n0 : Nat} (C : own_C "java/util/ImmutableCollections$List12" jdk_44_method_3_code 1 (some .int) "size" p s m meth c Z a0) (Z0 : n0 ≤ h0.size) {T0 : State} {locs : List Loc} (X0 : Stand p l e ({ frames := 0, cells := 0, slots := 0, locals := 0 } : Room) s m args below meth c T0 locs 0 0) (e0 : T0.heap = h0) (N0 : Fr n0 locs) (o0 : Addr) (x1 : Addr) (wE : Addr) (F1 : Fld Z h0 o0 "java/util/ImmutableCollections$List12" "e1" "Ljava/lang/Object;" (.ref x1)) (SE : Sta Z h0 "java/util/ImmutableCollections" "EMPTY" "Ljava/lang/Object;" (.ref wE)) (W : Int32) (hv : W = f4_0 o0 x1 wE) :
    own_Ends p e below s ({ frames := 0, cells := 0, slots := 0, locals := 0 } : Room).cells ({ frames := 0, cells := 0, slots := 0, locals := 0 } : Room).slots (own_Q n0 h0 (some (.int W))) T0 (mkF m 0 #[.val (.ref o0)] []) := by
  obtain ⟨hx, hZ, hw, hby, hml, hown, hret, hlk, hnm⟩ := C
  have C : own_C "java/util/ImmutableCollections$List12" jdk_44_method_3_code 1 (some .int) "size" p s m meth c Z a0 := ⟨hx, hZ, hw, hby, hml, hown, hret, hlk, hnm⟩
  unfold f4_0 at hv
  refine own_step (fun _ => XS.aloadN X0.here hx rfl (hb hby d4_0) rfl rfl) ?_
  show own_Ends p e below s _ _ _ T0 (mkF m 1 #[.val (.ref o0)] [(.ref o0)])
  obtain ⟨T3, X3, e3, st3⟩ := getF X0 hx hZ hown (host := "") (Or.inl (hw _ (List.mem_of_getElem? (i := 43) rfl))) Via.refl e0 F1 (g := (mkF m 1 #[.val (.ref o0)] [(.ref o0)])) rfl rfl (hb hby d4_1)
  refine own_step st3 ?_
  show own_Ends p e below s _ _ _ T3 (mkF m 4 #[.val (.ref o0)] [(.ref x1)])
  obtain ⟨T4, X4, e4, st4⟩ := getS2 X3 hx hZ hown (Or.inr (hw _ (List.mem_of_getElem? (i := 45) rfl))) Via.refl e3 SE (g := (mkF m 4 #[.val (.ref o0)] [(.ref x1)])) rfl (hb hby d4_4)
  refine own_step st4 ?_
  show own_Ends p e below s _ _ _ T4 (mkF m 7 #[.val (.ref o0)] [(.ref wE), (.ref x1)])
  by_cases hc7 : x1 = wE
  · have hv_t := hv.trans (if_pos hc7)
    refine own_step (fun _ => Jvm.RoadKit.acmp (g := (mkF m 7 #[.val (.ref o0)] [(.ref wE), (.ref x1)])) X4 hx rfl rfl rfl (pc0 := 7) (pc' := 14) (same := true) rfl (hb hby d4_7) rfl (decide_eq_true (congrArg Value.ref hc7)) (by decide) (by decide)) ?_
    show own_Ends p e below s _ _ _ T4 (mkF m 14 #[.val (.ref o0)] [])
    refine own_step (fun _ => XS.iconst X4.here hx rfl (hb hby d4_14)) ?_
    show own_Ends p e below s _ _ _ T4 (mkF m 15 #[.val (.ref o0)] [(.int (1 : Int32))])
    exact own_retI X4 hx hret hlk (hb hby d4_15) (by decide) (by decide) ⟨congrArg (fun z => some (Value.int z)) hv_t.symm, N0, e4⟩
  · have hv_f := hv.trans (if_neg hc7)
    refine own_step (fun _ => Jvm.RoadKit.acmp (g := (mkF m 7 #[.val (.ref o0)] [(.ref wE), (.ref x1)])) X4 hx rfl rfl rfl (pc0 := 7) (pc' := 10) (same := false) rfl (hb hby d4_7) rfl (decide_eq_false fun q => hc7 (Value.ref.inj q)) (by decide) (by decide)) ?_
    show own_Ends p e below s _ _ _ T4 (mkF m 10 #[.val (.ref o0)] [])
    refine own_step (fun _ => XS.iconst X4.here hx rfl (hb hby d4_10)) ?_
    show own_Ends p e below s _ _ _ T4 (mkF m 11 #[.val (.ref o0)] [(.int (2 : Int32))])
    refine own_step (fun _ => XS.goto X4.here hx rfl (pc0 := 11) (pc' := 15) rfl (hb hby d4_11) (by decide) (by decide)) ?_
    show own_Ends p e below s _ _ _ T4 (mkF m 15 #[.val (.ref o0)] [(.int (2 : Int32))])
    exact own_retI X4 hx hret hlk (hb hby d4_15) (by decide) (by decide) ⟨congrArg (fun z => some (Value.int z)) hv_f.symm, N0, e4⟩
theorem ef_rm4 (m : MethodId) (o0 : Addr) : entryFrame m #[(.ref o0)] 1 = mkF m 0 #[.val (.ref o0)] [] := by first | (simp [entryFrame, mkF, argsToLocals, Value.category]; done) | rfl
set_option maxRecDepth 65536 in
set_option maxHeartbeats 40000000 in
theorem rm4 (l : Launch) (Z : State) (a0 : Array Value) (hw : ∀ d ∈ tables_1, d.before a0 Z = true) (ws : List Jvm.Cond) (o0 : Addr) (x1 : Addr) (wE : Addr) (h0 : Heap) (n0 : Nat) (Z0 : n0 ≤ h0.size) (F1 : Fld Z h0 o0 "java/util/ImmutableCollections$List12" "e1" "Ljava/lang/Object;" (.ref x1)) (SE : Sta Z h0 "java/util/ImmutableCollections" "EMPTY" "Ljava/lang/Object;" (.ref wE)) :
    MetFree l (⟨"java/util/ImmutableCollections$List12", "size", "()I"⟩ : MethodName) (head1 (Jvm.Cond.code (⟨"java/util/ImmutableCollections$List12", "size", "()I"⟩ : MethodName) jdk_44_method_3_code 1 (some .int) :: ws) ({ frames := 0, cells := 0, slots := 0, locals := 0 } : Room)) (fun a U => a = #[(.ref o0)] ∧ Z.Warmed39 U.vm ∧ U.heap = h0) (fun _ _ _ _ _ => True) (fun _ U o U' => ∃ v L, o = .returned v ∧ (own_Q n0 h0 (some (.int (f4_0 o0 x1 wE)))) v U'.heap L ∧ FrameEnd U o U' L ({ frames := 0, cells := 0, slots := 0, locals := 0 } : Room).cells ({ frames := 0, cells := 0, slots := 0, locals := 0 } : Room).slots) := by
  refine MetFree.of_bodySF (plainFor_of_name pn_2) hisR ?_
  intro p e s m args below meth c s₁ Bd hml0 hP hK
  obtain ⟨rfl, hZ, hh⟩ := hP
  have X0 : Stand p l e ({ frames := 0, cells := 0, slots := 0, locals := 0 } : Room) s m #[(.ref o0)] below meth c s₁ [] 0 0 := Stand.of_body Bd
  have e0 : s₁.heap = h0 := by rw [← hh, Bd.state]; rfl
  have C : own_C "java/util/ImmutableCollections$List12" jdk_44_method_3_code 1 (some .int) "size" p s m meth c Z a0 := ⟨Bd.exec, hZ, hw, Bd.bytes, hml0, findClass_of_methodNamed Bd.named, Bd.returns, Bd.notSynchronized, (name_of_methodNamed Bd.named Bd.method).1⟩
  have r := b4_0 C Z0 X0 e0 (Fr.nil n0) o0 x1 wE F1 SE _ rfl
  rw [ef_rm4 m o0]
  exact r
def f0_0 (i0 : Int32) (w1 : Addr) (w7 : Addr) (w13 : Addr) (w27 : Addr) (w37 : Addr) (w67 : Addr) (w89 : Addr) (w117 : Addr) (w137 : Addr) (w47 : Addr) (w53 : Addr) (w77 : Addr) (w83 : Addr) (w99 : Addr) (w127 : Addr) (w147 : Addr) (w151 : Addr) (c57 : Cell) : Int32 := (if (i0 &&& (7 : Int32)) = (0 : Int32) then (if (f1_0 w7 w13 w27 w37) = (0 : Int32) then (if (f1_0 w7 w13 w27 w37) = (0 : Int32) then (1 : Int32) else (0 : Int32)) else (0 : Int32)) else (if (i0 &&& (7 : Int32)) = (1 : Int32) then (if w13 = w7 then (if (f1_0 w13 w13 w27 w37) = (1 : Int32) then (if (f1_0 w13 w13 w27 w37) = (0 : Int32) then (1 : Int32) else (0 : Int32)) else (0 : Int32)) else (if (f1_0 w13 w13 w27 w37) = (1 : Int32) then (if (f1_0 w13 w13 w27 w37) = (1 : Int32) then (1 : Int32) else (0 : Int32)) else (0 : Int32))) else (if (i0 &&& (7 : Int32)) = (2 : Int32) then (if w27 = w7 then (if (f1_0 w27 w13 w27 w37) = (1 : Int32) then (if (f1_0 w27 w13 w27 w37) = (0 : Int32) then (1 : Int32) else (0 : Int32)) else (0 : Int32)) else (if (f1_0 w27 w13 w27 w37) = (1 : Int32) then (if (f1_0 w27 w13 w27 w37) = (1 : Int32) then (1 : Int32) else (0 : Int32)) else (0 : Int32))) else (if (i0 &&& (7 : Int32)) = (3 : Int32) then (if w37 = w7 then (if (f1_0 w37 w13 w27 w37) = (1 : Int32) then (if (f1_0 w37 w13 w27 w37) = (0 : Int32) then (1 : Int32) else (0 : Int32)) else (0 : Int32)) else (if (f1_0 w37 w13 w27 w37) = (1 : Int32) then (if (f1_0 w37 w13 w27 w37) = (1 : Int32) then (1 : Int32) else (0 : Int32)) else (0 : Int32))) else (if (i0 &&& (7 : Int32)) = (4 : Int32) then (if (f4_0 w127 w1 w1) = (0 : Int32) then (if w117 = w7 then (if (f1_0 w117 w13 w27 w37) = (0 : Int32) then (if (f1_0 w117 w13 w27 w37) = (0 : Int32) then (1 : Int32) else (0 : Int32)) else (0 : Int32)) else (if (f1_0 w117 w13 w27 w37) = (0 : Int32) then (if (f1_0 w117 w13 w27 w37) = (1 : Int32) then (1 : Int32) else (0 : Int32)) else (0 : Int32))) else (if (f1_0 w117 w13 w27 w37) = (0 : Int32) then (if (f1_0 w117 w13 w27 w37) = (0 : Int32) then (1 : Int32) else (0 : Int32)) else (0 : Int32))) else (if (i0 &&& (7 : Int32)) = (5 : Int32) then (if (f4_0 w147 w151 w1) = (0 : Int32) then (if w137 = w7 then (if (f1_0 w137 w13 w27 w37) = (0 : Int32) then (if (f1_0 w137 w13 w27 w37) = (0 : Int32) then (1 : Int32) else (0 : Int32)) else (0 : Int32)) else (if (f1_0 w137 w13 w27 w37) = (0 : Int32) then (if (f1_0 w137 w13 w27 w37) = (1 : Int32) then (1 : Int32) else (0 : Int32)) else (0 : Int32))) else (if (f1_0 w137 w13 w27 w37) = (0 : Int32) then (if (f1_0 w137 w13 w27 w37) = (0 : Int32) then (1 : Int32) else (0 : Int32)) else (0 : Int32))) else (if (i0 &&& (7 : Int32)) = (6 : Int32) then (if (f4_0 w77 w83 w1) = (0 : Int32) then (if w67 = w7 then (if (f1_0 w67 w13 w27 w37) = (0 : Int32) then (if (f1_0 w67 w13 w27 w37) = (0 : Int32) then (1 : Int32) else (0 : Int32)) else (0 : Int32)) else (if (f1_0 w67 w13 w27 w37) = (0 : Int32) then (if (f1_0 w67 w13 w27 w37) = (1 : Int32) then (1 : Int32) else (0 : Int32)) else (0 : Int32))) else (if (f1_0 w67 w13 w27 w37) = (0 : Int32) then (if (f1_0 w67 w13 w27 w37) = (0 : Int32) then (1 : Int32) else (0 : Int32)) else (0 : Int32))) else (if (f4_0 w99 w83 w1) = (0 : Int32) then (if w89 = w7 then (if (f1_0 w89 w13 w27 w37) = (0 : Int32) then (if (f1_0 w89 w13 w27 w37) = (0 : Int32) then (1 : Int32) else (0 : Int32)) else (0 : Int32)) else (if (f1_0 w89 w13 w27 w37) = (0 : Int32) then (if (f1_0 w89 w13 w27 w37) = (1 : Int32) then (1 : Int32) else (0 : Int32)) else (0 : Int32))) else (if (f1_0 w89 w13 w27 w37) = (0 : Int32) then (if (f1_0 w89 w13 w27 w37) = (0 : Int32) then (1 : Int32) else (0 : Int32)) else (0 : Int32))))))))))
set_option maxRecDepth 65536 in
set_option maxHeartbeats 40000000 in
theorem b0_0 {p : Program} {l : Launch} {e : Env} {s : State} {m : MethodId} {args : Array Value} {below : List Frame} {meth : Method} {c : Code} {Z : State} {a0 : Array Value} {h0 : Heap} {n0 : Nat} (C : own_C "lomwright/lom/DatatypeHoldsTextPinLaw" code maxLocals ret x.name p s m meth c Z a0) (Z0 : n0 ≤ h0.size) {T0 : State} {locs : List Loc} (X0 : Stand p l e room_1 s m args below meth c T0 locs 0 0) (e0 : T0.heap = h0) (N0 : Fr n0 locs) (i0 : Int32) (w1 : Addr) (w7 : Addr) (w13 : Addr) (w27 : Addr) (w37 : Addr) (w67 : Addr) (w89 : Addr) (w117 : Addr) (w137 : Addr) (w47 : Addr) (w53 : Addr) (w77 : Addr) (w83 : Addr) (w99 : Addr) (w127 : Addr) (w147 : Addr) (w151 : Addr) (c57 : Cell) (S3 : Sta Z h0 "java/util/ImmutableCollections" "EMPTY" "Ljava/lang/Object;" (.ref w1)) (E4 : Exa Z h0 w1 "java/lang/Object") (S9 : Sta Z h0 "lomwright/lom/Datatype" "AGGREGATE" "Llomwright/lom/Datatype;" (.ref w7)) (E10 : Exa Z h0 w7 "lomwright/lom/Datatype") (S15 : Sta Z h0 "lomwright/lom/Datatype" "CHARACTER_STRING" "Llomwright/lom/Datatype;" (.ref w13)) (E16 : Exa Z h0 w13 "lomwright/lom/Datatype") (F20 : Fld Z h0 w7 "java/lang/Enum" "ordinal" "I" (.int (0 : Int32))) (F24 : Fld Z h0 w13 "java/lang/Enum" "ordinal" "I" (.int (1 : Int32))) (S29 : Sta Z h0 "lomwright/lom/Datatype" "LANGUAGE_ID" "Llomwright/lom/Datatype;" (.ref w27)) (E30 : Exa Z h0 w27 "lomwright/lom/Datatype") (F34 : Fld Z h0 w27 "java/lang/Enum" "ordinal" "I" (.int (2 : Int32))) (S39 : Sta Z h0 "lomwright/lom/Datatype" "VCARD" "Llomwright/lom/Datatype;" (.ref w37)) (E40 : Exa Z h0 w37 "lomwright/lom/Datatype") (F44 : Fld Z h0 w37 "java/lang/Enum" "ordinal" "I" (.int (3 : Int32))) (F49 : Fld Z h0 w7 "lomwright/lom/Datatype" "components" "Ljava/util/List;" (.ref w47)) (E50 : Exa Z h0 w47 "java/util/ImmutableCollections$ListN") (F55 : Fld Z h0 w47 "java/util/ImmutableCollections$ListN" "elements" "[Ljava/lang/Object;" (.ref w53)) (F64 : Fld Z h0 w37 "lomwright/lom/Datatype" "components" "Ljava/util/List;" (.ref w47)) (S69 : Sta Z h0 "lomwright/lom/Datatype" "DATE_TIME" "Llomwright/lom/Datatype;" (.ref w67)) (E70 : Exa Z h0 w67 "lomwright/lom/Datatype") (F74 : Fld Z h0 w67 "java/lang/Enum" "ordinal" "I" (.int (6 : Int32))) (F79 : Fld Z h0 w67 "lomwright/lom/Datatype" "components" "Ljava/util/List;" (.ref w77)) (E80 : Exa Z h0 w77 "java/util/ImmutableCollections$List12") (F85 : Fld Z h0 w77 "java/util/ImmutableCollections$List12" "e1" "Ljava/lang/Object;" (.ref w83)) (E86 : Exa Z h0 w83 "java/lang/String") (S91 : Sta Z h0 "lomwright/lom/Datatype" "DURATION" "Llomwright/lom/Datatype;" (.ref w89)) (E92 : Exa Z h0 w89 "lomwright/lom/Datatype") (F96 : Fld Z h0 w89 "java/lang/Enum" "ordinal" "I" (.int (7 : Int32))) (F101 : Fld Z h0 w89 "lomwright/lom/Datatype" "components" "Ljava/util/List;" (.ref w99)) (E102 : Exa Z h0 w99 "java/util/ImmutableCollections$List12") (F106 : Fld Z h0 w99 "java/util/ImmutableCollections$List12" "e1" "Ljava/lang/Object;" (.ref w83)) (F110 : Fld Z h0 w27 "lomwright/lom/Datatype" "components" "Ljava/util/List;" (.ref w47)) (F114 : Fld Z h0 w13 "lomwright/lom/Datatype" "components" "Ljava/util/List;" (.ref w47)) (S119 : Sta Z h0 "lomwright/lom/Datatype" "LANG_STRING" "Llomwright/lom/Datatype;" (.ref w117)) (E120 : Exa Z h0 w117 "lomwright/lom/Datatype") (F124 : Fld Z h0 w117 "java/lang/Enum" "ordinal" "I" (.int (4 : Int32))) (F129 : Fld Z h0 w117 "lomwright/lom/Datatype" "components" "Ljava/util/List;" (.ref w127)) (E130 : Exa Z h0 w127 "java/util/ImmutableCollections$List12") (F134 : Fld Z h0 w127 "java/util/ImmutableCollections$List12" "e1" "Ljava/lang/Object;" (.ref w1)) (S139 : Sta Z h0 "lomwright/lom/Datatype" "VOCABULARY" "Llomwright/lom/Datatype;" (.ref w137)) (E140 : Exa Z h0 w137 "lomwright/lom/Datatype") (F144 : Fld Z h0 w137 "java/lang/Enum" "ordinal" "I" (.int (5 : Int32))) (F149 : Fld Z h0 w137 "lomwright/lom/Datatype" "components" "Ljava/util/List;" (.ref w147)) (E150 : Exa Z h0 w147 "java/util/ImmutableCollections$List12") (F153 : Fld Z h0 w147 "java/util/ImmutableCollections$List12" "e1" "Ljava/lang/Object;" (.ref w151)) (E154 : Exa Z h0 w151 "java/lang/String") (A56 : Arr Z h0 w53 c57 (.object "java/lang/Object")) (Sz : c57.slots.size = (0 : Int32).toNatClampNeg) (W : Int32) (hv : W = f0_0 i0 w1 w7 w13 w27 w37 w67 w89 w117 w137 w47 w53 w77 w83 w99 w127 w147 w151 c57) :
    own_Ends p e below s room_1.cells room_1.slots (own_Q n0 h0 (some (.int W))) T0 (mkF m 0 #[.val (.int i0), .unset, .unset, .unset, .unset, .unset] []) := by
  obtain ⟨hx, hZ, hw, hby, hml, hown, hret, hlk, hnm⟩ := C
  have C : own_C "lomwright/lom/DatatypeHoldsTextPinLaw" code maxLocals ret x.name p s m meth c Z a0 := ⟨hx, hZ, hw, hby, hml, hown, hret, hlk, hnm⟩
  unfold f0_0 at hv
  refine own_step (fun _ => XS.iloadN X0.here hx rfl (hb hby at_0) rfl) ?_
  show own_Ends p e below s _ _ _ T0 (mkF m 1 #[.val (.int i0), .unset, .unset, .unset, .unset, .unset] [(.int i0)])
  refine own_step (fun _ => XS.bipush X0.here hx rfl (hb hby at_1)) ?_
  show own_Ends p e below s _ _ _ T0 (mkF m 3 #[.val (.int i0), .unset, .unset, .unset, .unset, .unset] [(.int (7 : Int32)), (.int i0)])
  refine own_step (fun _ => XS.iand X0.here hx rfl (hb hby at_3) rfl) ?_
  show own_Ends p e below s _ _ _ T0 (mkF m 4 #[.val (.int i0), .unset, .unset, .unset, .unset, .unset] [(.int (i0 &&& (7 : Int32)))])
  refine own_step (fun _ => XS.istoreN X0.here hx rfl (hb hby at_4) rfl (l' := #[.val (.int i0), .val (.int (i0 &&& (7 : Int32))), .unset, .unset, .unset, .unset]) rfl) ?_
  show own_Ends p e below s _ _ _ T0 (mkF m 5 #[.val (.int i0), .val (.int (i0 &&& (7 : Int32))), .unset, .unset, .unset, .unset] [])
  refine own_step (fun _ => XS.iloadN X0.here hx rfl (hb hby at_5) rfl) ?_
  show own_Ends p e below s _ _ _ T0 (mkF m 6 #[.val (.int i0), .val (.int (i0 &&& (7 : Int32))), .unset, .unset, .unset, .unset] [(.int (i0 &&& (7 : Int32)))])
  by_cases hc6 : (i0 &&& (7 : Int32)) = (0 : Int32)
  · have hv_t := hv.trans (if_pos hc6)
    refine own_step (fun _ => XS.ifNo X0.here hx rfl (hb hby at_6) rfl ((if0 _ _).trans (teq hc6).2)) ?_
    show own_Ends p e below s _ _ _ T0 (mkF m 9 #[.val (.int i0), .val (.int (i0 &&& (7 : Int32))), .unset, .unset, .unset, .unset] [])
    obtain ⟨T41, X41, e41, st41⟩ := getS2 X0 hx hZ hown (host := "") (Or.inl (hw _ (List.mem_of_getElem? (i := 0) rfl))) Via.refl e0 S9 (g := (mkF m 9 #[.val (.int i0), .val (.int (i0 &&& (7 : Int32))), .unset, .unset, .unset, .unset] [])) rfl (hb hby at_9)
    refine own_step st41 ?_
    show own_Ends p e below s _ _ _ T41 (mkF m 12 #[.val (.int i0), .val (.int (i0 &&& (7 : Int32))), .unset, .unset, .unset, .unset] [(.ref w7)])
    refine own_step (fun _ => XS.astoreN X41.here hx rfl (hb hby at_12) rfl rfl (l' := #[.val (.int i0), .val (.int (i0 &&& (7 : Int32))), .val (.ref w7), .unset, .unset, .unset]) rfl) ?_
    show own_Ends p e below s _ _ _ T41 (mkF m 13 #[.val (.int i0), .val (.int (i0 &&& (7 : Int32))), .val (.ref w7), .unset, .unset, .unset] [])
    refine own_step (fun _ => XS.iconst X41.here hx rfl (hb hby at_13)) ?_
    show own_Ends p e below s _ _ _ T41 (mkF m 14 #[.val (.int i0), .val (.int (i0 &&& (7 : Int32))), .val (.ref w7), .unset, .unset, .unset] [(.int (0 : Int32))])
    refine own_step (fun _ => XS.istoreN X41.here hx rfl (hb hby at_14) rfl (l' := #[.val (.int i0), .val (.int (i0 &&& (7 : Int32))), .val (.ref w7), .val (.int (0 : Int32)), .unset, .unset]) rfl) ?_
    show own_Ends p e below s _ _ _ T41 (mkF m 15 #[.val (.int i0), .val (.int (i0 &&& (7 : Int32))), .val (.ref w7), .val (.int (0 : Int32)), .unset, .unset] [])
    refine own_step (fun _ => XS.goto X41.here hx rfl (pc0 := 15) (pc' := 109) rfl (hb hby at_15) (by decide) (by decide)) ?_
    show own_Ends p e below s _ _ _ T41 (mkF m 109 #[.val (.int i0), .val (.int (i0 &&& (7 : Int32))), .val (.ref w7), .val (.int (0 : Int32)), .unset, .unset] [])
    refine own_step (fun _ => XS.aloadN X41.here hx rfl (hb hby at_109) rfl rfl) ?_
    show own_Ends p e below s _ _ _ T41 (mkF m 110 #[.val (.int i0), .val (.int (i0 &&& (7 : Int32))), .val (.ref w7), .val (.int (0 : Int32)), .unset, .unset] [(.ref w7)])
    obtain ⟨cq42, kq42, q42a, q42b, q42c⟩ := isOf hZ e41 E10
    obtain ⟨_, _, ⟨T42, L42, k42, n42⟩, -, X42, ⟨Lc42, hQ42, l42, y42, z42⟩, st42⟩ := X41.virtualBack hx (y := (⟨"lomwright/lom/Datatype", "holdsText", "()Z"⟩ : MethodName)) (z := (⟨"lomwright/lom/Datatype", "holdsText", "()Z"⟩ : MethodName)) hown (mvT hZ (hw _ (List.mem_of_getElem? (i := 3) rfl))) (mvT hZ (hw _ (List.mem_of_getElem? (i := 4) rfl))) (notFace_of_selects (args := #[]) (mvT hZ (hw _ (List.mem_of_getElem? (i := 6) rfl)))) (mvT hZ (hw _ (List.mem_of_getElem? (i := 6) rfl))) (mvT hZ (hw _ (List.mem_of_getElem? (i := 5) rfl))) (by decide) (backOf (W := 0) (rm1 l Z a0 hw [] w7 w13 w27 w37 h0 n0 Z0 S15 S29 S39) hZ (hw _ (List.mem_of_getElem? (i := 7) rfl)) (hw _ (List.mem_of_getElem? (i := 1) rfl)) (by decide) (by decide)) q42a q42c (g := (mkF m 110 #[.val (.int i0), .val (.int (i0 &&& (7 : Int32))), .val (.ref w7), .val (.int (0 : Int32)), .unset, .unset] [(.ref w7)])) rfl (by rw [hml]; rfl) (Steps.refl _) (argsL := []) (rest := []) (lenOf pd_0 rfl) rfl (by show 2 * 0 + _ ≤ _; exact Nat.le_of_eq rfl) (hb hby at_110) (fun _ _ => ⟨rfl, e41, (by decide : 0 + 0 ≤ _), (by decide : 0 + 0 ≤ _)⟩)
    dsimp only [Pt.U, Pt.locs, Pt.cells, Pt.slots] at X42 l42 y42 z42 st42 hQ42
    subst l42 y42 z42
    obtain ⟨rfl, N42q, hh42⟩ := hQ42
    have N42 := Fr.app N0 N42q
    refine own_step (fun _ => st42.trans) ?_
    show own_Ends p e below s _ _ _ T42 (mkF m 113 #[.val (.int i0), .val (.int (i0 &&& (7 : Int32))), .val (.ref w7), .val (.int (0 : Int32)), .unset, .unset] [(.int (f1_0 w7 w13 w27 w37))])
    refine own_step (fun _ => XS.istore X42.here hx rfl (hb hby at_113) rfl (l' := #[.val (.int i0), .val (.int (i0 &&& (7 : Int32))), .val (.ref w7), .val (.int (0 : Int32)), .val (.int (f1_0 w7 w13 w27 w37)), .unset]) rfl) ?_
    show own_Ends p e below s _ _ _ T42 (mkF m 115 #[.val (.int i0), .val (.int (i0 &&& (7 : Int32))), .val (.ref w7), .val (.int (0 : Int32)), .val (.int (f1_0 w7 w13 w27 w37)), .unset] [])
    refine own_step (fun _ => XS.aloadN X42.here hx rfl (hb hby at_115) rfl rfl) ?_
    show own_Ends p e below s _ _ _ T42 (mkF m 116 #[.val (.int i0), .val (.int (i0 &&& (7 : Int32))), .val (.ref w7), .val (.int (0 : Int32)), .val (.int (f1_0 w7 w13 w27 w37)), .unset] [(.ref w7)])
    obtain ⟨cq43, kq43, q43a, q43b, q43c⟩ := isOf hZ hh42 E10
    obtain ⟨_, _, ⟨T43, L43, k43, n43⟩, -, X43, ⟨Lc43, hQ43, l43, y43, z43⟩, st43⟩ := X42.virtualBack hx (y := (⟨"lomwright/lom/Datatype", "components", "()Ljava/util/List;"⟩ : MethodName)) (z := (⟨"lomwright/lom/Datatype", "components", "()Ljava/util/List;"⟩ : MethodName)) hown (mvT hZ (hw _ (List.mem_of_getElem? (i := 14) rfl))) (mvT hZ (hw _ (List.mem_of_getElem? (i := 15) rfl))) (notFace_of_selects (args := #[]) (mvT hZ (hw _ (List.mem_of_getElem? (i := 17) rfl)))) (mvT hZ (hw _ (List.mem_of_getElem? (i := 17) rfl))) (mvT hZ (hw _ (List.mem_of_getElem? (i := 16) rfl))) (by decide) (backOf (W := 0) (rm2 l Z a0 hw [] w7 w47 h0 n0 Z0 F49) hZ (hw _ (List.mem_of_getElem? (i := 18) rfl)) (hw _ (List.mem_of_getElem? (i := 1) rfl)) (by decide) (by decide)) q43a q43c (g := (mkF m 116 #[.val (.int i0), .val (.int (i0 &&& (7 : Int32))), .val (.ref w7), .val (.int (0 : Int32)), .val (.int (f1_0 w7 w13 w27 w37)), .unset] [(.ref w7)])) rfl (by rw [hml]; rfl) (Steps.refl _) (argsL := []) (rest := []) (lenOf pd_1 rfl) rfl (by show 2 * 0 + _ ≤ _; exact Nat.le_of_eq rfl) (hb hby at_116) (fun _ _ => ⟨rfl, hh42, (by decide : 0 + 0 ≤ _), (by decide : 0 + 0 ≤ _)⟩)
    dsimp only [Pt.U, Pt.locs, Pt.cells, Pt.slots] at X43 l43 y43 z43 st43 hQ43
    subst l43 y43 z43
    obtain ⟨rfl, N43q, hh43⟩ := hQ43
    have N43 := Fr.app N42 N43q
    refine own_step (fun _ => st43.trans) ?_
    show own_Ends p e below s _ _ _ T43 (mkF m 119 #[.val (.int i0), .val (.int (i0 &&& (7 : Int32))), .val (.ref w7), .val (.int (0 : Int32)), .val (.int (f1_0 w7 w13 w27 w37)), .unset] [(.ref w47)])
    obtain ⟨cq44, kq44, q44a, q44b, q44c⟩ := isOf hZ hh43 E50
    obtain ⟨_, _, ⟨T44, L44, k44, n44⟩, -, X44, ⟨Lc44, hQ44, l44, y44, z44⟩, st44⟩ := X43.interfaceBack hx (xi := (⟨"java/util/List", "size", "()I"⟩ : MethodName)) (y := (⟨"java/util/ImmutableCollections$ListN", "size", "()I"⟩ : MethodName)) hown (mvT hZ (hw _ (List.mem_of_getElem? (i := 21) rfl))) (mvT hZ (hw _ (List.mem_of_getElem? (i := 22) rfl))) (mvT hZ (hw _ (List.mem_of_getElem? (i := 23) rfl))) (mvT hZ (hw _ (List.mem_of_getElem? (i := 24) rfl))) (mvT hZ (hw _ (List.mem_of_getElem? (i := 25) rfl))) (mvT hZ (hw _ (List.mem_of_getElem? (i := 26) rfl))) (mvT hZ (hw _ (List.mem_of_getElem? (i := 27) rfl))) (mvT hZ (hw _ (List.mem_of_getElem? (i := 28) rfl))) (by decide) (backOf (W := 0) (rm3 l Z a0 hw [] w47 w53 c57 h0 n0 Z0 F55 A56 Sz) hZ (hw _ (List.mem_of_getElem? (i := 30) rfl)) (hw _ (List.mem_of_getElem? (i := 29) rfl)) (by decide) (by decide)) q44a q44b q44c (g := (mkF m 119 #[.val (.int i0), .val (.int (i0 &&& (7 : Int32))), .val (.ref w7), .val (.int (0 : Int32)), .val (.int (f1_0 w7 w13 w27 w37)), .unset] [(.ref w47)])) rfl (by rw [hml]; rfl) (Steps.refl _) (argsL := []) (rest := []) (lenOf pd_2 rfl) rfl (by show 2 * 0 + _ ≤ _; exact Nat.le_of_eq rfl) (hb hby at_119) (fun _ _ => ⟨rfl, hh43, (by decide : 0 + 0 ≤ _), (by decide : 0 + 0 ≤ _)⟩)
    dsimp only [Pt.U, Pt.locs, Pt.cells, Pt.slots] at X44 l44 y44 z44 st44 hQ44
    subst l44 y44 z44
    obtain ⟨rfl, N44q, hh44⟩ := hQ44
    have N44 := Fr.app N43 N44q
    refine own_step (fun _ => st44.trans) ?_
    show own_Ends p e below s _ _ _ T44 (mkF m 124 #[.val (.int i0), .val (.int (i0 &&& (7 : Int32))), .val (.ref w7), .val (.int (0 : Int32)), .val (.int (f1_0 w7 w13 w27 w37)), .unset] [(.int (0 : Int32))])
    refine own_step (fun _ => XS.ifNo X44.here hx rfl (hb hby at_124) rfl ((if0 _ _).trans (teq (show (0 : Int32) = (0 : Int32) from (by decide))).2)) ?_
    show own_Ends p e below s _ _ _ T44 (mkF m 127 #[.val (.int i0), .val (.int (i0 &&& (7 : Int32))), .val (.ref w7), .val (.int (0 : Int32)), .val (.int (f1_0 w7 w13 w27 w37)), .unset] [])
    refine own_step (fun _ => XS.aloadN X44.here hx rfl (hb hby at_127) rfl rfl) ?_
    show own_Ends p e below s _ _ _ T44 (mkF m 128 #[.val (.int i0), .val (.int (i0 &&& (7 : Int32))), .val (.ref w7), .val (.int (0 : Int32)), .val (.int (f1_0 w7 w13 w27 w37)), .unset] [(.ref w7)])
    obtain ⟨T45, X45, e45, st45⟩ := getS2 X44 hx hZ hown (host := "") (Or.inl (hw _ (List.mem_of_getElem? (i := 0) rfl))) Via.refl hh44 S9 (g := (mkF m 128 #[.val (.int i0), .val (.int (i0 &&& (7 : Int32))), .val (.ref w7), .val (.int (0 : Int32)), .val (.int (f1_0 w7 w13 w27 w37)), .unset] [(.ref w7)])) rfl (hb hby at_128)
    refine own_step st45 ?_
    show own_Ends p e below s _ _ _ T45 (mkF m 131 #[.val (.int i0), .val (.int (i0 &&& (7 : Int32))), .val (.ref w7), .val (.int (0 : Int32)), .val (.int (f1_0 w7 w13 w27 w37)), .unset] [(.ref w7), (.ref w7)])
    refine own_step (fun _ => Jvm.RoadKit.acmp (g := (mkF m 131 #[.val (.int i0), .val (.int (i0 &&& (7 : Int32))), .val (.ref w7), .val (.int (0 : Int32)), .val (.int (f1_0 w7 w13 w27 w37)), .unset] [(.ref w7), (.ref w7)])) X45 hx rfl rfl rfl (pc0 := 131) (pc' := 138) (same := true) rfl (hb hby at_131) rfl (decide_eq_true rfl) (by decide) (by decide)) ?_
    show own_Ends p e below s _ _ _ T45 (mkF m 138 #[.val (.int i0), .val (.int (i0 &&& (7 : Int32))), .val (.ref w7), .val (.int (0 : Int32)), .val (.int (f1_0 w7 w13 w27 w37)), .unset] [])
    refine own_step (fun _ => XS.iconst X45.here hx rfl (hb hby at_138)) ?_
    show own_Ends p e below s _ _ _ T45 (mkF m 139 #[.val (.int i0), .val (.int (i0 &&& (7 : Int32))), .val (.ref w7), .val (.int (0 : Int32)), .val (.int (f1_0 w7 w13 w27 w37)), .unset] [(.int (0 : Int32))])
    refine own_step (fun _ => XS.istore X45.here hx rfl (hb hby at_139) rfl (l' := #[.val (.int i0), .val (.int (i0 &&& (7 : Int32))), .val (.ref w7), .val (.int (0 : Int32)), .val (.int (f1_0 w7 w13 w27 w37)), .val (.int (0 : Int32))]) rfl) ?_
    show own_Ends p e below s _ _ _ T45 (mkF m 141 #[.val (.int i0), .val (.int (i0 &&& (7 : Int32))), .val (.ref w7), .val (.int (0 : Int32)), .val (.int (f1_0 w7 w13 w27 w37)), .val (.int (0 : Int32))] [])
    refine own_step (fun _ => XS.iload X45.here hx rfl (hb hby at_141) rfl) ?_
    show own_Ends p e below s _ _ _ T45 (mkF m 143 #[.val (.int i0), .val (.int (i0 &&& (7 : Int32))), .val (.ref w7), .val (.int (0 : Int32)), .val (.int (f1_0 w7 w13 w27 w37)), .val (.int (0 : Int32))] [(.int (f1_0 w7 w13 w27 w37))])
    refine own_step (fun _ => XS.iloadN X45.here hx rfl (hb hby at_143) rfl) ?_
    show own_Ends p e below s _ _ _ T45 (mkF m 144 #[.val (.int i0), .val (.int (i0 &&& (7 : Int32))), .val (.ref w7), .val (.int (0 : Int32)), .val (.int (f1_0 w7 w13 w27 w37)), .val (.int (0 : Int32))] [(.int (0 : Int32)), (.int (f1_0 w7 w13 w27 w37))])
    by_cases hc144 : (f1_0 w7 w13 w27 w37) = (0 : Int32)
    · have hv_t_t := hv_t.trans (if_pos hc144)
      refine own_step (fun _ => XS.icmpNo X45.here hx rfl (hb hby at_144) rfl (teq hc144).2) ?_
      show own_Ends p e below s _ _ _ T45 (mkF m 147 #[.val (.int i0), .val (.int (i0 &&& (7 : Int32))), .val (.ref w7), .val (.int (0 : Int32)), .val (.int (f1_0 w7 w13 w27 w37)), .val (.int (0 : Int32))] [])
      refine own_step (fun _ => XS.iload X45.here hx rfl (hb hby at_147) rfl) ?_
      show own_Ends p e below s _ _ _ T45 (mkF m 149 #[.val (.int i0), .val (.int (i0 &&& (7 : Int32))), .val (.ref w7), .val (.int (0 : Int32)), .val (.int (f1_0 w7 w13 w27 w37)), .val (.int (0 : Int32))] [(.int (f1_0 w7 w13 w27 w37))])
      refine own_step (fun _ => XS.iload X45.here hx rfl (hb hby at_149) rfl) ?_
      show own_Ends p e below s _ _ _ T45 (mkF m 151 #[.val (.int i0), .val (.int (i0 &&& (7 : Int32))), .val (.ref w7), .val (.int (0 : Int32)), .val (.int (f1_0 w7 w13 w27 w37)), .val (.int (0 : Int32))] [(.int (0 : Int32)), (.int (f1_0 w7 w13 w27 w37))])
      by_cases hc151 : (f1_0 w7 w13 w27 w37) = (0 : Int32)
      · have hv_t_t_t := hv_t_t.trans (if_pos hc151)
        refine own_step (fun _ => XS.icmpNo X45.here hx rfl (hb hby at_151) rfl (teq hc151).2) ?_
        show own_Ends p e below s _ _ _ T45 (mkF m 154 #[.val (.int i0), .val (.int (i0 &&& (7 : Int32))), .val (.ref w7), .val (.int (0 : Int32)), .val (.int (f1_0 w7 w13 w27 w37)), .val (.int (0 : Int32))] [])
        refine own_step (fun _ => XS.iconst X45.here hx rfl (hb hby at_154)) ?_
        show own_Ends p e below s _ _ _ T45 (mkF m 155 #[.val (.int i0), .val (.int (i0 &&& (7 : Int32))), .val (.ref w7), .val (.int (0 : Int32)), .val (.int (f1_0 w7 w13 w27 w37)), .val (.int (0 : Int32))] [(.int (1 : Int32))])
        refine own_step (fun _ => XS.goto X45.here hx rfl (pc0 := 155) (pc' := 159) rfl (hb hby at_155) (by decide) (by decide)) ?_
        show own_Ends p e below s _ _ _ T45 (mkF m 159 #[.val (.int i0), .val (.int (i0 &&& (7 : Int32))), .val (.ref w7), .val (.int (0 : Int32)), .val (.int (f1_0 w7 w13 w27 w37)), .val (.int (0 : Int32))] [(.int (1 : Int32))])
        exact own_retN X45 (t := .boolean) hx hret hlk (hb hby at_159) (by decide) (by decide) (by simp) ⟨congrArg (fun z => some (Value.int z)) hv_t_t_t.symm, N44, e45⟩
      · have hv_t_t_f := hv_t_t.trans (if_neg hc151)
        refine own_step (fun _ => XS.icmpYes X45.here hx rfl (pc0 := 151) (pc' := 158) rfl (hb hby at_151) rfl (feq hc151).2 (by decide) (by decide)) ?_
        show own_Ends p e below s _ _ _ T45 (mkF m 158 #[.val (.int i0), .val (.int (i0 &&& (7 : Int32))), .val (.ref w7), .val (.int (0 : Int32)), .val (.int (f1_0 w7 w13 w27 w37)), .val (.int (0 : Int32))] [])
        refine own_step (fun _ => XS.iconst X45.here hx rfl (hb hby at_158)) ?_
        show own_Ends p e below s _ _ _ T45 (mkF m 159 #[.val (.int i0), .val (.int (i0 &&& (7 : Int32))), .val (.ref w7), .val (.int (0 : Int32)), .val (.int (f1_0 w7 w13 w27 w37)), .val (.int (0 : Int32))] [(.int (0 : Int32))])
        exact own_retN X45 (t := .boolean) hx hret hlk (hb hby at_159) (by decide) (by decide) (by simp) ⟨congrArg (fun z => some (Value.int z)) hv_t_t_f.symm, N44, e45⟩
    · have hv_t_f := hv_t.trans (if_neg hc144)
      refine own_step (fun _ => XS.icmpYes X45.here hx rfl (pc0 := 144) (pc' := 158) rfl (hb hby at_144) rfl (feq hc144).2 (by decide) (by decide)) ?_
      show own_Ends p e below s _ _ _ T45 (mkF m 158 #[.val (.int i0), .val (.int (i0 &&& (7 : Int32))), .val (.ref w7), .val (.int (0 : Int32)), .val (.int (f1_0 w7 w13 w27 w37)), .val (.int (0 : Int32))] [])
      refine own_step (fun _ => XS.iconst X45.here hx rfl (hb hby at_158)) ?_
      show own_Ends p e below s _ _ _ T45 (mkF m 159 #[.val (.int i0), .val (.int (i0 &&& (7 : Int32))), .val (.ref w7), .val (.int (0 : Int32)), .val (.int (f1_0 w7 w13 w27 w37)), .val (.int (0 : Int32))] [(.int (0 : Int32))])
      exact own_retN X45 (t := .boolean) hx hret hlk (hb hby at_159) (by decide) (by decide) (by simp) ⟨congrArg (fun z => some (Value.int z)) hv_t_f.symm, N44, e45⟩
  · have hv_f := hv.trans (if_neg hc6)
    refine own_step (fun _ => XS.ifYes X0.here hx rfl (pc0 := 6) (pc' := 18) rfl (hb hby at_6) rfl ((if0 _ _).trans (feq hc6).2) (by decide) (by decide)) ?_
    show own_Ends p e below s _ _ _ T0 (mkF m 18 #[.val (.int i0), .val (.int (i0 &&& (7 : Int32))), .unset, .unset, .unset, .unset] [])
    refine own_step (fun _ => XS.iloadN X0.here hx rfl (hb hby at_18) rfl) ?_
    show own_Ends p e below s _ _ _ T0 (mkF m 19 #[.val (.int i0), .val (.int (i0 &&& (7 : Int32))), .unset, .unset, .unset, .unset] [(.int (i0 &&& (7 : Int32)))])
    refine own_step (fun _ => XS.iconst X0.here hx rfl (hb hby at_19)) ?_
    show own_Ends p e below s _ _ _ T0 (mkF m 20 #[.val (.int i0), .val (.int (i0 &&& (7 : Int32))), .unset, .unset, .unset, .unset] [(.int (1 : Int32)), (.int (i0 &&& (7 : Int32)))])
    by_cases hc20 : (i0 &&& (7 : Int32)) = (1 : Int32)
    · have hv_f_t := hv_f.trans (if_pos hc20)
      refine own_step (fun _ => XS.icmpNo X0.here hx rfl (hb hby at_20) rfl (teq hc20).2) ?_
      show own_Ends p e below s _ _ _ T0 (mkF m 23 #[.val (.int i0), .val (.int (i0 &&& (7 : Int32))), .unset, .unset, .unset, .unset] [])
      obtain ⟨T46, X46, e46, st46⟩ := getS2 X0 hx hZ hown (host := "") (Or.inl (hw _ (List.mem_of_getElem? (i := 50) rfl))) Via.refl e0 S15 (g := (mkF m 23 #[.val (.int i0), .val (.int (i0 &&& (7 : Int32))), .unset, .unset, .unset, .unset] [])) rfl (hb hby at_23)
      refine own_step st46 ?_
      show own_Ends p e below s _ _ _ T46 (mkF m 26 #[.val (.int i0), .val (.int (i0 &&& (7 : Int32))), .unset, .unset, .unset, .unset] [(.ref w13)])
      refine own_step (fun _ => XS.astoreN X46.here hx rfl (hb hby at_26) rfl rfl (l' := #[.val (.int i0), .val (.int (i0 &&& (7 : Int32))), .val (.ref w13), .unset, .unset, .unset]) rfl) ?_
      show own_Ends p e below s _ _ _ T46 (mkF m 27 #[.val (.int i0), .val (.int (i0 &&& (7 : Int32))), .val (.ref w13), .unset, .unset, .unset] [])
      refine own_step (fun _ => XS.iconst X46.here hx rfl (hb hby at_27)) ?_
      show own_Ends p e below s _ _ _ T46 (mkF m 28 #[.val (.int i0), .val (.int (i0 &&& (7 : Int32))), .val (.ref w13), .unset, .unset, .unset] [(.int (1 : Int32))])
      refine own_step (fun _ => XS.istoreN X46.here hx rfl (hb hby at_28) rfl (l' := #[.val (.int i0), .val (.int (i0 &&& (7 : Int32))), .val (.ref w13), .val (.int (1 : Int32)), .unset, .unset]) rfl) ?_
      show own_Ends p e below s _ _ _ T46 (mkF m 29 #[.val (.int i0), .val (.int (i0 &&& (7 : Int32))), .val (.ref w13), .val (.int (1 : Int32)), .unset, .unset] [])
      refine own_step (fun _ => XS.goto X46.here hx rfl (pc0 := 29) (pc' := 109) rfl (hb hby at_29) (by decide) (by decide)) ?_
      show own_Ends p e below s _ _ _ T46 (mkF m 109 #[.val (.int i0), .val (.int (i0 &&& (7 : Int32))), .val (.ref w13), .val (.int (1 : Int32)), .unset, .unset] [])
      refine own_step (fun _ => XS.aloadN X46.here hx rfl (hb hby at_109) rfl rfl) ?_
      show own_Ends p e below s _ _ _ T46 (mkF m 110 #[.val (.int i0), .val (.int (i0 &&& (7 : Int32))), .val (.ref w13), .val (.int (1 : Int32)), .unset, .unset] [(.ref w13)])
      obtain ⟨cq47, kq47, q47a, q47b, q47c⟩ := isOf hZ e46 E16
      obtain ⟨_, _, ⟨T47, L47, k47, n47⟩, -, X47, ⟨Lc47, hQ47, l47, y47, z47⟩, st47⟩ := X46.virtualBack hx (y := (⟨"lomwright/lom/Datatype", "holdsText", "()Z"⟩ : MethodName)) (z := (⟨"lomwright/lom/Datatype", "holdsText", "()Z"⟩ : MethodName)) hown (mvT hZ (hw _ (List.mem_of_getElem? (i := 3) rfl))) (mvT hZ (hw _ (List.mem_of_getElem? (i := 4) rfl))) (notFace_of_selects (args := #[]) (mvT hZ (hw _ (List.mem_of_getElem? (i := 6) rfl)))) (mvT hZ (hw _ (List.mem_of_getElem? (i := 6) rfl))) (mvT hZ (hw _ (List.mem_of_getElem? (i := 5) rfl))) (by decide) (backOf (W := 0) (rm1 l Z a0 hw [] w13 w13 w27 w37 h0 n0 Z0 S15 S29 S39) hZ (hw _ (List.mem_of_getElem? (i := 7) rfl)) (hw _ (List.mem_of_getElem? (i := 1) rfl)) (by decide) (by decide)) q47a q47c (g := (mkF m 110 #[.val (.int i0), .val (.int (i0 &&& (7 : Int32))), .val (.ref w13), .val (.int (1 : Int32)), .unset, .unset] [(.ref w13)])) rfl (by rw [hml]; rfl) (Steps.refl _) (argsL := []) (rest := []) (lenOf pd_0 rfl) rfl (by show 2 * 0 + _ ≤ _; exact Nat.le_of_eq rfl) (hb hby at_110) (fun _ _ => ⟨rfl, e46, (by decide : 0 + 0 ≤ _), (by decide : 0 + 0 ≤ _)⟩)
      dsimp only [Pt.U, Pt.locs, Pt.cells, Pt.slots] at X47 l47 y47 z47 st47 hQ47
      subst l47 y47 z47
      obtain ⟨rfl, N47q, hh47⟩ := hQ47
      have N47 := Fr.app N0 N47q
      refine own_step (fun _ => st47.trans) ?_
      show own_Ends p e below s _ _ _ T47 (mkF m 113 #[.val (.int i0), .val (.int (i0 &&& (7 : Int32))), .val (.ref w13), .val (.int (1 : Int32)), .unset, .unset] [(.int (f1_0 w13 w13 w27 w37))])
      refine own_step (fun _ => XS.istore X47.here hx rfl (hb hby at_113) rfl (l' := #[.val (.int i0), .val (.int (i0 &&& (7 : Int32))), .val (.ref w13), .val (.int (1 : Int32)), .val (.int (f1_0 w13 w13 w27 w37)), .unset]) rfl) ?_
      show own_Ends p e below s _ _ _ T47 (mkF m 115 #[.val (.int i0), .val (.int (i0 &&& (7 : Int32))), .val (.ref w13), .val (.int (1 : Int32)), .val (.int (f1_0 w13 w13 w27 w37)), .unset] [])
      refine own_step (fun _ => XS.aloadN X47.here hx rfl (hb hby at_115) rfl rfl) ?_
      show own_Ends p e below s _ _ _ T47 (mkF m 116 #[.val (.int i0), .val (.int (i0 &&& (7 : Int32))), .val (.ref w13), .val (.int (1 : Int32)), .val (.int (f1_0 w13 w13 w27 w37)), .unset] [(.ref w13)])
      obtain ⟨cq48, kq48, q48a, q48b, q48c⟩ := isOf hZ hh47 E16
      obtain ⟨_, _, ⟨T48, L48, k48, n48⟩, -, X48, ⟨Lc48, hQ48, l48, y48, z48⟩, st48⟩ := X47.virtualBack hx (y := (⟨"lomwright/lom/Datatype", "components", "()Ljava/util/List;"⟩ : MethodName)) (z := (⟨"lomwright/lom/Datatype", "components", "()Ljava/util/List;"⟩ : MethodName)) hown (mvT hZ (hw _ (List.mem_of_getElem? (i := 14) rfl))) (mvT hZ (hw _ (List.mem_of_getElem? (i := 15) rfl))) (notFace_of_selects (args := #[]) (mvT hZ (hw _ (List.mem_of_getElem? (i := 17) rfl)))) (mvT hZ (hw _ (List.mem_of_getElem? (i := 17) rfl))) (mvT hZ (hw _ (List.mem_of_getElem? (i := 16) rfl))) (by decide) (backOf (W := 0) (rm2 l Z a0 hw [] w13 w47 h0 n0 Z0 F114) hZ (hw _ (List.mem_of_getElem? (i := 18) rfl)) (hw _ (List.mem_of_getElem? (i := 1) rfl)) (by decide) (by decide)) q48a q48c (g := (mkF m 116 #[.val (.int i0), .val (.int (i0 &&& (7 : Int32))), .val (.ref w13), .val (.int (1 : Int32)), .val (.int (f1_0 w13 w13 w27 w37)), .unset] [(.ref w13)])) rfl (by rw [hml]; rfl) (Steps.refl _) (argsL := []) (rest := []) (lenOf pd_1 rfl) rfl (by show 2 * 0 + _ ≤ _; exact Nat.le_of_eq rfl) (hb hby at_116) (fun _ _ => ⟨rfl, hh47, (by decide : 0 + 0 ≤ _), (by decide : 0 + 0 ≤ _)⟩)
      dsimp only [Pt.U, Pt.locs, Pt.cells, Pt.slots] at X48 l48 y48 z48 st48 hQ48
      subst l48 y48 z48
      obtain ⟨rfl, N48q, hh48⟩ := hQ48
      have N48 := Fr.app N47 N48q
      refine own_step (fun _ => st48.trans) ?_
      show own_Ends p e below s _ _ _ T48 (mkF m 119 #[.val (.int i0), .val (.int (i0 &&& (7 : Int32))), .val (.ref w13), .val (.int (1 : Int32)), .val (.int (f1_0 w13 w13 w27 w37)), .unset] [(.ref w47)])
      obtain ⟨cq49, kq49, q49a, q49b, q49c⟩ := isOf hZ hh48 E50
      obtain ⟨_, _, ⟨T49, L49, k49, n49⟩, -, X49, ⟨Lc49, hQ49, l49, y49, z49⟩, st49⟩ := X48.interfaceBack hx (xi := (⟨"java/util/List", "size", "()I"⟩ : MethodName)) (y := (⟨"java/util/ImmutableCollections$ListN", "size", "()I"⟩ : MethodName)) hown (mvT hZ (hw _ (List.mem_of_getElem? (i := 21) rfl))) (mvT hZ (hw _ (List.mem_of_getElem? (i := 22) rfl))) (mvT hZ (hw _ (List.mem_of_getElem? (i := 23) rfl))) (mvT hZ (hw _ (List.mem_of_getElem? (i := 24) rfl))) (mvT hZ (hw _ (List.mem_of_getElem? (i := 25) rfl))) (mvT hZ (hw _ (List.mem_of_getElem? (i := 26) rfl))) (mvT hZ (hw _ (List.mem_of_getElem? (i := 27) rfl))) (mvT hZ (hw _ (List.mem_of_getElem? (i := 28) rfl))) (by decide) (backOf (W := 0) (rm3 l Z a0 hw [] w47 w53 c57 h0 n0 Z0 F55 A56 Sz) hZ (hw _ (List.mem_of_getElem? (i := 30) rfl)) (hw _ (List.mem_of_getElem? (i := 29) rfl)) (by decide) (by decide)) q49a q49b q49c (g := (mkF m 119 #[.val (.int i0), .val (.int (i0 &&& (7 : Int32))), .val (.ref w13), .val (.int (1 : Int32)), .val (.int (f1_0 w13 w13 w27 w37)), .unset] [(.ref w47)])) rfl (by rw [hml]; rfl) (Steps.refl _) (argsL := []) (rest := []) (lenOf pd_2 rfl) rfl (by show 2 * 0 + _ ≤ _; exact Nat.le_of_eq rfl) (hb hby at_119) (fun _ _ => ⟨rfl, hh48, (by decide : 0 + 0 ≤ _), (by decide : 0 + 0 ≤ _)⟩)
      dsimp only [Pt.U, Pt.locs, Pt.cells, Pt.slots] at X49 l49 y49 z49 st49 hQ49
      subst l49 y49 z49
      obtain ⟨rfl, N49q, hh49⟩ := hQ49
      have N49 := Fr.app N48 N49q
      refine own_step (fun _ => st49.trans) ?_
      show own_Ends p e below s _ _ _ T49 (mkF m 124 #[.val (.int i0), .val (.int (i0 &&& (7 : Int32))), .val (.ref w13), .val (.int (1 : Int32)), .val (.int (f1_0 w13 w13 w27 w37)), .unset] [(.int (0 : Int32))])
      refine own_step (fun _ => XS.ifNo X49.here hx rfl (hb hby at_124) rfl ((if0 _ _).trans (teq (show (0 : Int32) = (0 : Int32) from (by decide))).2)) ?_
      show own_Ends p e below s _ _ _ T49 (mkF m 127 #[.val (.int i0), .val (.int (i0 &&& (7 : Int32))), .val (.ref w13), .val (.int (1 : Int32)), .val (.int (f1_0 w13 w13 w27 w37)), .unset] [])
      refine own_step (fun _ => XS.aloadN X49.here hx rfl (hb hby at_127) rfl rfl) ?_
      show own_Ends p e below s _ _ _ T49 (mkF m 128 #[.val (.int i0), .val (.int (i0 &&& (7 : Int32))), .val (.ref w13), .val (.int (1 : Int32)), .val (.int (f1_0 w13 w13 w27 w37)), .unset] [(.ref w13)])
      obtain ⟨T50, X50, e50, st50⟩ := getS2 X49 hx hZ hown (host := "") (Or.inl (hw _ (List.mem_of_getElem? (i := 0) rfl))) Via.refl hh49 S9 (g := (mkF m 128 #[.val (.int i0), .val (.int (i0 &&& (7 : Int32))), .val (.ref w13), .val (.int (1 : Int32)), .val (.int (f1_0 w13 w13 w27 w37)), .unset] [(.ref w13)])) rfl (hb hby at_128)
      refine own_step st50 ?_
      show own_Ends p e below s _ _ _ T50 (mkF m 131 #[.val (.int i0), .val (.int (i0 &&& (7 : Int32))), .val (.ref w13), .val (.int (1 : Int32)), .val (.int (f1_0 w13 w13 w27 w37)), .unset] [(.ref w7), (.ref w13)])
      by_cases hc131 : w13 = w7
      · have hv_f_t_t := hv_f_t.trans (if_pos hc131)
        refine own_step (fun _ => Jvm.RoadKit.acmp (g := (mkF m 131 #[.val (.int i0), .val (.int (i0 &&& (7 : Int32))), .val (.ref w13), .val (.int (1 : Int32)), .val (.int (f1_0 w13 w13 w27 w37)), .unset] [(.ref w7), (.ref w13)])) X50 hx rfl rfl rfl (pc0 := 131) (pc' := 138) (same := true) rfl (hb hby at_131) rfl (decide_eq_true (congrArg Value.ref hc131)) (by decide) (by decide)) ?_
        show own_Ends p e below s _ _ _ T50 (mkF m 138 #[.val (.int i0), .val (.int (i0 &&& (7 : Int32))), .val (.ref w13), .val (.int (1 : Int32)), .val (.int (f1_0 w13 w13 w27 w37)), .unset] [])
        refine own_step (fun _ => XS.iconst X50.here hx rfl (hb hby at_138)) ?_
        show own_Ends p e below s _ _ _ T50 (mkF m 139 #[.val (.int i0), .val (.int (i0 &&& (7 : Int32))), .val (.ref w13), .val (.int (1 : Int32)), .val (.int (f1_0 w13 w13 w27 w37)), .unset] [(.int (0 : Int32))])
        refine own_step (fun _ => XS.istore X50.here hx rfl (hb hby at_139) rfl (l' := #[.val (.int i0), .val (.int (i0 &&& (7 : Int32))), .val (.ref w13), .val (.int (1 : Int32)), .val (.int (f1_0 w13 w13 w27 w37)), .val (.int (0 : Int32))]) rfl) ?_
        show own_Ends p e below s _ _ _ T50 (mkF m 141 #[.val (.int i0), .val (.int (i0 &&& (7 : Int32))), .val (.ref w13), .val (.int (1 : Int32)), .val (.int (f1_0 w13 w13 w27 w37)), .val (.int (0 : Int32))] [])
        refine own_step (fun _ => XS.iload X50.here hx rfl (hb hby at_141) rfl) ?_
        show own_Ends p e below s _ _ _ T50 (mkF m 143 #[.val (.int i0), .val (.int (i0 &&& (7 : Int32))), .val (.ref w13), .val (.int (1 : Int32)), .val (.int (f1_0 w13 w13 w27 w37)), .val (.int (0 : Int32))] [(.int (f1_0 w13 w13 w27 w37))])
        refine own_step (fun _ => XS.iloadN X50.here hx rfl (hb hby at_143) rfl) ?_
        show own_Ends p e below s _ _ _ T50 (mkF m 144 #[.val (.int i0), .val (.int (i0 &&& (7 : Int32))), .val (.ref w13), .val (.int (1 : Int32)), .val (.int (f1_0 w13 w13 w27 w37)), .val (.int (0 : Int32))] [(.int (1 : Int32)), (.int (f1_0 w13 w13 w27 w37))])
        by_cases hc144 : (f1_0 w13 w13 w27 w37) = (1 : Int32)
        · have hv_f_t_t_t := hv_f_t_t.trans (if_pos hc144)
          refine own_step (fun _ => XS.icmpNo X50.here hx rfl (hb hby at_144) rfl (teq hc144).2) ?_
          show own_Ends p e below s _ _ _ T50 (mkF m 147 #[.val (.int i0), .val (.int (i0 &&& (7 : Int32))), .val (.ref w13), .val (.int (1 : Int32)), .val (.int (f1_0 w13 w13 w27 w37)), .val (.int (0 : Int32))] [])
          refine own_step (fun _ => XS.iload X50.here hx rfl (hb hby at_147) rfl) ?_
          show own_Ends p e below s _ _ _ T50 (mkF m 149 #[.val (.int i0), .val (.int (i0 &&& (7 : Int32))), .val (.ref w13), .val (.int (1 : Int32)), .val (.int (f1_0 w13 w13 w27 w37)), .val (.int (0 : Int32))] [(.int (f1_0 w13 w13 w27 w37))])
          refine own_step (fun _ => XS.iload X50.here hx rfl (hb hby at_149) rfl) ?_
          show own_Ends p e below s _ _ _ T50 (mkF m 151 #[.val (.int i0), .val (.int (i0 &&& (7 : Int32))), .val (.ref w13), .val (.int (1 : Int32)), .val (.int (f1_0 w13 w13 w27 w37)), .val (.int (0 : Int32))] [(.int (0 : Int32)), (.int (f1_0 w13 w13 w27 w37))])
          by_cases hc151 : (f1_0 w13 w13 w27 w37) = (0 : Int32)
          · have hv_f_t_t_t_t := hv_f_t_t_t.trans (if_pos hc151)
            refine own_step (fun _ => XS.icmpNo X50.here hx rfl (hb hby at_151) rfl (teq hc151).2) ?_
            show own_Ends p e below s _ _ _ T50 (mkF m 154 #[.val (.int i0), .val (.int (i0 &&& (7 : Int32))), .val (.ref w13), .val (.int (1 : Int32)), .val (.int (f1_0 w13 w13 w27 w37)), .val (.int (0 : Int32))] [])
            refine own_step (fun _ => XS.iconst X50.here hx rfl (hb hby at_154)) ?_
            show own_Ends p e below s _ _ _ T50 (mkF m 155 #[.val (.int i0), .val (.int (i0 &&& (7 : Int32))), .val (.ref w13), .val (.int (1 : Int32)), .val (.int (f1_0 w13 w13 w27 w37)), .val (.int (0 : Int32))] [(.int (1 : Int32))])
            refine own_step (fun _ => XS.goto X50.here hx rfl (pc0 := 155) (pc' := 159) rfl (hb hby at_155) (by decide) (by decide)) ?_
            show own_Ends p e below s _ _ _ T50 (mkF m 159 #[.val (.int i0), .val (.int (i0 &&& (7 : Int32))), .val (.ref w13), .val (.int (1 : Int32)), .val (.int (f1_0 w13 w13 w27 w37)), .val (.int (0 : Int32))] [(.int (1 : Int32))])
            exact own_retN X50 (t := .boolean) hx hret hlk (hb hby at_159) (by decide) (by decide) (by simp) ⟨congrArg (fun z => some (Value.int z)) hv_f_t_t_t_t.symm, N49, e50⟩
          · have hv_f_t_t_t_f := hv_f_t_t_t.trans (if_neg hc151)
            refine own_step (fun _ => XS.icmpYes X50.here hx rfl (pc0 := 151) (pc' := 158) rfl (hb hby at_151) rfl (feq hc151).2 (by decide) (by decide)) ?_
            show own_Ends p e below s _ _ _ T50 (mkF m 158 #[.val (.int i0), .val (.int (i0 &&& (7 : Int32))), .val (.ref w13), .val (.int (1 : Int32)), .val (.int (f1_0 w13 w13 w27 w37)), .val (.int (0 : Int32))] [])
            refine own_step (fun _ => XS.iconst X50.here hx rfl (hb hby at_158)) ?_
            show own_Ends p e below s _ _ _ T50 (mkF m 159 #[.val (.int i0), .val (.int (i0 &&& (7 : Int32))), .val (.ref w13), .val (.int (1 : Int32)), .val (.int (f1_0 w13 w13 w27 w37)), .val (.int (0 : Int32))] [(.int (0 : Int32))])
            exact own_retN X50 (t := .boolean) hx hret hlk (hb hby at_159) (by decide) (by decide) (by simp) ⟨congrArg (fun z => some (Value.int z)) hv_f_t_t_t_f.symm, N49, e50⟩
        · have hv_f_t_t_f := hv_f_t_t.trans (if_neg hc144)
          refine own_step (fun _ => XS.icmpYes X50.here hx rfl (pc0 := 144) (pc' := 158) rfl (hb hby at_144) rfl (feq hc144).2 (by decide) (by decide)) ?_
          show own_Ends p e below s _ _ _ T50 (mkF m 158 #[.val (.int i0), .val (.int (i0 &&& (7 : Int32))), .val (.ref w13), .val (.int (1 : Int32)), .val (.int (f1_0 w13 w13 w27 w37)), .val (.int (0 : Int32))] [])
          refine own_step (fun _ => XS.iconst X50.here hx rfl (hb hby at_158)) ?_
          show own_Ends p e below s _ _ _ T50 (mkF m 159 #[.val (.int i0), .val (.int (i0 &&& (7 : Int32))), .val (.ref w13), .val (.int (1 : Int32)), .val (.int (f1_0 w13 w13 w27 w37)), .val (.int (0 : Int32))] [(.int (0 : Int32))])
          exact own_retN X50 (t := .boolean) hx hret hlk (hb hby at_159) (by decide) (by decide) (by simp) ⟨congrArg (fun z => some (Value.int z)) hv_f_t_t_f.symm, N49, e50⟩
      · have hv_f_t_f := hv_f_t.trans (if_neg hc131)
        refine own_step (fun _ => Jvm.RoadKit.acmp (g := (mkF m 131 #[.val (.int i0), .val (.int (i0 &&& (7 : Int32))), .val (.ref w13), .val (.int (1 : Int32)), .val (.int (f1_0 w13 w13 w27 w37)), .unset] [(.ref w7), (.ref w13)])) X50 hx rfl rfl rfl (pc0 := 131) (pc' := 134) (same := false) rfl (hb hby at_131) rfl (decide_eq_false fun q => hc131 (Value.ref.inj q)) (by decide) (by decide)) ?_
        show own_Ends p e below s _ _ _ T50 (mkF m 134 #[.val (.int i0), .val (.int (i0 &&& (7 : Int32))), .val (.ref w13), .val (.int (1 : Int32)), .val (.int (f1_0 w13 w13 w27 w37)), .unset] [])
        refine own_step (fun _ => XS.iconst X50.here hx rfl (hb hby at_134)) ?_
        show own_Ends p e below s _ _ _ T50 (mkF m 135 #[.val (.int i0), .val (.int (i0 &&& (7 : Int32))), .val (.ref w13), .val (.int (1 : Int32)), .val (.int (f1_0 w13 w13 w27 w37)), .unset] [(.int (1 : Int32))])
        refine own_step (fun _ => XS.goto X50.here hx rfl (pc0 := 135) (pc' := 139) rfl (hb hby at_135) (by decide) (by decide)) ?_
        show own_Ends p e below s _ _ _ T50 (mkF m 139 #[.val (.int i0), .val (.int (i0 &&& (7 : Int32))), .val (.ref w13), .val (.int (1 : Int32)), .val (.int (f1_0 w13 w13 w27 w37)), .unset] [(.int (1 : Int32))])
        refine own_step (fun _ => XS.istore X50.here hx rfl (hb hby at_139) rfl (l' := #[.val (.int i0), .val (.int (i0 &&& (7 : Int32))), .val (.ref w13), .val (.int (1 : Int32)), .val (.int (f1_0 w13 w13 w27 w37)), .val (.int (1 : Int32))]) rfl) ?_
        show own_Ends p e below s _ _ _ T50 (mkF m 141 #[.val (.int i0), .val (.int (i0 &&& (7 : Int32))), .val (.ref w13), .val (.int (1 : Int32)), .val (.int (f1_0 w13 w13 w27 w37)), .val (.int (1 : Int32))] [])
        refine own_step (fun _ => XS.iload X50.here hx rfl (hb hby at_141) rfl) ?_
        show own_Ends p e below s _ _ _ T50 (mkF m 143 #[.val (.int i0), .val (.int (i0 &&& (7 : Int32))), .val (.ref w13), .val (.int (1 : Int32)), .val (.int (f1_0 w13 w13 w27 w37)), .val (.int (1 : Int32))] [(.int (f1_0 w13 w13 w27 w37))])
        refine own_step (fun _ => XS.iloadN X50.here hx rfl (hb hby at_143) rfl) ?_
        show own_Ends p e below s _ _ _ T50 (mkF m 144 #[.val (.int i0), .val (.int (i0 &&& (7 : Int32))), .val (.ref w13), .val (.int (1 : Int32)), .val (.int (f1_0 w13 w13 w27 w37)), .val (.int (1 : Int32))] [(.int (1 : Int32)), (.int (f1_0 w13 w13 w27 w37))])
        by_cases hc144 : (f1_0 w13 w13 w27 w37) = (1 : Int32)
        · have hv_f_t_f_t := hv_f_t_f.trans (if_pos hc144)
          refine own_step (fun _ => XS.icmpNo X50.here hx rfl (hb hby at_144) rfl (teq hc144).2) ?_
          show own_Ends p e below s _ _ _ T50 (mkF m 147 #[.val (.int i0), .val (.int (i0 &&& (7 : Int32))), .val (.ref w13), .val (.int (1 : Int32)), .val (.int (f1_0 w13 w13 w27 w37)), .val (.int (1 : Int32))] [])
          refine own_step (fun _ => XS.iload X50.here hx rfl (hb hby at_147) rfl) ?_
          show own_Ends p e below s _ _ _ T50 (mkF m 149 #[.val (.int i0), .val (.int (i0 &&& (7 : Int32))), .val (.ref w13), .val (.int (1 : Int32)), .val (.int (f1_0 w13 w13 w27 w37)), .val (.int (1 : Int32))] [(.int (f1_0 w13 w13 w27 w37))])
          refine own_step (fun _ => XS.iload X50.here hx rfl (hb hby at_149) rfl) ?_
          show own_Ends p e below s _ _ _ T50 (mkF m 151 #[.val (.int i0), .val (.int (i0 &&& (7 : Int32))), .val (.ref w13), .val (.int (1 : Int32)), .val (.int (f1_0 w13 w13 w27 w37)), .val (.int (1 : Int32))] [(.int (1 : Int32)), (.int (f1_0 w13 w13 w27 w37))])
          by_cases hc151 : (f1_0 w13 w13 w27 w37) = (1 : Int32)
          · have hv_f_t_f_t_t := hv_f_t_f_t.trans (if_pos hc151)
            refine own_step (fun _ => XS.icmpNo X50.here hx rfl (hb hby at_151) rfl (teq hc151).2) ?_
            show own_Ends p e below s _ _ _ T50 (mkF m 154 #[.val (.int i0), .val (.int (i0 &&& (7 : Int32))), .val (.ref w13), .val (.int (1 : Int32)), .val (.int (f1_0 w13 w13 w27 w37)), .val (.int (1 : Int32))] [])
            refine own_step (fun _ => XS.iconst X50.here hx rfl (hb hby at_154)) ?_
            show own_Ends p e below s _ _ _ T50 (mkF m 155 #[.val (.int i0), .val (.int (i0 &&& (7 : Int32))), .val (.ref w13), .val (.int (1 : Int32)), .val (.int (f1_0 w13 w13 w27 w37)), .val (.int (1 : Int32))] [(.int (1 : Int32))])
            refine own_step (fun _ => XS.goto X50.here hx rfl (pc0 := 155) (pc' := 159) rfl (hb hby at_155) (by decide) (by decide)) ?_
            show own_Ends p e below s _ _ _ T50 (mkF m 159 #[.val (.int i0), .val (.int (i0 &&& (7 : Int32))), .val (.ref w13), .val (.int (1 : Int32)), .val (.int (f1_0 w13 w13 w27 w37)), .val (.int (1 : Int32))] [(.int (1 : Int32))])
            exact own_retN X50 (t := .boolean) hx hret hlk (hb hby at_159) (by decide) (by decide) (by simp) ⟨congrArg (fun z => some (Value.int z)) hv_f_t_f_t_t.symm, N49, e50⟩
          · have hv_f_t_f_t_f := hv_f_t_f_t.trans (if_neg hc151)
            refine own_step (fun _ => XS.icmpYes X50.here hx rfl (pc0 := 151) (pc' := 158) rfl (hb hby at_151) rfl (feq hc151).2 (by decide) (by decide)) ?_
            show own_Ends p e below s _ _ _ T50 (mkF m 158 #[.val (.int i0), .val (.int (i0 &&& (7 : Int32))), .val (.ref w13), .val (.int (1 : Int32)), .val (.int (f1_0 w13 w13 w27 w37)), .val (.int (1 : Int32))] [])
            refine own_step (fun _ => XS.iconst X50.here hx rfl (hb hby at_158)) ?_
            show own_Ends p e below s _ _ _ T50 (mkF m 159 #[.val (.int i0), .val (.int (i0 &&& (7 : Int32))), .val (.ref w13), .val (.int (1 : Int32)), .val (.int (f1_0 w13 w13 w27 w37)), .val (.int (1 : Int32))] [(.int (0 : Int32))])
            exact own_retN X50 (t := .boolean) hx hret hlk (hb hby at_159) (by decide) (by decide) (by simp) ⟨congrArg (fun z => some (Value.int z)) hv_f_t_f_t_f.symm, N49, e50⟩
        · have hv_f_t_f_f := hv_f_t_f.trans (if_neg hc144)
          refine own_step (fun _ => XS.icmpYes X50.here hx rfl (pc0 := 144) (pc' := 158) rfl (hb hby at_144) rfl (feq hc144).2 (by decide) (by decide)) ?_
          show own_Ends p e below s _ _ _ T50 (mkF m 158 #[.val (.int i0), .val (.int (i0 &&& (7 : Int32))), .val (.ref w13), .val (.int (1 : Int32)), .val (.int (f1_0 w13 w13 w27 w37)), .val (.int (1 : Int32))] [])
          refine own_step (fun _ => XS.iconst X50.here hx rfl (hb hby at_158)) ?_
          show own_Ends p e below s _ _ _ T50 (mkF m 159 #[.val (.int i0), .val (.int (i0 &&& (7 : Int32))), .val (.ref w13), .val (.int (1 : Int32)), .val (.int (f1_0 w13 w13 w27 w37)), .val (.int (1 : Int32))] [(.int (0 : Int32))])
          exact own_retN X50 (t := .boolean) hx hret hlk (hb hby at_159) (by decide) (by decide) (by simp) ⟨congrArg (fun z => some (Value.int z)) hv_f_t_f_f.symm, N49, e50⟩
    · have hv_f_f := hv_f.trans (if_neg hc20)
      refine own_step (fun _ => XS.icmpYes X0.here hx rfl (pc0 := 20) (pc' := 32) rfl (hb hby at_20) rfl (feq hc20).2 (by decide) (by decide)) ?_
      show own_Ends p e below s _ _ _ T0 (mkF m 32 #[.val (.int i0), .val (.int (i0 &&& (7 : Int32))), .unset, .unset, .unset, .unset] [])
      refine own_step (fun _ => XS.iloadN X0.here hx rfl (hb hby at_32) rfl) ?_
      show own_Ends p e below s _ _ _ T0 (mkF m 33 #[.val (.int i0), .val (.int (i0 &&& (7 : Int32))), .unset, .unset, .unset, .unset] [(.int (i0 &&& (7 : Int32)))])
      refine own_step (fun _ => XS.iconst X0.here hx rfl (hb hby at_33)) ?_
      show own_Ends p e below s _ _ _ T0 (mkF m 34 #[.val (.int i0), .val (.int (i0 &&& (7 : Int32))), .unset, .unset, .unset, .unset] [(.int (2 : Int32)), (.int (i0 &&& (7 : Int32)))])
      by_cases hc34 : (i0 &&& (7 : Int32)) = (2 : Int32)
      · have hv_f_f_t := hv_f_f.trans (if_pos hc34)
        refine own_step (fun _ => XS.icmpNo X0.here hx rfl (hb hby at_34) rfl (teq hc34).2) ?_
        show own_Ends p e below s _ _ _ T0 (mkF m 37 #[.val (.int i0), .val (.int (i0 &&& (7 : Int32))), .unset, .unset, .unset, .unset] [])
        obtain ⟨T51, X51, e51, st51⟩ := getS2 X0 hx hZ hown (host := "") (Or.inl (hw _ (List.mem_of_getElem? (i := 49) rfl))) Via.refl e0 S29 (g := (mkF m 37 #[.val (.int i0), .val (.int (i0 &&& (7 : Int32))), .unset, .unset, .unset, .unset] [])) rfl (hb hby at_37)
        refine own_step st51 ?_
        show own_Ends p e below s _ _ _ T51 (mkF m 40 #[.val (.int i0), .val (.int (i0 &&& (7 : Int32))), .unset, .unset, .unset, .unset] [(.ref w27)])
        refine own_step (fun _ => XS.astoreN X51.here hx rfl (hb hby at_40) rfl rfl (l' := #[.val (.int i0), .val (.int (i0 &&& (7 : Int32))), .val (.ref w27), .unset, .unset, .unset]) rfl) ?_
        show own_Ends p e below s _ _ _ T51 (mkF m 41 #[.val (.int i0), .val (.int (i0 &&& (7 : Int32))), .val (.ref w27), .unset, .unset, .unset] [])
        refine own_step (fun _ => XS.iconst X51.here hx rfl (hb hby at_41)) ?_
        show own_Ends p e below s _ _ _ T51 (mkF m 42 #[.val (.int i0), .val (.int (i0 &&& (7 : Int32))), .val (.ref w27), .unset, .unset, .unset] [(.int (1 : Int32))])
        refine own_step (fun _ => XS.istoreN X51.here hx rfl (hb hby at_42) rfl (l' := #[.val (.int i0), .val (.int (i0 &&& (7 : Int32))), .val (.ref w27), .val (.int (1 : Int32)), .unset, .unset]) rfl) ?_
        show own_Ends p e below s _ _ _ T51 (mkF m 43 #[.val (.int i0), .val (.int (i0 &&& (7 : Int32))), .val (.ref w27), .val (.int (1 : Int32)), .unset, .unset] [])
        refine own_step (fun _ => XS.goto X51.here hx rfl (pc0 := 43) (pc' := 109) rfl (hb hby at_43) (by decide) (by decide)) ?_
        show own_Ends p e below s _ _ _ T51 (mkF m 109 #[.val (.int i0), .val (.int (i0 &&& (7 : Int32))), .val (.ref w27), .val (.int (1 : Int32)), .unset, .unset] [])
        refine own_step (fun _ => XS.aloadN X51.here hx rfl (hb hby at_109) rfl rfl) ?_
        show own_Ends p e below s _ _ _ T51 (mkF m 110 #[.val (.int i0), .val (.int (i0 &&& (7 : Int32))), .val (.ref w27), .val (.int (1 : Int32)), .unset, .unset] [(.ref w27)])
        obtain ⟨cq52, kq52, q52a, q52b, q52c⟩ := isOf hZ e51 E30
        obtain ⟨_, _, ⟨T52, L52, k52, n52⟩, -, X52, ⟨Lc52, hQ52, l52, y52, z52⟩, st52⟩ := X51.virtualBack hx (y := (⟨"lomwright/lom/Datatype", "holdsText", "()Z"⟩ : MethodName)) (z := (⟨"lomwright/lom/Datatype", "holdsText", "()Z"⟩ : MethodName)) hown (mvT hZ (hw _ (List.mem_of_getElem? (i := 3) rfl))) (mvT hZ (hw _ (List.mem_of_getElem? (i := 4) rfl))) (notFace_of_selects (args := #[]) (mvT hZ (hw _ (List.mem_of_getElem? (i := 6) rfl)))) (mvT hZ (hw _ (List.mem_of_getElem? (i := 6) rfl))) (mvT hZ (hw _ (List.mem_of_getElem? (i := 5) rfl))) (by decide) (backOf (W := 0) (rm1 l Z a0 hw [] w27 w13 w27 w37 h0 n0 Z0 S15 S29 S39) hZ (hw _ (List.mem_of_getElem? (i := 7) rfl)) (hw _ (List.mem_of_getElem? (i := 1) rfl)) (by decide) (by decide)) q52a q52c (g := (mkF m 110 #[.val (.int i0), .val (.int (i0 &&& (7 : Int32))), .val (.ref w27), .val (.int (1 : Int32)), .unset, .unset] [(.ref w27)])) rfl (by rw [hml]; rfl) (Steps.refl _) (argsL := []) (rest := []) (lenOf pd_0 rfl) rfl (by show 2 * 0 + _ ≤ _; exact Nat.le_of_eq rfl) (hb hby at_110) (fun _ _ => ⟨rfl, e51, (by decide : 0 + 0 ≤ _), (by decide : 0 + 0 ≤ _)⟩)
        dsimp only [Pt.U, Pt.locs, Pt.cells, Pt.slots] at X52 l52 y52 z52 st52 hQ52
        subst l52 y52 z52
        obtain ⟨rfl, N52q, hh52⟩ := hQ52
        have N52 := Fr.app N0 N52q
        refine own_step (fun _ => st52.trans) ?_
        show own_Ends p e below s _ _ _ T52 (mkF m 113 #[.val (.int i0), .val (.int (i0 &&& (7 : Int32))), .val (.ref w27), .val (.int (1 : Int32)), .unset, .unset] [(.int (f1_0 w27 w13 w27 w37))])
        refine own_step (fun _ => XS.istore X52.here hx rfl (hb hby at_113) rfl (l' := #[.val (.int i0), .val (.int (i0 &&& (7 : Int32))), .val (.ref w27), .val (.int (1 : Int32)), .val (.int (f1_0 w27 w13 w27 w37)), .unset]) rfl) ?_
        show own_Ends p e below s _ _ _ T52 (mkF m 115 #[.val (.int i0), .val (.int (i0 &&& (7 : Int32))), .val (.ref w27), .val (.int (1 : Int32)), .val (.int (f1_0 w27 w13 w27 w37)), .unset] [])
        refine own_step (fun _ => XS.aloadN X52.here hx rfl (hb hby at_115) rfl rfl) ?_
        show own_Ends p e below s _ _ _ T52 (mkF m 116 #[.val (.int i0), .val (.int (i0 &&& (7 : Int32))), .val (.ref w27), .val (.int (1 : Int32)), .val (.int (f1_0 w27 w13 w27 w37)), .unset] [(.ref w27)])
        obtain ⟨cq53, kq53, q53a, q53b, q53c⟩ := isOf hZ hh52 E30
        obtain ⟨_, _, ⟨T53, L53, k53, n53⟩, -, X53, ⟨Lc53, hQ53, l53, y53, z53⟩, st53⟩ := X52.virtualBack hx (y := (⟨"lomwright/lom/Datatype", "components", "()Ljava/util/List;"⟩ : MethodName)) (z := (⟨"lomwright/lom/Datatype", "components", "()Ljava/util/List;"⟩ : MethodName)) hown (mvT hZ (hw _ (List.mem_of_getElem? (i := 14) rfl))) (mvT hZ (hw _ (List.mem_of_getElem? (i := 15) rfl))) (notFace_of_selects (args := #[]) (mvT hZ (hw _ (List.mem_of_getElem? (i := 17) rfl)))) (mvT hZ (hw _ (List.mem_of_getElem? (i := 17) rfl))) (mvT hZ (hw _ (List.mem_of_getElem? (i := 16) rfl))) (by decide) (backOf (W := 0) (rm2 l Z a0 hw [] w27 w47 h0 n0 Z0 F110) hZ (hw _ (List.mem_of_getElem? (i := 18) rfl)) (hw _ (List.mem_of_getElem? (i := 1) rfl)) (by decide) (by decide)) q53a q53c (g := (mkF m 116 #[.val (.int i0), .val (.int (i0 &&& (7 : Int32))), .val (.ref w27), .val (.int (1 : Int32)), .val (.int (f1_0 w27 w13 w27 w37)), .unset] [(.ref w27)])) rfl (by rw [hml]; rfl) (Steps.refl _) (argsL := []) (rest := []) (lenOf pd_1 rfl) rfl (by show 2 * 0 + _ ≤ _; exact Nat.le_of_eq rfl) (hb hby at_116) (fun _ _ => ⟨rfl, hh52, (by decide : 0 + 0 ≤ _), (by decide : 0 + 0 ≤ _)⟩)
        dsimp only [Pt.U, Pt.locs, Pt.cells, Pt.slots] at X53 l53 y53 z53 st53 hQ53
        subst l53 y53 z53
        obtain ⟨rfl, N53q, hh53⟩ := hQ53
        have N53 := Fr.app N52 N53q
        refine own_step (fun _ => st53.trans) ?_
        show own_Ends p e below s _ _ _ T53 (mkF m 119 #[.val (.int i0), .val (.int (i0 &&& (7 : Int32))), .val (.ref w27), .val (.int (1 : Int32)), .val (.int (f1_0 w27 w13 w27 w37)), .unset] [(.ref w47)])
        obtain ⟨cq54, kq54, q54a, q54b, q54c⟩ := isOf hZ hh53 E50
        obtain ⟨_, _, ⟨T54, L54, k54, n54⟩, -, X54, ⟨Lc54, hQ54, l54, y54, z54⟩, st54⟩ := X53.interfaceBack hx (xi := (⟨"java/util/List", "size", "()I"⟩ : MethodName)) (y := (⟨"java/util/ImmutableCollections$ListN", "size", "()I"⟩ : MethodName)) hown (mvT hZ (hw _ (List.mem_of_getElem? (i := 21) rfl))) (mvT hZ (hw _ (List.mem_of_getElem? (i := 22) rfl))) (mvT hZ (hw _ (List.mem_of_getElem? (i := 23) rfl))) (mvT hZ (hw _ (List.mem_of_getElem? (i := 24) rfl))) (mvT hZ (hw _ (List.mem_of_getElem? (i := 25) rfl))) (mvT hZ (hw _ (List.mem_of_getElem? (i := 26) rfl))) (mvT hZ (hw _ (List.mem_of_getElem? (i := 27) rfl))) (mvT hZ (hw _ (List.mem_of_getElem? (i := 28) rfl))) (by decide) (backOf (W := 0) (rm3 l Z a0 hw [] w47 w53 c57 h0 n0 Z0 F55 A56 Sz) hZ (hw _ (List.mem_of_getElem? (i := 30) rfl)) (hw _ (List.mem_of_getElem? (i := 29) rfl)) (by decide) (by decide)) q54a q54b q54c (g := (mkF m 119 #[.val (.int i0), .val (.int (i0 &&& (7 : Int32))), .val (.ref w27), .val (.int (1 : Int32)), .val (.int (f1_0 w27 w13 w27 w37)), .unset] [(.ref w47)])) rfl (by rw [hml]; rfl) (Steps.refl _) (argsL := []) (rest := []) (lenOf pd_2 rfl) rfl (by show 2 * 0 + _ ≤ _; exact Nat.le_of_eq rfl) (hb hby at_119) (fun _ _ => ⟨rfl, hh53, (by decide : 0 + 0 ≤ _), (by decide : 0 + 0 ≤ _)⟩)
        dsimp only [Pt.U, Pt.locs, Pt.cells, Pt.slots] at X54 l54 y54 z54 st54 hQ54
        subst l54 y54 z54
        obtain ⟨rfl, N54q, hh54⟩ := hQ54
        have N54 := Fr.app N53 N54q
        refine own_step (fun _ => st54.trans) ?_
        show own_Ends p e below s _ _ _ T54 (mkF m 124 #[.val (.int i0), .val (.int (i0 &&& (7 : Int32))), .val (.ref w27), .val (.int (1 : Int32)), .val (.int (f1_0 w27 w13 w27 w37)), .unset] [(.int (0 : Int32))])
        refine own_step (fun _ => XS.ifNo X54.here hx rfl (hb hby at_124) rfl ((if0 _ _).trans (teq (show (0 : Int32) = (0 : Int32) from (by decide))).2)) ?_
        show own_Ends p e below s _ _ _ T54 (mkF m 127 #[.val (.int i0), .val (.int (i0 &&& (7 : Int32))), .val (.ref w27), .val (.int (1 : Int32)), .val (.int (f1_0 w27 w13 w27 w37)), .unset] [])
        refine own_step (fun _ => XS.aloadN X54.here hx rfl (hb hby at_127) rfl rfl) ?_
        show own_Ends p e below s _ _ _ T54 (mkF m 128 #[.val (.int i0), .val (.int (i0 &&& (7 : Int32))), .val (.ref w27), .val (.int (1 : Int32)), .val (.int (f1_0 w27 w13 w27 w37)), .unset] [(.ref w27)])
        obtain ⟨T55, X55, e55, st55⟩ := getS2 X54 hx hZ hown (host := "") (Or.inl (hw _ (List.mem_of_getElem? (i := 0) rfl))) Via.refl hh54 S9 (g := (mkF m 128 #[.val (.int i0), .val (.int (i0 &&& (7 : Int32))), .val (.ref w27), .val (.int (1 : Int32)), .val (.int (f1_0 w27 w13 w27 w37)), .unset] [(.ref w27)])) rfl (hb hby at_128)
        refine own_step st55 ?_
        show own_Ends p e below s _ _ _ T55 (mkF m 131 #[.val (.int i0), .val (.int (i0 &&& (7 : Int32))), .val (.ref w27), .val (.int (1 : Int32)), .val (.int (f1_0 w27 w13 w27 w37)), .unset] [(.ref w7), (.ref w27)])
        by_cases hc131 : w27 = w7
        · have hv_f_f_t_t := hv_f_f_t.trans (if_pos hc131)
          refine own_step (fun _ => Jvm.RoadKit.acmp (g := (mkF m 131 #[.val (.int i0), .val (.int (i0 &&& (7 : Int32))), .val (.ref w27), .val (.int (1 : Int32)), .val (.int (f1_0 w27 w13 w27 w37)), .unset] [(.ref w7), (.ref w27)])) X55 hx rfl rfl rfl (pc0 := 131) (pc' := 138) (same := true) rfl (hb hby at_131) rfl (decide_eq_true (congrArg Value.ref hc131)) (by decide) (by decide)) ?_
          show own_Ends p e below s _ _ _ T55 (mkF m 138 #[.val (.int i0), .val (.int (i0 &&& (7 : Int32))), .val (.ref w27), .val (.int (1 : Int32)), .val (.int (f1_0 w27 w13 w27 w37)), .unset] [])
          refine own_step (fun _ => XS.iconst X55.here hx rfl (hb hby at_138)) ?_
          show own_Ends p e below s _ _ _ T55 (mkF m 139 #[.val (.int i0), .val (.int (i0 &&& (7 : Int32))), .val (.ref w27), .val (.int (1 : Int32)), .val (.int (f1_0 w27 w13 w27 w37)), .unset] [(.int (0 : Int32))])
          refine own_step (fun _ => XS.istore X55.here hx rfl (hb hby at_139) rfl (l' := #[.val (.int i0), .val (.int (i0 &&& (7 : Int32))), .val (.ref w27), .val (.int (1 : Int32)), .val (.int (f1_0 w27 w13 w27 w37)), .val (.int (0 : Int32))]) rfl) ?_
          show own_Ends p e below s _ _ _ T55 (mkF m 141 #[.val (.int i0), .val (.int (i0 &&& (7 : Int32))), .val (.ref w27), .val (.int (1 : Int32)), .val (.int (f1_0 w27 w13 w27 w37)), .val (.int (0 : Int32))] [])
          refine own_step (fun _ => XS.iload X55.here hx rfl (hb hby at_141) rfl) ?_
          show own_Ends p e below s _ _ _ T55 (mkF m 143 #[.val (.int i0), .val (.int (i0 &&& (7 : Int32))), .val (.ref w27), .val (.int (1 : Int32)), .val (.int (f1_0 w27 w13 w27 w37)), .val (.int (0 : Int32))] [(.int (f1_0 w27 w13 w27 w37))])
          refine own_step (fun _ => XS.iloadN X55.here hx rfl (hb hby at_143) rfl) ?_
          show own_Ends p e below s _ _ _ T55 (mkF m 144 #[.val (.int i0), .val (.int (i0 &&& (7 : Int32))), .val (.ref w27), .val (.int (1 : Int32)), .val (.int (f1_0 w27 w13 w27 w37)), .val (.int (0 : Int32))] [(.int (1 : Int32)), (.int (f1_0 w27 w13 w27 w37))])
          by_cases hc144 : (f1_0 w27 w13 w27 w37) = (1 : Int32)
          · have hv_f_f_t_t_t := hv_f_f_t_t.trans (if_pos hc144)
            refine own_step (fun _ => XS.icmpNo X55.here hx rfl (hb hby at_144) rfl (teq hc144).2) ?_
            show own_Ends p e below s _ _ _ T55 (mkF m 147 #[.val (.int i0), .val (.int (i0 &&& (7 : Int32))), .val (.ref w27), .val (.int (1 : Int32)), .val (.int (f1_0 w27 w13 w27 w37)), .val (.int (0 : Int32))] [])
            refine own_step (fun _ => XS.iload X55.here hx rfl (hb hby at_147) rfl) ?_
            show own_Ends p e below s _ _ _ T55 (mkF m 149 #[.val (.int i0), .val (.int (i0 &&& (7 : Int32))), .val (.ref w27), .val (.int (1 : Int32)), .val (.int (f1_0 w27 w13 w27 w37)), .val (.int (0 : Int32))] [(.int (f1_0 w27 w13 w27 w37))])
            refine own_step (fun _ => XS.iload X55.here hx rfl (hb hby at_149) rfl) ?_
            show own_Ends p e below s _ _ _ T55 (mkF m 151 #[.val (.int i0), .val (.int (i0 &&& (7 : Int32))), .val (.ref w27), .val (.int (1 : Int32)), .val (.int (f1_0 w27 w13 w27 w37)), .val (.int (0 : Int32))] [(.int (0 : Int32)), (.int (f1_0 w27 w13 w27 w37))])
            by_cases hc151 : (f1_0 w27 w13 w27 w37) = (0 : Int32)
            · have hv_f_f_t_t_t_t := hv_f_f_t_t_t.trans (if_pos hc151)
              refine own_step (fun _ => XS.icmpNo X55.here hx rfl (hb hby at_151) rfl (teq hc151).2) ?_
              show own_Ends p e below s _ _ _ T55 (mkF m 154 #[.val (.int i0), .val (.int (i0 &&& (7 : Int32))), .val (.ref w27), .val (.int (1 : Int32)), .val (.int (f1_0 w27 w13 w27 w37)), .val (.int (0 : Int32))] [])
              refine own_step (fun _ => XS.iconst X55.here hx rfl (hb hby at_154)) ?_
              show own_Ends p e below s _ _ _ T55 (mkF m 155 #[.val (.int i0), .val (.int (i0 &&& (7 : Int32))), .val (.ref w27), .val (.int (1 : Int32)), .val (.int (f1_0 w27 w13 w27 w37)), .val (.int (0 : Int32))] [(.int (1 : Int32))])
              refine own_step (fun _ => XS.goto X55.here hx rfl (pc0 := 155) (pc' := 159) rfl (hb hby at_155) (by decide) (by decide)) ?_
              show own_Ends p e below s _ _ _ T55 (mkF m 159 #[.val (.int i0), .val (.int (i0 &&& (7 : Int32))), .val (.ref w27), .val (.int (1 : Int32)), .val (.int (f1_0 w27 w13 w27 w37)), .val (.int (0 : Int32))] [(.int (1 : Int32))])
              exact own_retN X55 (t := .boolean) hx hret hlk (hb hby at_159) (by decide) (by decide) (by simp) ⟨congrArg (fun z => some (Value.int z)) hv_f_f_t_t_t_t.symm, N54, e55⟩
            · have hv_f_f_t_t_t_f := hv_f_f_t_t_t.trans (if_neg hc151)
              refine own_step (fun _ => XS.icmpYes X55.here hx rfl (pc0 := 151) (pc' := 158) rfl (hb hby at_151) rfl (feq hc151).2 (by decide) (by decide)) ?_
              show own_Ends p e below s _ _ _ T55 (mkF m 158 #[.val (.int i0), .val (.int (i0 &&& (7 : Int32))), .val (.ref w27), .val (.int (1 : Int32)), .val (.int (f1_0 w27 w13 w27 w37)), .val (.int (0 : Int32))] [])
              refine own_step (fun _ => XS.iconst X55.here hx rfl (hb hby at_158)) ?_
              show own_Ends p e below s _ _ _ T55 (mkF m 159 #[.val (.int i0), .val (.int (i0 &&& (7 : Int32))), .val (.ref w27), .val (.int (1 : Int32)), .val (.int (f1_0 w27 w13 w27 w37)), .val (.int (0 : Int32))] [(.int (0 : Int32))])
              exact own_retN X55 (t := .boolean) hx hret hlk (hb hby at_159) (by decide) (by decide) (by simp) ⟨congrArg (fun z => some (Value.int z)) hv_f_f_t_t_t_f.symm, N54, e55⟩
          · have hv_f_f_t_t_f := hv_f_f_t_t.trans (if_neg hc144)
            refine own_step (fun _ => XS.icmpYes X55.here hx rfl (pc0 := 144) (pc' := 158) rfl (hb hby at_144) rfl (feq hc144).2 (by decide) (by decide)) ?_
            show own_Ends p e below s _ _ _ T55 (mkF m 158 #[.val (.int i0), .val (.int (i0 &&& (7 : Int32))), .val (.ref w27), .val (.int (1 : Int32)), .val (.int (f1_0 w27 w13 w27 w37)), .val (.int (0 : Int32))] [])
            refine own_step (fun _ => XS.iconst X55.here hx rfl (hb hby at_158)) ?_
            show own_Ends p e below s _ _ _ T55 (mkF m 159 #[.val (.int i0), .val (.int (i0 &&& (7 : Int32))), .val (.ref w27), .val (.int (1 : Int32)), .val (.int (f1_0 w27 w13 w27 w37)), .val (.int (0 : Int32))] [(.int (0 : Int32))])
            exact own_retN X55 (t := .boolean) hx hret hlk (hb hby at_159) (by decide) (by decide) (by simp) ⟨congrArg (fun z => some (Value.int z)) hv_f_f_t_t_f.symm, N54, e55⟩
        · have hv_f_f_t_f := hv_f_f_t.trans (if_neg hc131)
          refine own_step (fun _ => Jvm.RoadKit.acmp (g := (mkF m 131 #[.val (.int i0), .val (.int (i0 &&& (7 : Int32))), .val (.ref w27), .val (.int (1 : Int32)), .val (.int (f1_0 w27 w13 w27 w37)), .unset] [(.ref w7), (.ref w27)])) X55 hx rfl rfl rfl (pc0 := 131) (pc' := 134) (same := false) rfl (hb hby at_131) rfl (decide_eq_false fun q => hc131 (Value.ref.inj q)) (by decide) (by decide)) ?_
          show own_Ends p e below s _ _ _ T55 (mkF m 134 #[.val (.int i0), .val (.int (i0 &&& (7 : Int32))), .val (.ref w27), .val (.int (1 : Int32)), .val (.int (f1_0 w27 w13 w27 w37)), .unset] [])
          refine own_step (fun _ => XS.iconst X55.here hx rfl (hb hby at_134)) ?_
          show own_Ends p e below s _ _ _ T55 (mkF m 135 #[.val (.int i0), .val (.int (i0 &&& (7 : Int32))), .val (.ref w27), .val (.int (1 : Int32)), .val (.int (f1_0 w27 w13 w27 w37)), .unset] [(.int (1 : Int32))])
          refine own_step (fun _ => XS.goto X55.here hx rfl (pc0 := 135) (pc' := 139) rfl (hb hby at_135) (by decide) (by decide)) ?_
          show own_Ends p e below s _ _ _ T55 (mkF m 139 #[.val (.int i0), .val (.int (i0 &&& (7 : Int32))), .val (.ref w27), .val (.int (1 : Int32)), .val (.int (f1_0 w27 w13 w27 w37)), .unset] [(.int (1 : Int32))])
          refine own_step (fun _ => XS.istore X55.here hx rfl (hb hby at_139) rfl (l' := #[.val (.int i0), .val (.int (i0 &&& (7 : Int32))), .val (.ref w27), .val (.int (1 : Int32)), .val (.int (f1_0 w27 w13 w27 w37)), .val (.int (1 : Int32))]) rfl) ?_
          show own_Ends p e below s _ _ _ T55 (mkF m 141 #[.val (.int i0), .val (.int (i0 &&& (7 : Int32))), .val (.ref w27), .val (.int (1 : Int32)), .val (.int (f1_0 w27 w13 w27 w37)), .val (.int (1 : Int32))] [])
          refine own_step (fun _ => XS.iload X55.here hx rfl (hb hby at_141) rfl) ?_
          show own_Ends p e below s _ _ _ T55 (mkF m 143 #[.val (.int i0), .val (.int (i0 &&& (7 : Int32))), .val (.ref w27), .val (.int (1 : Int32)), .val (.int (f1_0 w27 w13 w27 w37)), .val (.int (1 : Int32))] [(.int (f1_0 w27 w13 w27 w37))])
          refine own_step (fun _ => XS.iloadN X55.here hx rfl (hb hby at_143) rfl) ?_
          show own_Ends p e below s _ _ _ T55 (mkF m 144 #[.val (.int i0), .val (.int (i0 &&& (7 : Int32))), .val (.ref w27), .val (.int (1 : Int32)), .val (.int (f1_0 w27 w13 w27 w37)), .val (.int (1 : Int32))] [(.int (1 : Int32)), (.int (f1_0 w27 w13 w27 w37))])
          by_cases hc144 : (f1_0 w27 w13 w27 w37) = (1 : Int32)
          · have hv_f_f_t_f_t := hv_f_f_t_f.trans (if_pos hc144)
            refine own_step (fun _ => XS.icmpNo X55.here hx rfl (hb hby at_144) rfl (teq hc144).2) ?_
            show own_Ends p e below s _ _ _ T55 (mkF m 147 #[.val (.int i0), .val (.int (i0 &&& (7 : Int32))), .val (.ref w27), .val (.int (1 : Int32)), .val (.int (f1_0 w27 w13 w27 w37)), .val (.int (1 : Int32))] [])
            refine own_step (fun _ => XS.iload X55.here hx rfl (hb hby at_147) rfl) ?_
            show own_Ends p e below s _ _ _ T55 (mkF m 149 #[.val (.int i0), .val (.int (i0 &&& (7 : Int32))), .val (.ref w27), .val (.int (1 : Int32)), .val (.int (f1_0 w27 w13 w27 w37)), .val (.int (1 : Int32))] [(.int (f1_0 w27 w13 w27 w37))])
            refine own_step (fun _ => XS.iload X55.here hx rfl (hb hby at_149) rfl) ?_
            show own_Ends p e below s _ _ _ T55 (mkF m 151 #[.val (.int i0), .val (.int (i0 &&& (7 : Int32))), .val (.ref w27), .val (.int (1 : Int32)), .val (.int (f1_0 w27 w13 w27 w37)), .val (.int (1 : Int32))] [(.int (1 : Int32)), (.int (f1_0 w27 w13 w27 w37))])
            by_cases hc151 : (f1_0 w27 w13 w27 w37) = (1 : Int32)
            · have hv_f_f_t_f_t_t := hv_f_f_t_f_t.trans (if_pos hc151)
              refine own_step (fun _ => XS.icmpNo X55.here hx rfl (hb hby at_151) rfl (teq hc151).2) ?_
              show own_Ends p e below s _ _ _ T55 (mkF m 154 #[.val (.int i0), .val (.int (i0 &&& (7 : Int32))), .val (.ref w27), .val (.int (1 : Int32)), .val (.int (f1_0 w27 w13 w27 w37)), .val (.int (1 : Int32))] [])
              refine own_step (fun _ => XS.iconst X55.here hx rfl (hb hby at_154)) ?_
              show own_Ends p e below s _ _ _ T55 (mkF m 155 #[.val (.int i0), .val (.int (i0 &&& (7 : Int32))), .val (.ref w27), .val (.int (1 : Int32)), .val (.int (f1_0 w27 w13 w27 w37)), .val (.int (1 : Int32))] [(.int (1 : Int32))])
              refine own_step (fun _ => XS.goto X55.here hx rfl (pc0 := 155) (pc' := 159) rfl (hb hby at_155) (by decide) (by decide)) ?_
              show own_Ends p e below s _ _ _ T55 (mkF m 159 #[.val (.int i0), .val (.int (i0 &&& (7 : Int32))), .val (.ref w27), .val (.int (1 : Int32)), .val (.int (f1_0 w27 w13 w27 w37)), .val (.int (1 : Int32))] [(.int (1 : Int32))])
              exact own_retN X55 (t := .boolean) hx hret hlk (hb hby at_159) (by decide) (by decide) (by simp) ⟨congrArg (fun z => some (Value.int z)) hv_f_f_t_f_t_t.symm, N54, e55⟩
            · have hv_f_f_t_f_t_f := hv_f_f_t_f_t.trans (if_neg hc151)
              refine own_step (fun _ => XS.icmpYes X55.here hx rfl (pc0 := 151) (pc' := 158) rfl (hb hby at_151) rfl (feq hc151).2 (by decide) (by decide)) ?_
              show own_Ends p e below s _ _ _ T55 (mkF m 158 #[.val (.int i0), .val (.int (i0 &&& (7 : Int32))), .val (.ref w27), .val (.int (1 : Int32)), .val (.int (f1_0 w27 w13 w27 w37)), .val (.int (1 : Int32))] [])
              refine own_step (fun _ => XS.iconst X55.here hx rfl (hb hby at_158)) ?_
              show own_Ends p e below s _ _ _ T55 (mkF m 159 #[.val (.int i0), .val (.int (i0 &&& (7 : Int32))), .val (.ref w27), .val (.int (1 : Int32)), .val (.int (f1_0 w27 w13 w27 w37)), .val (.int (1 : Int32))] [(.int (0 : Int32))])
              exact own_retN X55 (t := .boolean) hx hret hlk (hb hby at_159) (by decide) (by decide) (by simp) ⟨congrArg (fun z => some (Value.int z)) hv_f_f_t_f_t_f.symm, N54, e55⟩
          · have hv_f_f_t_f_f := hv_f_f_t_f.trans (if_neg hc144)
            refine own_step (fun _ => XS.icmpYes X55.here hx rfl (pc0 := 144) (pc' := 158) rfl (hb hby at_144) rfl (feq hc144).2 (by decide) (by decide)) ?_
            show own_Ends p e below s _ _ _ T55 (mkF m 158 #[.val (.int i0), .val (.int (i0 &&& (7 : Int32))), .val (.ref w27), .val (.int (1 : Int32)), .val (.int (f1_0 w27 w13 w27 w37)), .val (.int (1 : Int32))] [])
            refine own_step (fun _ => XS.iconst X55.here hx rfl (hb hby at_158)) ?_
            show own_Ends p e below s _ _ _ T55 (mkF m 159 #[.val (.int i0), .val (.int (i0 &&& (7 : Int32))), .val (.ref w27), .val (.int (1 : Int32)), .val (.int (f1_0 w27 w13 w27 w37)), .val (.int (1 : Int32))] [(.int (0 : Int32))])
            exact own_retN X55 (t := .boolean) hx hret hlk (hb hby at_159) (by decide) (by decide) (by simp) ⟨congrArg (fun z => some (Value.int z)) hv_f_f_t_f_f.symm, N54, e55⟩
      · have hv_f_f_f := hv_f_f.trans (if_neg hc34)
        refine own_step (fun _ => XS.icmpYes X0.here hx rfl (pc0 := 34) (pc' := 46) rfl (hb hby at_34) rfl (feq hc34).2 (by decide) (by decide)) ?_
        show own_Ends p e below s _ _ _ T0 (mkF m 46 #[.val (.int i0), .val (.int (i0 &&& (7 : Int32))), .unset, .unset, .unset, .unset] [])
        refine own_step (fun _ => XS.iloadN X0.here hx rfl (hb hby at_46) rfl) ?_
        show own_Ends p e below s _ _ _ T0 (mkF m 47 #[.val (.int i0), .val (.int (i0 &&& (7 : Int32))), .unset, .unset, .unset, .unset] [(.int (i0 &&& (7 : Int32)))])
        refine own_step (fun _ => XS.iconst X0.here hx rfl (hb hby at_47)) ?_
        show own_Ends p e below s _ _ _ T0 (mkF m 48 #[.val (.int i0), .val (.int (i0 &&& (7 : Int32))), .unset, .unset, .unset, .unset] [(.int (3 : Int32)), (.int (i0 &&& (7 : Int32)))])
        by_cases hc48 : (i0 &&& (7 : Int32)) = (3 : Int32)
        · have hv_f_f_f_t := hv_f_f_f.trans (if_pos hc48)
          refine own_step (fun _ => XS.icmpNo X0.here hx rfl (hb hby at_48) rfl (teq hc48).2) ?_
          show own_Ends p e below s _ _ _ T0 (mkF m 51 #[.val (.int i0), .val (.int (i0 &&& (7 : Int32))), .unset, .unset, .unset, .unset] [])
          obtain ⟨T56, X56, e56, st56⟩ := getS2 X0 hx hZ hown (host := "") (Or.inl (hw _ (List.mem_of_getElem? (i := 33) rfl))) Via.refl e0 S39 (g := (mkF m 51 #[.val (.int i0), .val (.int (i0 &&& (7 : Int32))), .unset, .unset, .unset, .unset] [])) rfl (hb hby at_51)
          refine own_step st56 ?_
          show own_Ends p e below s _ _ _ T56 (mkF m 54 #[.val (.int i0), .val (.int (i0 &&& (7 : Int32))), .unset, .unset, .unset, .unset] [(.ref w37)])
          refine own_step (fun _ => XS.astoreN X56.here hx rfl (hb hby at_54) rfl rfl (l' := #[.val (.int i0), .val (.int (i0 &&& (7 : Int32))), .val (.ref w37), .unset, .unset, .unset]) rfl) ?_
          show own_Ends p e below s _ _ _ T56 (mkF m 55 #[.val (.int i0), .val (.int (i0 &&& (7 : Int32))), .val (.ref w37), .unset, .unset, .unset] [])
          refine own_step (fun _ => XS.iconst X56.here hx rfl (hb hby at_55)) ?_
          show own_Ends p e below s _ _ _ T56 (mkF m 56 #[.val (.int i0), .val (.int (i0 &&& (7 : Int32))), .val (.ref w37), .unset, .unset, .unset] [(.int (1 : Int32))])
          refine own_step (fun _ => XS.istoreN X56.here hx rfl (hb hby at_56) rfl (l' := #[.val (.int i0), .val (.int (i0 &&& (7 : Int32))), .val (.ref w37), .val (.int (1 : Int32)), .unset, .unset]) rfl) ?_
          show own_Ends p e below s _ _ _ T56 (mkF m 57 #[.val (.int i0), .val (.int (i0 &&& (7 : Int32))), .val (.ref w37), .val (.int (1 : Int32)), .unset, .unset] [])
          refine own_step (fun _ => XS.goto X56.here hx rfl (pc0 := 57) (pc' := 109) rfl (hb hby at_57) (by decide) (by decide)) ?_
          show own_Ends p e below s _ _ _ T56 (mkF m 109 #[.val (.int i0), .val (.int (i0 &&& (7 : Int32))), .val (.ref w37), .val (.int (1 : Int32)), .unset, .unset] [])
          refine own_step (fun _ => XS.aloadN X56.here hx rfl (hb hby at_109) rfl rfl) ?_
          show own_Ends p e below s _ _ _ T56 (mkF m 110 #[.val (.int i0), .val (.int (i0 &&& (7 : Int32))), .val (.ref w37), .val (.int (1 : Int32)), .unset, .unset] [(.ref w37)])
          obtain ⟨cq57, kq57, q57a, q57b, q57c⟩ := isOf hZ e56 E40
          obtain ⟨_, _, ⟨T57, L57, k57, n57⟩, -, X57, ⟨Lc57, hQ57, l57, y57, z57⟩, st57⟩ := X56.virtualBack hx (y := (⟨"lomwright/lom/Datatype", "holdsText", "()Z"⟩ : MethodName)) (z := (⟨"lomwright/lom/Datatype", "holdsText", "()Z"⟩ : MethodName)) hown (mvT hZ (hw _ (List.mem_of_getElem? (i := 3) rfl))) (mvT hZ (hw _ (List.mem_of_getElem? (i := 4) rfl))) (notFace_of_selects (args := #[]) (mvT hZ (hw _ (List.mem_of_getElem? (i := 6) rfl)))) (mvT hZ (hw _ (List.mem_of_getElem? (i := 6) rfl))) (mvT hZ (hw _ (List.mem_of_getElem? (i := 5) rfl))) (by decide) (backOf (W := 0) (rm1 l Z a0 hw [] w37 w13 w27 w37 h0 n0 Z0 S15 S29 S39) hZ (hw _ (List.mem_of_getElem? (i := 7) rfl)) (hw _ (List.mem_of_getElem? (i := 1) rfl)) (by decide) (by decide)) q57a q57c (g := (mkF m 110 #[.val (.int i0), .val (.int (i0 &&& (7 : Int32))), .val (.ref w37), .val (.int (1 : Int32)), .unset, .unset] [(.ref w37)])) rfl (by rw [hml]; rfl) (Steps.refl _) (argsL := []) (rest := []) (lenOf pd_0 rfl) rfl (by show 2 * 0 + _ ≤ _; exact Nat.le_of_eq rfl) (hb hby at_110) (fun _ _ => ⟨rfl, e56, (by decide : 0 + 0 ≤ _), (by decide : 0 + 0 ≤ _)⟩)
          dsimp only [Pt.U, Pt.locs, Pt.cells, Pt.slots] at X57 l57 y57 z57 st57 hQ57
          subst l57 y57 z57
          obtain ⟨rfl, N57q, hh57⟩ := hQ57
          have N57 := Fr.app N0 N57q
          refine own_step (fun _ => st57.trans) ?_
          show own_Ends p e below s _ _ _ T57 (mkF m 113 #[.val (.int i0), .val (.int (i0 &&& (7 : Int32))), .val (.ref w37), .val (.int (1 : Int32)), .unset, .unset] [(.int (f1_0 w37 w13 w27 w37))])
          refine own_step (fun _ => XS.istore X57.here hx rfl (hb hby at_113) rfl (l' := #[.val (.int i0), .val (.int (i0 &&& (7 : Int32))), .val (.ref w37), .val (.int (1 : Int32)), .val (.int (f1_0 w37 w13 w27 w37)), .unset]) rfl) ?_
          show own_Ends p e below s _ _ _ T57 (mkF m 115 #[.val (.int i0), .val (.int (i0 &&& (7 : Int32))), .val (.ref w37), .val (.int (1 : Int32)), .val (.int (f1_0 w37 w13 w27 w37)), .unset] [])
          refine own_step (fun _ => XS.aloadN X57.here hx rfl (hb hby at_115) rfl rfl) ?_
          show own_Ends p e below s _ _ _ T57 (mkF m 116 #[.val (.int i0), .val (.int (i0 &&& (7 : Int32))), .val (.ref w37), .val (.int (1 : Int32)), .val (.int (f1_0 w37 w13 w27 w37)), .unset] [(.ref w37)])
          obtain ⟨cq58, kq58, q58a, q58b, q58c⟩ := isOf hZ hh57 E40
          obtain ⟨_, _, ⟨T58, L58, k58, n58⟩, -, X58, ⟨Lc58, hQ58, l58, y58, z58⟩, st58⟩ := X57.virtualBack hx (y := (⟨"lomwright/lom/Datatype", "components", "()Ljava/util/List;"⟩ : MethodName)) (z := (⟨"lomwright/lom/Datatype", "components", "()Ljava/util/List;"⟩ : MethodName)) hown (mvT hZ (hw _ (List.mem_of_getElem? (i := 14) rfl))) (mvT hZ (hw _ (List.mem_of_getElem? (i := 15) rfl))) (notFace_of_selects (args := #[]) (mvT hZ (hw _ (List.mem_of_getElem? (i := 17) rfl)))) (mvT hZ (hw _ (List.mem_of_getElem? (i := 17) rfl))) (mvT hZ (hw _ (List.mem_of_getElem? (i := 16) rfl))) (by decide) (backOf (W := 0) (rm2 l Z a0 hw [] w37 w47 h0 n0 Z0 F64) hZ (hw _ (List.mem_of_getElem? (i := 18) rfl)) (hw _ (List.mem_of_getElem? (i := 1) rfl)) (by decide) (by decide)) q58a q58c (g := (mkF m 116 #[.val (.int i0), .val (.int (i0 &&& (7 : Int32))), .val (.ref w37), .val (.int (1 : Int32)), .val (.int (f1_0 w37 w13 w27 w37)), .unset] [(.ref w37)])) rfl (by rw [hml]; rfl) (Steps.refl _) (argsL := []) (rest := []) (lenOf pd_1 rfl) rfl (by show 2 * 0 + _ ≤ _; exact Nat.le_of_eq rfl) (hb hby at_116) (fun _ _ => ⟨rfl, hh57, (by decide : 0 + 0 ≤ _), (by decide : 0 + 0 ≤ _)⟩)
          dsimp only [Pt.U, Pt.locs, Pt.cells, Pt.slots] at X58 l58 y58 z58 st58 hQ58
          subst l58 y58 z58
          obtain ⟨rfl, N58q, hh58⟩ := hQ58
          have N58 := Fr.app N57 N58q
          refine own_step (fun _ => st58.trans) ?_
          show own_Ends p e below s _ _ _ T58 (mkF m 119 #[.val (.int i0), .val (.int (i0 &&& (7 : Int32))), .val (.ref w37), .val (.int (1 : Int32)), .val (.int (f1_0 w37 w13 w27 w37)), .unset] [(.ref w47)])
          obtain ⟨cq59, kq59, q59a, q59b, q59c⟩ := isOf hZ hh58 E50
          obtain ⟨_, _, ⟨T59, L59, k59, n59⟩, -, X59, ⟨Lc59, hQ59, l59, y59, z59⟩, st59⟩ := X58.interfaceBack hx (xi := (⟨"java/util/List", "size", "()I"⟩ : MethodName)) (y := (⟨"java/util/ImmutableCollections$ListN", "size", "()I"⟩ : MethodName)) hown (mvT hZ (hw _ (List.mem_of_getElem? (i := 21) rfl))) (mvT hZ (hw _ (List.mem_of_getElem? (i := 22) rfl))) (mvT hZ (hw _ (List.mem_of_getElem? (i := 23) rfl))) (mvT hZ (hw _ (List.mem_of_getElem? (i := 24) rfl))) (mvT hZ (hw _ (List.mem_of_getElem? (i := 25) rfl))) (mvT hZ (hw _ (List.mem_of_getElem? (i := 26) rfl))) (mvT hZ (hw _ (List.mem_of_getElem? (i := 27) rfl))) (mvT hZ (hw _ (List.mem_of_getElem? (i := 28) rfl))) (by decide) (backOf (W := 0) (rm3 l Z a0 hw [] w47 w53 c57 h0 n0 Z0 F55 A56 Sz) hZ (hw _ (List.mem_of_getElem? (i := 30) rfl)) (hw _ (List.mem_of_getElem? (i := 29) rfl)) (by decide) (by decide)) q59a q59b q59c (g := (mkF m 119 #[.val (.int i0), .val (.int (i0 &&& (7 : Int32))), .val (.ref w37), .val (.int (1 : Int32)), .val (.int (f1_0 w37 w13 w27 w37)), .unset] [(.ref w47)])) rfl (by rw [hml]; rfl) (Steps.refl _) (argsL := []) (rest := []) (lenOf pd_2 rfl) rfl (by show 2 * 0 + _ ≤ _; exact Nat.le_of_eq rfl) (hb hby at_119) (fun _ _ => ⟨rfl, hh58, (by decide : 0 + 0 ≤ _), (by decide : 0 + 0 ≤ _)⟩)
          dsimp only [Pt.U, Pt.locs, Pt.cells, Pt.slots] at X59 l59 y59 z59 st59 hQ59
          subst l59 y59 z59
          obtain ⟨rfl, N59q, hh59⟩ := hQ59
          have N59 := Fr.app N58 N59q
          refine own_step (fun _ => st59.trans) ?_
          show own_Ends p e below s _ _ _ T59 (mkF m 124 #[.val (.int i0), .val (.int (i0 &&& (7 : Int32))), .val (.ref w37), .val (.int (1 : Int32)), .val (.int (f1_0 w37 w13 w27 w37)), .unset] [(.int (0 : Int32))])
          refine own_step (fun _ => XS.ifNo X59.here hx rfl (hb hby at_124) rfl ((if0 _ _).trans (teq (show (0 : Int32) = (0 : Int32) from (by decide))).2)) ?_
          show own_Ends p e below s _ _ _ T59 (mkF m 127 #[.val (.int i0), .val (.int (i0 &&& (7 : Int32))), .val (.ref w37), .val (.int (1 : Int32)), .val (.int (f1_0 w37 w13 w27 w37)), .unset] [])
          refine own_step (fun _ => XS.aloadN X59.here hx rfl (hb hby at_127) rfl rfl) ?_
          show own_Ends p e below s _ _ _ T59 (mkF m 128 #[.val (.int i0), .val (.int (i0 &&& (7 : Int32))), .val (.ref w37), .val (.int (1 : Int32)), .val (.int (f1_0 w37 w13 w27 w37)), .unset] [(.ref w37)])
          obtain ⟨T60, X60, e60, st60⟩ := getS2 X59 hx hZ hown (host := "") (Or.inl (hw _ (List.mem_of_getElem? (i := 0) rfl))) Via.refl hh59 S9 (g := (mkF m 128 #[.val (.int i0), .val (.int (i0 &&& (7 : Int32))), .val (.ref w37), .val (.int (1 : Int32)), .val (.int (f1_0 w37 w13 w27 w37)), .unset] [(.ref w37)])) rfl (hb hby at_128)
          refine own_step st60 ?_
          show own_Ends p e below s _ _ _ T60 (mkF m 131 #[.val (.int i0), .val (.int (i0 &&& (7 : Int32))), .val (.ref w37), .val (.int (1 : Int32)), .val (.int (f1_0 w37 w13 w27 w37)), .unset] [(.ref w7), (.ref w37)])
          by_cases hc131 : w37 = w7
          · have hv_f_f_f_t_t := hv_f_f_f_t.trans (if_pos hc131)
            refine own_step (fun _ => Jvm.RoadKit.acmp (g := (mkF m 131 #[.val (.int i0), .val (.int (i0 &&& (7 : Int32))), .val (.ref w37), .val (.int (1 : Int32)), .val (.int (f1_0 w37 w13 w27 w37)), .unset] [(.ref w7), (.ref w37)])) X60 hx rfl rfl rfl (pc0 := 131) (pc' := 138) (same := true) rfl (hb hby at_131) rfl (decide_eq_true (congrArg Value.ref hc131)) (by decide) (by decide)) ?_
            show own_Ends p e below s _ _ _ T60 (mkF m 138 #[.val (.int i0), .val (.int (i0 &&& (7 : Int32))), .val (.ref w37), .val (.int (1 : Int32)), .val (.int (f1_0 w37 w13 w27 w37)), .unset] [])
            refine own_step (fun _ => XS.iconst X60.here hx rfl (hb hby at_138)) ?_
            show own_Ends p e below s _ _ _ T60 (mkF m 139 #[.val (.int i0), .val (.int (i0 &&& (7 : Int32))), .val (.ref w37), .val (.int (1 : Int32)), .val (.int (f1_0 w37 w13 w27 w37)), .unset] [(.int (0 : Int32))])
            refine own_step (fun _ => XS.istore X60.here hx rfl (hb hby at_139) rfl (l' := #[.val (.int i0), .val (.int (i0 &&& (7 : Int32))), .val (.ref w37), .val (.int (1 : Int32)), .val (.int (f1_0 w37 w13 w27 w37)), .val (.int (0 : Int32))]) rfl) ?_
            show own_Ends p e below s _ _ _ T60 (mkF m 141 #[.val (.int i0), .val (.int (i0 &&& (7 : Int32))), .val (.ref w37), .val (.int (1 : Int32)), .val (.int (f1_0 w37 w13 w27 w37)), .val (.int (0 : Int32))] [])
            refine own_step (fun _ => XS.iload X60.here hx rfl (hb hby at_141) rfl) ?_
            show own_Ends p e below s _ _ _ T60 (mkF m 143 #[.val (.int i0), .val (.int (i0 &&& (7 : Int32))), .val (.ref w37), .val (.int (1 : Int32)), .val (.int (f1_0 w37 w13 w27 w37)), .val (.int (0 : Int32))] [(.int (f1_0 w37 w13 w27 w37))])
            refine own_step (fun _ => XS.iloadN X60.here hx rfl (hb hby at_143) rfl) ?_
            show own_Ends p e below s _ _ _ T60 (mkF m 144 #[.val (.int i0), .val (.int (i0 &&& (7 : Int32))), .val (.ref w37), .val (.int (1 : Int32)), .val (.int (f1_0 w37 w13 w27 w37)), .val (.int (0 : Int32))] [(.int (1 : Int32)), (.int (f1_0 w37 w13 w27 w37))])
            by_cases hc144 : (f1_0 w37 w13 w27 w37) = (1 : Int32)
            · have hv_f_f_f_t_t_t := hv_f_f_f_t_t.trans (if_pos hc144)
              refine own_step (fun _ => XS.icmpNo X60.here hx rfl (hb hby at_144) rfl (teq hc144).2) ?_
              show own_Ends p e below s _ _ _ T60 (mkF m 147 #[.val (.int i0), .val (.int (i0 &&& (7 : Int32))), .val (.ref w37), .val (.int (1 : Int32)), .val (.int (f1_0 w37 w13 w27 w37)), .val (.int (0 : Int32))] [])
              refine own_step (fun _ => XS.iload X60.here hx rfl (hb hby at_147) rfl) ?_
              show own_Ends p e below s _ _ _ T60 (mkF m 149 #[.val (.int i0), .val (.int (i0 &&& (7 : Int32))), .val (.ref w37), .val (.int (1 : Int32)), .val (.int (f1_0 w37 w13 w27 w37)), .val (.int (0 : Int32))] [(.int (f1_0 w37 w13 w27 w37))])
              refine own_step (fun _ => XS.iload X60.here hx rfl (hb hby at_149) rfl) ?_
              show own_Ends p e below s _ _ _ T60 (mkF m 151 #[.val (.int i0), .val (.int (i0 &&& (7 : Int32))), .val (.ref w37), .val (.int (1 : Int32)), .val (.int (f1_0 w37 w13 w27 w37)), .val (.int (0 : Int32))] [(.int (0 : Int32)), (.int (f1_0 w37 w13 w27 w37))])
              by_cases hc151 : (f1_0 w37 w13 w27 w37) = (0 : Int32)
              · have hv_f_f_f_t_t_t_t := hv_f_f_f_t_t_t.trans (if_pos hc151)
                refine own_step (fun _ => XS.icmpNo X60.here hx rfl (hb hby at_151) rfl (teq hc151).2) ?_
                show own_Ends p e below s _ _ _ T60 (mkF m 154 #[.val (.int i0), .val (.int (i0 &&& (7 : Int32))), .val (.ref w37), .val (.int (1 : Int32)), .val (.int (f1_0 w37 w13 w27 w37)), .val (.int (0 : Int32))] [])
                refine own_step (fun _ => XS.iconst X60.here hx rfl (hb hby at_154)) ?_
                show own_Ends p e below s _ _ _ T60 (mkF m 155 #[.val (.int i0), .val (.int (i0 &&& (7 : Int32))), .val (.ref w37), .val (.int (1 : Int32)), .val (.int (f1_0 w37 w13 w27 w37)), .val (.int (0 : Int32))] [(.int (1 : Int32))])
                refine own_step (fun _ => XS.goto X60.here hx rfl (pc0 := 155) (pc' := 159) rfl (hb hby at_155) (by decide) (by decide)) ?_
                show own_Ends p e below s _ _ _ T60 (mkF m 159 #[.val (.int i0), .val (.int (i0 &&& (7 : Int32))), .val (.ref w37), .val (.int (1 : Int32)), .val (.int (f1_0 w37 w13 w27 w37)), .val (.int (0 : Int32))] [(.int (1 : Int32))])
                exact own_retN X60 (t := .boolean) hx hret hlk (hb hby at_159) (by decide) (by decide) (by simp) ⟨congrArg (fun z => some (Value.int z)) hv_f_f_f_t_t_t_t.symm, N59, e60⟩
              · have hv_f_f_f_t_t_t_f := hv_f_f_f_t_t_t.trans (if_neg hc151)
                refine own_step (fun _ => XS.icmpYes X60.here hx rfl (pc0 := 151) (pc' := 158) rfl (hb hby at_151) rfl (feq hc151).2 (by decide) (by decide)) ?_
                show own_Ends p e below s _ _ _ T60 (mkF m 158 #[.val (.int i0), .val (.int (i0 &&& (7 : Int32))), .val (.ref w37), .val (.int (1 : Int32)), .val (.int (f1_0 w37 w13 w27 w37)), .val (.int (0 : Int32))] [])
                refine own_step (fun _ => XS.iconst X60.here hx rfl (hb hby at_158)) ?_
                show own_Ends p e below s _ _ _ T60 (mkF m 159 #[.val (.int i0), .val (.int (i0 &&& (7 : Int32))), .val (.ref w37), .val (.int (1 : Int32)), .val (.int (f1_0 w37 w13 w27 w37)), .val (.int (0 : Int32))] [(.int (0 : Int32))])
                exact own_retN X60 (t := .boolean) hx hret hlk (hb hby at_159) (by decide) (by decide) (by simp) ⟨congrArg (fun z => some (Value.int z)) hv_f_f_f_t_t_t_f.symm, N59, e60⟩
            · have hv_f_f_f_t_t_f := hv_f_f_f_t_t.trans (if_neg hc144)
              refine own_step (fun _ => XS.icmpYes X60.here hx rfl (pc0 := 144) (pc' := 158) rfl (hb hby at_144) rfl (feq hc144).2 (by decide) (by decide)) ?_
              show own_Ends p e below s _ _ _ T60 (mkF m 158 #[.val (.int i0), .val (.int (i0 &&& (7 : Int32))), .val (.ref w37), .val (.int (1 : Int32)), .val (.int (f1_0 w37 w13 w27 w37)), .val (.int (0 : Int32))] [])
              refine own_step (fun _ => XS.iconst X60.here hx rfl (hb hby at_158)) ?_
              show own_Ends p e below s _ _ _ T60 (mkF m 159 #[.val (.int i0), .val (.int (i0 &&& (7 : Int32))), .val (.ref w37), .val (.int (1 : Int32)), .val (.int (f1_0 w37 w13 w27 w37)), .val (.int (0 : Int32))] [(.int (0 : Int32))])
              exact own_retN X60 (t := .boolean) hx hret hlk (hb hby at_159) (by decide) (by decide) (by simp) ⟨congrArg (fun z => some (Value.int z)) hv_f_f_f_t_t_f.symm, N59, e60⟩
          · have hv_f_f_f_t_f := hv_f_f_f_t.trans (if_neg hc131)
            refine own_step (fun _ => Jvm.RoadKit.acmp (g := (mkF m 131 #[.val (.int i0), .val (.int (i0 &&& (7 : Int32))), .val (.ref w37), .val (.int (1 : Int32)), .val (.int (f1_0 w37 w13 w27 w37)), .unset] [(.ref w7), (.ref w37)])) X60 hx rfl rfl rfl (pc0 := 131) (pc' := 134) (same := false) rfl (hb hby at_131) rfl (decide_eq_false fun q => hc131 (Value.ref.inj q)) (by decide) (by decide)) ?_
            show own_Ends p e below s _ _ _ T60 (mkF m 134 #[.val (.int i0), .val (.int (i0 &&& (7 : Int32))), .val (.ref w37), .val (.int (1 : Int32)), .val (.int (f1_0 w37 w13 w27 w37)), .unset] [])
            refine own_step (fun _ => XS.iconst X60.here hx rfl (hb hby at_134)) ?_
            show own_Ends p e below s _ _ _ T60 (mkF m 135 #[.val (.int i0), .val (.int (i0 &&& (7 : Int32))), .val (.ref w37), .val (.int (1 : Int32)), .val (.int (f1_0 w37 w13 w27 w37)), .unset] [(.int (1 : Int32))])
            refine own_step (fun _ => XS.goto X60.here hx rfl (pc0 := 135) (pc' := 139) rfl (hb hby at_135) (by decide) (by decide)) ?_
            show own_Ends p e below s _ _ _ T60 (mkF m 139 #[.val (.int i0), .val (.int (i0 &&& (7 : Int32))), .val (.ref w37), .val (.int (1 : Int32)), .val (.int (f1_0 w37 w13 w27 w37)), .unset] [(.int (1 : Int32))])
            refine own_step (fun _ => XS.istore X60.here hx rfl (hb hby at_139) rfl (l' := #[.val (.int i0), .val (.int (i0 &&& (7 : Int32))), .val (.ref w37), .val (.int (1 : Int32)), .val (.int (f1_0 w37 w13 w27 w37)), .val (.int (1 : Int32))]) rfl) ?_
            show own_Ends p e below s _ _ _ T60 (mkF m 141 #[.val (.int i0), .val (.int (i0 &&& (7 : Int32))), .val (.ref w37), .val (.int (1 : Int32)), .val (.int (f1_0 w37 w13 w27 w37)), .val (.int (1 : Int32))] [])
            refine own_step (fun _ => XS.iload X60.here hx rfl (hb hby at_141) rfl) ?_
            show own_Ends p e below s _ _ _ T60 (mkF m 143 #[.val (.int i0), .val (.int (i0 &&& (7 : Int32))), .val (.ref w37), .val (.int (1 : Int32)), .val (.int (f1_0 w37 w13 w27 w37)), .val (.int (1 : Int32))] [(.int (f1_0 w37 w13 w27 w37))])
            refine own_step (fun _ => XS.iloadN X60.here hx rfl (hb hby at_143) rfl) ?_
            show own_Ends p e below s _ _ _ T60 (mkF m 144 #[.val (.int i0), .val (.int (i0 &&& (7 : Int32))), .val (.ref w37), .val (.int (1 : Int32)), .val (.int (f1_0 w37 w13 w27 w37)), .val (.int (1 : Int32))] [(.int (1 : Int32)), (.int (f1_0 w37 w13 w27 w37))])
            by_cases hc144 : (f1_0 w37 w13 w27 w37) = (1 : Int32)
            · have hv_f_f_f_t_f_t := hv_f_f_f_t_f.trans (if_pos hc144)
              refine own_step (fun _ => XS.icmpNo X60.here hx rfl (hb hby at_144) rfl (teq hc144).2) ?_
              show own_Ends p e below s _ _ _ T60 (mkF m 147 #[.val (.int i0), .val (.int (i0 &&& (7 : Int32))), .val (.ref w37), .val (.int (1 : Int32)), .val (.int (f1_0 w37 w13 w27 w37)), .val (.int (1 : Int32))] [])
              refine own_step (fun _ => XS.iload X60.here hx rfl (hb hby at_147) rfl) ?_
              show own_Ends p e below s _ _ _ T60 (mkF m 149 #[.val (.int i0), .val (.int (i0 &&& (7 : Int32))), .val (.ref w37), .val (.int (1 : Int32)), .val (.int (f1_0 w37 w13 w27 w37)), .val (.int (1 : Int32))] [(.int (f1_0 w37 w13 w27 w37))])
              refine own_step (fun _ => XS.iload X60.here hx rfl (hb hby at_149) rfl) ?_
              show own_Ends p e below s _ _ _ T60 (mkF m 151 #[.val (.int i0), .val (.int (i0 &&& (7 : Int32))), .val (.ref w37), .val (.int (1 : Int32)), .val (.int (f1_0 w37 w13 w27 w37)), .val (.int (1 : Int32))] [(.int (1 : Int32)), (.int (f1_0 w37 w13 w27 w37))])
              by_cases hc151 : (f1_0 w37 w13 w27 w37) = (1 : Int32)
              · have hv_f_f_f_t_f_t_t := hv_f_f_f_t_f_t.trans (if_pos hc151)
                refine own_step (fun _ => XS.icmpNo X60.here hx rfl (hb hby at_151) rfl (teq hc151).2) ?_
                show own_Ends p e below s _ _ _ T60 (mkF m 154 #[.val (.int i0), .val (.int (i0 &&& (7 : Int32))), .val (.ref w37), .val (.int (1 : Int32)), .val (.int (f1_0 w37 w13 w27 w37)), .val (.int (1 : Int32))] [])
                refine own_step (fun _ => XS.iconst X60.here hx rfl (hb hby at_154)) ?_
                show own_Ends p e below s _ _ _ T60 (mkF m 155 #[.val (.int i0), .val (.int (i0 &&& (7 : Int32))), .val (.ref w37), .val (.int (1 : Int32)), .val (.int (f1_0 w37 w13 w27 w37)), .val (.int (1 : Int32))] [(.int (1 : Int32))])
                refine own_step (fun _ => XS.goto X60.here hx rfl (pc0 := 155) (pc' := 159) rfl (hb hby at_155) (by decide) (by decide)) ?_
                show own_Ends p e below s _ _ _ T60 (mkF m 159 #[.val (.int i0), .val (.int (i0 &&& (7 : Int32))), .val (.ref w37), .val (.int (1 : Int32)), .val (.int (f1_0 w37 w13 w27 w37)), .val (.int (1 : Int32))] [(.int (1 : Int32))])
                exact own_retN X60 (t := .boolean) hx hret hlk (hb hby at_159) (by decide) (by decide) (by simp) ⟨congrArg (fun z => some (Value.int z)) hv_f_f_f_t_f_t_t.symm, N59, e60⟩
              · have hv_f_f_f_t_f_t_f := hv_f_f_f_t_f_t.trans (if_neg hc151)
                refine own_step (fun _ => XS.icmpYes X60.here hx rfl (pc0 := 151) (pc' := 158) rfl (hb hby at_151) rfl (feq hc151).2 (by decide) (by decide)) ?_
                show own_Ends p e below s _ _ _ T60 (mkF m 158 #[.val (.int i0), .val (.int (i0 &&& (7 : Int32))), .val (.ref w37), .val (.int (1 : Int32)), .val (.int (f1_0 w37 w13 w27 w37)), .val (.int (1 : Int32))] [])
                refine own_step (fun _ => XS.iconst X60.here hx rfl (hb hby at_158)) ?_
                show own_Ends p e below s _ _ _ T60 (mkF m 159 #[.val (.int i0), .val (.int (i0 &&& (7 : Int32))), .val (.ref w37), .val (.int (1 : Int32)), .val (.int (f1_0 w37 w13 w27 w37)), .val (.int (1 : Int32))] [(.int (0 : Int32))])
                exact own_retN X60 (t := .boolean) hx hret hlk (hb hby at_159) (by decide) (by decide) (by simp) ⟨congrArg (fun z => some (Value.int z)) hv_f_f_f_t_f_t_f.symm, N59, e60⟩
            · have hv_f_f_f_t_f_f := hv_f_f_f_t_f.trans (if_neg hc144)
              refine own_step (fun _ => XS.icmpYes X60.here hx rfl (pc0 := 144) (pc' := 158) rfl (hb hby at_144) rfl (feq hc144).2 (by decide) (by decide)) ?_
              show own_Ends p e below s _ _ _ T60 (mkF m 158 #[.val (.int i0), .val (.int (i0 &&& (7 : Int32))), .val (.ref w37), .val (.int (1 : Int32)), .val (.int (f1_0 w37 w13 w27 w37)), .val (.int (1 : Int32))] [])
              refine own_step (fun _ => XS.iconst X60.here hx rfl (hb hby at_158)) ?_
              show own_Ends p e below s _ _ _ T60 (mkF m 159 #[.val (.int i0), .val (.int (i0 &&& (7 : Int32))), .val (.ref w37), .val (.int (1 : Int32)), .val (.int (f1_0 w37 w13 w27 w37)), .val (.int (1 : Int32))] [(.int (0 : Int32))])
              exact own_retN X60 (t := .boolean) hx hret hlk (hb hby at_159) (by decide) (by decide) (by simp) ⟨congrArg (fun z => some (Value.int z)) hv_f_f_f_t_f_f.symm, N59, e60⟩
        · have hv_f_f_f_f := hv_f_f_f.trans (if_neg hc48)
          refine own_step (fun _ => XS.icmpYes X0.here hx rfl (pc0 := 48) (pc' := 60) rfl (hb hby at_48) rfl (feq hc48).2 (by decide) (by decide)) ?_
          show own_Ends p e below s _ _ _ T0 (mkF m 60 #[.val (.int i0), .val (.int (i0 &&& (7 : Int32))), .unset, .unset, .unset, .unset] [])
          refine own_step (fun _ => XS.iloadN X0.here hx rfl (hb hby at_60) rfl) ?_
          show own_Ends p e below s _ _ _ T0 (mkF m 61 #[.val (.int i0), .val (.int (i0 &&& (7 : Int32))), .unset, .unset, .unset, .unset] [(.int (i0 &&& (7 : Int32)))])
          refine own_step (fun _ => XS.iconst X0.here hx rfl (hb hby at_61)) ?_
          show own_Ends p e below s _ _ _ T0 (mkF m 62 #[.val (.int i0), .val (.int (i0 &&& (7 : Int32))), .unset, .unset, .unset, .unset] [(.int (4 : Int32)), (.int (i0 &&& (7 : Int32)))])
          by_cases hc62 : (i0 &&& (7 : Int32)) = (4 : Int32)
          · have hv_f_f_f_f_t := hv_f_f_f_f.trans (if_pos hc62)
            refine own_step (fun _ => XS.icmpNo X0.here hx rfl (hb hby at_62) rfl (teq hc62).2) ?_
            show own_Ends p e below s _ _ _ T0 (mkF m 65 #[.val (.int i0), .val (.int (i0 &&& (7 : Int32))), .unset, .unset, .unset, .unset] [])
            obtain ⟨T61, X61, e61, st61⟩ := getS2 X0 hx hZ hown (host := "") (Or.inl (hw _ (List.mem_of_getElem? (i := 51) rfl))) Via.refl e0 S119 (g := (mkF m 65 #[.val (.int i0), .val (.int (i0 &&& (7 : Int32))), .unset, .unset, .unset, .unset] [])) rfl (hb hby at_65)
            refine own_step st61 ?_
            show own_Ends p e below s _ _ _ T61 (mkF m 68 #[.val (.int i0), .val (.int (i0 &&& (7 : Int32))), .unset, .unset, .unset, .unset] [(.ref w117)])
            refine own_step (fun _ => XS.astoreN X61.here hx rfl (hb hby at_68) rfl rfl (l' := #[.val (.int i0), .val (.int (i0 &&& (7 : Int32))), .val (.ref w117), .unset, .unset, .unset]) rfl) ?_
            show own_Ends p e below s _ _ _ T61 (mkF m 69 #[.val (.int i0), .val (.int (i0 &&& (7 : Int32))), .val (.ref w117), .unset, .unset, .unset] [])
            refine own_step (fun _ => XS.iconst X61.here hx rfl (hb hby at_69)) ?_
            show own_Ends p e below s _ _ _ T61 (mkF m 70 #[.val (.int i0), .val (.int (i0 &&& (7 : Int32))), .val (.ref w117), .unset, .unset, .unset] [(.int (0 : Int32))])
            refine own_step (fun _ => XS.istoreN X61.here hx rfl (hb hby at_70) rfl (l' := #[.val (.int i0), .val (.int (i0 &&& (7 : Int32))), .val (.ref w117), .val (.int (0 : Int32)), .unset, .unset]) rfl) ?_
            show own_Ends p e below s _ _ _ T61 (mkF m 71 #[.val (.int i0), .val (.int (i0 &&& (7 : Int32))), .val (.ref w117), .val (.int (0 : Int32)), .unset, .unset] [])
            refine own_step (fun _ => XS.goto X61.here hx rfl (pc0 := 71) (pc' := 109) rfl (hb hby at_71) (by decide) (by decide)) ?_
            show own_Ends p e below s _ _ _ T61 (mkF m 109 #[.val (.int i0), .val (.int (i0 &&& (7 : Int32))), .val (.ref w117), .val (.int (0 : Int32)), .unset, .unset] [])
            refine own_step (fun _ => XS.aloadN X61.here hx rfl (hb hby at_109) rfl rfl) ?_
            show own_Ends p e below s _ _ _ T61 (mkF m 110 #[.val (.int i0), .val (.int (i0 &&& (7 : Int32))), .val (.ref w117), .val (.int (0 : Int32)), .unset, .unset] [(.ref w117)])
            obtain ⟨cq62, kq62, q62a, q62b, q62c⟩ := isOf hZ e61 E120
            obtain ⟨_, _, ⟨T62, L62, k62, n62⟩, -, X62, ⟨Lc62, hQ62, l62, y62, z62⟩, st62⟩ := X61.virtualBack hx (y := (⟨"lomwright/lom/Datatype", "holdsText", "()Z"⟩ : MethodName)) (z := (⟨"lomwright/lom/Datatype", "holdsText", "()Z"⟩ : MethodName)) hown (mvT hZ (hw _ (List.mem_of_getElem? (i := 3) rfl))) (mvT hZ (hw _ (List.mem_of_getElem? (i := 4) rfl))) (notFace_of_selects (args := #[]) (mvT hZ (hw _ (List.mem_of_getElem? (i := 6) rfl)))) (mvT hZ (hw _ (List.mem_of_getElem? (i := 6) rfl))) (mvT hZ (hw _ (List.mem_of_getElem? (i := 5) rfl))) (by decide) (backOf (W := 0) (rm1 l Z a0 hw [] w117 w13 w27 w37 h0 n0 Z0 S15 S29 S39) hZ (hw _ (List.mem_of_getElem? (i := 7) rfl)) (hw _ (List.mem_of_getElem? (i := 1) rfl)) (by decide) (by decide)) q62a q62c (g := (mkF m 110 #[.val (.int i0), .val (.int (i0 &&& (7 : Int32))), .val (.ref w117), .val (.int (0 : Int32)), .unset, .unset] [(.ref w117)])) rfl (by rw [hml]; rfl) (Steps.refl _) (argsL := []) (rest := []) (lenOf pd_0 rfl) rfl (by show 2 * 0 + _ ≤ _; exact Nat.le_of_eq rfl) (hb hby at_110) (fun _ _ => ⟨rfl, e61, (by decide : 0 + 0 ≤ _), (by decide : 0 + 0 ≤ _)⟩)
            dsimp only [Pt.U, Pt.locs, Pt.cells, Pt.slots] at X62 l62 y62 z62 st62 hQ62
            subst l62 y62 z62
            obtain ⟨rfl, N62q, hh62⟩ := hQ62
            have N62 := Fr.app N0 N62q
            refine own_step (fun _ => st62.trans) ?_
            show own_Ends p e below s _ _ _ T62 (mkF m 113 #[.val (.int i0), .val (.int (i0 &&& (7 : Int32))), .val (.ref w117), .val (.int (0 : Int32)), .unset, .unset] [(.int (f1_0 w117 w13 w27 w37))])
            refine own_step (fun _ => XS.istore X62.here hx rfl (hb hby at_113) rfl (l' := #[.val (.int i0), .val (.int (i0 &&& (7 : Int32))), .val (.ref w117), .val (.int (0 : Int32)), .val (.int (f1_0 w117 w13 w27 w37)), .unset]) rfl) ?_
            show own_Ends p e below s _ _ _ T62 (mkF m 115 #[.val (.int i0), .val (.int (i0 &&& (7 : Int32))), .val (.ref w117), .val (.int (0 : Int32)), .val (.int (f1_0 w117 w13 w27 w37)), .unset] [])
            refine own_step (fun _ => XS.aloadN X62.here hx rfl (hb hby at_115) rfl rfl) ?_
            show own_Ends p e below s _ _ _ T62 (mkF m 116 #[.val (.int i0), .val (.int (i0 &&& (7 : Int32))), .val (.ref w117), .val (.int (0 : Int32)), .val (.int (f1_0 w117 w13 w27 w37)), .unset] [(.ref w117)])
            obtain ⟨cq63, kq63, q63a, q63b, q63c⟩ := isOf hZ hh62 E120
            obtain ⟨_, _, ⟨T63, L63, k63, n63⟩, -, X63, ⟨Lc63, hQ63, l63, y63, z63⟩, st63⟩ := X62.virtualBack hx (y := (⟨"lomwright/lom/Datatype", "components", "()Ljava/util/List;"⟩ : MethodName)) (z := (⟨"lomwright/lom/Datatype", "components", "()Ljava/util/List;"⟩ : MethodName)) hown (mvT hZ (hw _ (List.mem_of_getElem? (i := 14) rfl))) (mvT hZ (hw _ (List.mem_of_getElem? (i := 15) rfl))) (notFace_of_selects (args := #[]) (mvT hZ (hw _ (List.mem_of_getElem? (i := 17) rfl)))) (mvT hZ (hw _ (List.mem_of_getElem? (i := 17) rfl))) (mvT hZ (hw _ (List.mem_of_getElem? (i := 16) rfl))) (by decide) (backOf (W := 0) (rm2 l Z a0 hw [] w117 w127 h0 n0 Z0 F129) hZ (hw _ (List.mem_of_getElem? (i := 18) rfl)) (hw _ (List.mem_of_getElem? (i := 1) rfl)) (by decide) (by decide)) q63a q63c (g := (mkF m 116 #[.val (.int i0), .val (.int (i0 &&& (7 : Int32))), .val (.ref w117), .val (.int (0 : Int32)), .val (.int (f1_0 w117 w13 w27 w37)), .unset] [(.ref w117)])) rfl (by rw [hml]; rfl) (Steps.refl _) (argsL := []) (rest := []) (lenOf pd_1 rfl) rfl (by show 2 * 0 + _ ≤ _; exact Nat.le_of_eq rfl) (hb hby at_116) (fun _ _ => ⟨rfl, hh62, (by decide : 0 + 0 ≤ _), (by decide : 0 + 0 ≤ _)⟩)
            dsimp only [Pt.U, Pt.locs, Pt.cells, Pt.slots] at X63 l63 y63 z63 st63 hQ63
            subst l63 y63 z63
            obtain ⟨rfl, N63q, hh63⟩ := hQ63
            have N63 := Fr.app N62 N63q
            refine own_step (fun _ => st63.trans) ?_
            show own_Ends p e below s _ _ _ T63 (mkF m 119 #[.val (.int i0), .val (.int (i0 &&& (7 : Int32))), .val (.ref w117), .val (.int (0 : Int32)), .val (.int (f1_0 w117 w13 w27 w37)), .unset] [(.ref w127)])
            obtain ⟨cq64, kq64, q64a, q64b, q64c⟩ := isOf hZ hh63 E130
            obtain ⟨_, _, ⟨T64, L64, k64, n64⟩, -, X64, ⟨Lc64, hQ64, l64, y64, z64⟩, st64⟩ := X63.interfaceBack hx (xi := (⟨"java/util/List", "size", "()I"⟩ : MethodName)) (y := (⟨"java/util/ImmutableCollections$List12", "size", "()I"⟩ : MethodName)) hown (mvT hZ (hw _ (List.mem_of_getElem? (i := 21) rfl))) (mvT hZ (hw _ (List.mem_of_getElem? (i := 22) rfl))) (mvT hZ (hw _ (List.mem_of_getElem? (i := 23) rfl))) (mvT hZ (hw _ (List.mem_of_getElem? (i := 36) rfl))) (mvT hZ (hw _ (List.mem_of_getElem? (i := 37) rfl))) (mvT hZ (hw _ (List.mem_of_getElem? (i := 38) rfl))) (mvT hZ (hw _ (List.mem_of_getElem? (i := 39) rfl))) (mvT hZ (hw _ (List.mem_of_getElem? (i := 40) rfl))) (by decide) (backOf (W := 0) (rm4 l Z a0 hw [] w127 w1 w1 h0 n0 Z0 F134 S3) hZ (hw _ (List.mem_of_getElem? (i := 42) rfl)) (hw _ (List.mem_of_getElem? (i := 41) rfl)) (by decide) (by decide)) q64a q64b q64c (g := (mkF m 119 #[.val (.int i0), .val (.int (i0 &&& (7 : Int32))), .val (.ref w117), .val (.int (0 : Int32)), .val (.int (f1_0 w117 w13 w27 w37)), .unset] [(.ref w127)])) rfl (by rw [hml]; rfl) (Steps.refl _) (argsL := []) (rest := []) (lenOf pd_2 rfl) rfl (by show 2 * 0 + _ ≤ _; exact Nat.le_of_eq rfl) (hb hby at_119) (fun _ _ => ⟨rfl, hh63, (by decide : 0 + 0 ≤ _), (by decide : 0 + 0 ≤ _)⟩)
            dsimp only [Pt.U, Pt.locs, Pt.cells, Pt.slots] at X64 l64 y64 z64 st64 hQ64
            subst l64 y64 z64
            obtain ⟨rfl, N64q, hh64⟩ := hQ64
            have N64 := Fr.app N63 N64q
            refine own_step (fun _ => st64.trans) ?_
            show own_Ends p e below s _ _ _ T64 (mkF m 124 #[.val (.int i0), .val (.int (i0 &&& (7 : Int32))), .val (.ref w117), .val (.int (0 : Int32)), .val (.int (f1_0 w117 w13 w27 w37)), .unset] [(.int (f4_0 w127 w1 w1))])
            by_cases hc124 : (f4_0 w127 w1 w1) = (0 : Int32)
            · have hv_f_f_f_f_t_t := hv_f_f_f_f_t.trans (if_pos hc124)
              refine own_step (fun _ => XS.ifNo X64.here hx rfl (hb hby at_124) rfl ((if0 _ _).trans (teq hc124).2)) ?_
              show own_Ends p e below s _ _ _ T64 (mkF m 127 #[.val (.int i0), .val (.int (i0 &&& (7 : Int32))), .val (.ref w117), .val (.int (0 : Int32)), .val (.int (f1_0 w117 w13 w27 w37)), .unset] [])
              refine own_step (fun _ => XS.aloadN X64.here hx rfl (hb hby at_127) rfl rfl) ?_
              show own_Ends p e below s _ _ _ T64 (mkF m 128 #[.val (.int i0), .val (.int (i0 &&& (7 : Int32))), .val (.ref w117), .val (.int (0 : Int32)), .val (.int (f1_0 w117 w13 w27 w37)), .unset] [(.ref w117)])
              obtain ⟨T65, X65, e65, st65⟩ := getS2 X64 hx hZ hown (host := "") (Or.inl (hw _ (List.mem_of_getElem? (i := 0) rfl))) Via.refl hh64 S9 (g := (mkF m 128 #[.val (.int i0), .val (.int (i0 &&& (7 : Int32))), .val (.ref w117), .val (.int (0 : Int32)), .val (.int (f1_0 w117 w13 w27 w37)), .unset] [(.ref w117)])) rfl (hb hby at_128)
              refine own_step st65 ?_
              show own_Ends p e below s _ _ _ T65 (mkF m 131 #[.val (.int i0), .val (.int (i0 &&& (7 : Int32))), .val (.ref w117), .val (.int (0 : Int32)), .val (.int (f1_0 w117 w13 w27 w37)), .unset] [(.ref w7), (.ref w117)])
              by_cases hc131 : w117 = w7
              · have hv_f_f_f_f_t_t_t := hv_f_f_f_f_t_t.trans (if_pos hc131)
                refine own_step (fun _ => Jvm.RoadKit.acmp (g := (mkF m 131 #[.val (.int i0), .val (.int (i0 &&& (7 : Int32))), .val (.ref w117), .val (.int (0 : Int32)), .val (.int (f1_0 w117 w13 w27 w37)), .unset] [(.ref w7), (.ref w117)])) X65 hx rfl rfl rfl (pc0 := 131) (pc' := 138) (same := true) rfl (hb hby at_131) rfl (decide_eq_true (congrArg Value.ref hc131)) (by decide) (by decide)) ?_
                show own_Ends p e below s _ _ _ T65 (mkF m 138 #[.val (.int i0), .val (.int (i0 &&& (7 : Int32))), .val (.ref w117), .val (.int (0 : Int32)), .val (.int (f1_0 w117 w13 w27 w37)), .unset] [])
                refine own_step (fun _ => XS.iconst X65.here hx rfl (hb hby at_138)) ?_
                show own_Ends p e below s _ _ _ T65 (mkF m 139 #[.val (.int i0), .val (.int (i0 &&& (7 : Int32))), .val (.ref w117), .val (.int (0 : Int32)), .val (.int (f1_0 w117 w13 w27 w37)), .unset] [(.int (0 : Int32))])
                refine own_step (fun _ => XS.istore X65.here hx rfl (hb hby at_139) rfl (l' := #[.val (.int i0), .val (.int (i0 &&& (7 : Int32))), .val (.ref w117), .val (.int (0 : Int32)), .val (.int (f1_0 w117 w13 w27 w37)), .val (.int (0 : Int32))]) rfl) ?_
                show own_Ends p e below s _ _ _ T65 (mkF m 141 #[.val (.int i0), .val (.int (i0 &&& (7 : Int32))), .val (.ref w117), .val (.int (0 : Int32)), .val (.int (f1_0 w117 w13 w27 w37)), .val (.int (0 : Int32))] [])
                refine own_step (fun _ => XS.iload X65.here hx rfl (hb hby at_141) rfl) ?_
                show own_Ends p e below s _ _ _ T65 (mkF m 143 #[.val (.int i0), .val (.int (i0 &&& (7 : Int32))), .val (.ref w117), .val (.int (0 : Int32)), .val (.int (f1_0 w117 w13 w27 w37)), .val (.int (0 : Int32))] [(.int (f1_0 w117 w13 w27 w37))])
                refine own_step (fun _ => XS.iloadN X65.here hx rfl (hb hby at_143) rfl) ?_
                show own_Ends p e below s _ _ _ T65 (mkF m 144 #[.val (.int i0), .val (.int (i0 &&& (7 : Int32))), .val (.ref w117), .val (.int (0 : Int32)), .val (.int (f1_0 w117 w13 w27 w37)), .val (.int (0 : Int32))] [(.int (0 : Int32)), (.int (f1_0 w117 w13 w27 w37))])
                by_cases hc144 : (f1_0 w117 w13 w27 w37) = (0 : Int32)
                · have hv_f_f_f_f_t_t_t_t := hv_f_f_f_f_t_t_t.trans (if_pos hc144)
                  refine own_step (fun _ => XS.icmpNo X65.here hx rfl (hb hby at_144) rfl (teq hc144).2) ?_
                  show own_Ends p e below s _ _ _ T65 (mkF m 147 #[.val (.int i0), .val (.int (i0 &&& (7 : Int32))), .val (.ref w117), .val (.int (0 : Int32)), .val (.int (f1_0 w117 w13 w27 w37)), .val (.int (0 : Int32))] [])
                  refine own_step (fun _ => XS.iload X65.here hx rfl (hb hby at_147) rfl) ?_
                  show own_Ends p e below s _ _ _ T65 (mkF m 149 #[.val (.int i0), .val (.int (i0 &&& (7 : Int32))), .val (.ref w117), .val (.int (0 : Int32)), .val (.int (f1_0 w117 w13 w27 w37)), .val (.int (0 : Int32))] [(.int (f1_0 w117 w13 w27 w37))])
                  refine own_step (fun _ => XS.iload X65.here hx rfl (hb hby at_149) rfl) ?_
                  show own_Ends p e below s _ _ _ T65 (mkF m 151 #[.val (.int i0), .val (.int (i0 &&& (7 : Int32))), .val (.ref w117), .val (.int (0 : Int32)), .val (.int (f1_0 w117 w13 w27 w37)), .val (.int (0 : Int32))] [(.int (0 : Int32)), (.int (f1_0 w117 w13 w27 w37))])
                  by_cases hc151 : (f1_0 w117 w13 w27 w37) = (0 : Int32)
                  · have hv_f_f_f_f_t_t_t_t_t := hv_f_f_f_f_t_t_t_t.trans (if_pos hc151)
                    refine own_step (fun _ => XS.icmpNo X65.here hx rfl (hb hby at_151) rfl (teq hc151).2) ?_
                    show own_Ends p e below s _ _ _ T65 (mkF m 154 #[.val (.int i0), .val (.int (i0 &&& (7 : Int32))), .val (.ref w117), .val (.int (0 : Int32)), .val (.int (f1_0 w117 w13 w27 w37)), .val (.int (0 : Int32))] [])
                    refine own_step (fun _ => XS.iconst X65.here hx rfl (hb hby at_154)) ?_
                    show own_Ends p e below s _ _ _ T65 (mkF m 155 #[.val (.int i0), .val (.int (i0 &&& (7 : Int32))), .val (.ref w117), .val (.int (0 : Int32)), .val (.int (f1_0 w117 w13 w27 w37)), .val (.int (0 : Int32))] [(.int (1 : Int32))])
                    refine own_step (fun _ => XS.goto X65.here hx rfl (pc0 := 155) (pc' := 159) rfl (hb hby at_155) (by decide) (by decide)) ?_
                    show own_Ends p e below s _ _ _ T65 (mkF m 159 #[.val (.int i0), .val (.int (i0 &&& (7 : Int32))), .val (.ref w117), .val (.int (0 : Int32)), .val (.int (f1_0 w117 w13 w27 w37)), .val (.int (0 : Int32))] [(.int (1 : Int32))])
                    exact own_retN X65 (t := .boolean) hx hret hlk (hb hby at_159) (by decide) (by decide) (by simp) ⟨congrArg (fun z => some (Value.int z)) hv_f_f_f_f_t_t_t_t_t.symm, N64, e65⟩
                  · have hv_f_f_f_f_t_t_t_t_f := hv_f_f_f_f_t_t_t_t.trans (if_neg hc151)
                    refine own_step (fun _ => XS.icmpYes X65.here hx rfl (pc0 := 151) (pc' := 158) rfl (hb hby at_151) rfl (feq hc151).2 (by decide) (by decide)) ?_
                    show own_Ends p e below s _ _ _ T65 (mkF m 158 #[.val (.int i0), .val (.int (i0 &&& (7 : Int32))), .val (.ref w117), .val (.int (0 : Int32)), .val (.int (f1_0 w117 w13 w27 w37)), .val (.int (0 : Int32))] [])
                    refine own_step (fun _ => XS.iconst X65.here hx rfl (hb hby at_158)) ?_
                    show own_Ends p e below s _ _ _ T65 (mkF m 159 #[.val (.int i0), .val (.int (i0 &&& (7 : Int32))), .val (.ref w117), .val (.int (0 : Int32)), .val (.int (f1_0 w117 w13 w27 w37)), .val (.int (0 : Int32))] [(.int (0 : Int32))])
                    exact own_retN X65 (t := .boolean) hx hret hlk (hb hby at_159) (by decide) (by decide) (by simp) ⟨congrArg (fun z => some (Value.int z)) hv_f_f_f_f_t_t_t_t_f.symm, N64, e65⟩
                · have hv_f_f_f_f_t_t_t_f := hv_f_f_f_f_t_t_t.trans (if_neg hc144)
                  refine own_step (fun _ => XS.icmpYes X65.here hx rfl (pc0 := 144) (pc' := 158) rfl (hb hby at_144) rfl (feq hc144).2 (by decide) (by decide)) ?_
                  show own_Ends p e below s _ _ _ T65 (mkF m 158 #[.val (.int i0), .val (.int (i0 &&& (7 : Int32))), .val (.ref w117), .val (.int (0 : Int32)), .val (.int (f1_0 w117 w13 w27 w37)), .val (.int (0 : Int32))] [])
                  refine own_step (fun _ => XS.iconst X65.here hx rfl (hb hby at_158)) ?_
                  show own_Ends p e below s _ _ _ T65 (mkF m 159 #[.val (.int i0), .val (.int (i0 &&& (7 : Int32))), .val (.ref w117), .val (.int (0 : Int32)), .val (.int (f1_0 w117 w13 w27 w37)), .val (.int (0 : Int32))] [(.int (0 : Int32))])
                  exact own_retN X65 (t := .boolean) hx hret hlk (hb hby at_159) (by decide) (by decide) (by simp) ⟨congrArg (fun z => some (Value.int z)) hv_f_f_f_f_t_t_t_f.symm, N64, e65⟩
              · have hv_f_f_f_f_t_t_f := hv_f_f_f_f_t_t.trans (if_neg hc131)
                refine own_step (fun _ => Jvm.RoadKit.acmp (g := (mkF m 131 #[.val (.int i0), .val (.int (i0 &&& (7 : Int32))), .val (.ref w117), .val (.int (0 : Int32)), .val (.int (f1_0 w117 w13 w27 w37)), .unset] [(.ref w7), (.ref w117)])) X65 hx rfl rfl rfl (pc0 := 131) (pc' := 134) (same := false) rfl (hb hby at_131) rfl (decide_eq_false fun q => hc131 (Value.ref.inj q)) (by decide) (by decide)) ?_
                show own_Ends p e below s _ _ _ T65 (mkF m 134 #[.val (.int i0), .val (.int (i0 &&& (7 : Int32))), .val (.ref w117), .val (.int (0 : Int32)), .val (.int (f1_0 w117 w13 w27 w37)), .unset] [])
                refine own_step (fun _ => XS.iconst X65.here hx rfl (hb hby at_134)) ?_
                show own_Ends p e below s _ _ _ T65 (mkF m 135 #[.val (.int i0), .val (.int (i0 &&& (7 : Int32))), .val (.ref w117), .val (.int (0 : Int32)), .val (.int (f1_0 w117 w13 w27 w37)), .unset] [(.int (1 : Int32))])
                refine own_step (fun _ => XS.goto X65.here hx rfl (pc0 := 135) (pc' := 139) rfl (hb hby at_135) (by decide) (by decide)) ?_
                show own_Ends p e below s _ _ _ T65 (mkF m 139 #[.val (.int i0), .val (.int (i0 &&& (7 : Int32))), .val (.ref w117), .val (.int (0 : Int32)), .val (.int (f1_0 w117 w13 w27 w37)), .unset] [(.int (1 : Int32))])
                refine own_step (fun _ => XS.istore X65.here hx rfl (hb hby at_139) rfl (l' := #[.val (.int i0), .val (.int (i0 &&& (7 : Int32))), .val (.ref w117), .val (.int (0 : Int32)), .val (.int (f1_0 w117 w13 w27 w37)), .val (.int (1 : Int32))]) rfl) ?_
                show own_Ends p e below s _ _ _ T65 (mkF m 141 #[.val (.int i0), .val (.int (i0 &&& (7 : Int32))), .val (.ref w117), .val (.int (0 : Int32)), .val (.int (f1_0 w117 w13 w27 w37)), .val (.int (1 : Int32))] [])
                refine own_step (fun _ => XS.iload X65.here hx rfl (hb hby at_141) rfl) ?_
                show own_Ends p e below s _ _ _ T65 (mkF m 143 #[.val (.int i0), .val (.int (i0 &&& (7 : Int32))), .val (.ref w117), .val (.int (0 : Int32)), .val (.int (f1_0 w117 w13 w27 w37)), .val (.int (1 : Int32))] [(.int (f1_0 w117 w13 w27 w37))])
                refine own_step (fun _ => XS.iloadN X65.here hx rfl (hb hby at_143) rfl) ?_
                show own_Ends p e below s _ _ _ T65 (mkF m 144 #[.val (.int i0), .val (.int (i0 &&& (7 : Int32))), .val (.ref w117), .val (.int (0 : Int32)), .val (.int (f1_0 w117 w13 w27 w37)), .val (.int (1 : Int32))] [(.int (0 : Int32)), (.int (f1_0 w117 w13 w27 w37))])
                by_cases hc144 : (f1_0 w117 w13 w27 w37) = (0 : Int32)
                · have hv_f_f_f_f_t_t_f_t := hv_f_f_f_f_t_t_f.trans (if_pos hc144)
                  refine own_step (fun _ => XS.icmpNo X65.here hx rfl (hb hby at_144) rfl (teq hc144).2) ?_
                  show own_Ends p e below s _ _ _ T65 (mkF m 147 #[.val (.int i0), .val (.int (i0 &&& (7 : Int32))), .val (.ref w117), .val (.int (0 : Int32)), .val (.int (f1_0 w117 w13 w27 w37)), .val (.int (1 : Int32))] [])
                  refine own_step (fun _ => XS.iload X65.here hx rfl (hb hby at_147) rfl) ?_
                  show own_Ends p e below s _ _ _ T65 (mkF m 149 #[.val (.int i0), .val (.int (i0 &&& (7 : Int32))), .val (.ref w117), .val (.int (0 : Int32)), .val (.int (f1_0 w117 w13 w27 w37)), .val (.int (1 : Int32))] [(.int (f1_0 w117 w13 w27 w37))])
                  refine own_step (fun _ => XS.iload X65.here hx rfl (hb hby at_149) rfl) ?_
                  show own_Ends p e below s _ _ _ T65 (mkF m 151 #[.val (.int i0), .val (.int (i0 &&& (7 : Int32))), .val (.ref w117), .val (.int (0 : Int32)), .val (.int (f1_0 w117 w13 w27 w37)), .val (.int (1 : Int32))] [(.int (1 : Int32)), (.int (f1_0 w117 w13 w27 w37))])
                  by_cases hc151 : (f1_0 w117 w13 w27 w37) = (1 : Int32)
                  · have hv_f_f_f_f_t_t_f_t_t := hv_f_f_f_f_t_t_f_t.trans (if_pos hc151)
                    refine own_step (fun _ => XS.icmpNo X65.here hx rfl (hb hby at_151) rfl (teq hc151).2) ?_
                    show own_Ends p e below s _ _ _ T65 (mkF m 154 #[.val (.int i0), .val (.int (i0 &&& (7 : Int32))), .val (.ref w117), .val (.int (0 : Int32)), .val (.int (f1_0 w117 w13 w27 w37)), .val (.int (1 : Int32))] [])
                    refine own_step (fun _ => XS.iconst X65.here hx rfl (hb hby at_154)) ?_
                    show own_Ends p e below s _ _ _ T65 (mkF m 155 #[.val (.int i0), .val (.int (i0 &&& (7 : Int32))), .val (.ref w117), .val (.int (0 : Int32)), .val (.int (f1_0 w117 w13 w27 w37)), .val (.int (1 : Int32))] [(.int (1 : Int32))])
                    refine own_step (fun _ => XS.goto X65.here hx rfl (pc0 := 155) (pc' := 159) rfl (hb hby at_155) (by decide) (by decide)) ?_
                    show own_Ends p e below s _ _ _ T65 (mkF m 159 #[.val (.int i0), .val (.int (i0 &&& (7 : Int32))), .val (.ref w117), .val (.int (0 : Int32)), .val (.int (f1_0 w117 w13 w27 w37)), .val (.int (1 : Int32))] [(.int (1 : Int32))])
                    exact own_retN X65 (t := .boolean) hx hret hlk (hb hby at_159) (by decide) (by decide) (by simp) ⟨congrArg (fun z => some (Value.int z)) hv_f_f_f_f_t_t_f_t_t.symm, N64, e65⟩
                  · have hv_f_f_f_f_t_t_f_t_f := hv_f_f_f_f_t_t_f_t.trans (if_neg hc151)
                    refine own_step (fun _ => XS.icmpYes X65.here hx rfl (pc0 := 151) (pc' := 158) rfl (hb hby at_151) rfl (feq hc151).2 (by decide) (by decide)) ?_
                    show own_Ends p e below s _ _ _ T65 (mkF m 158 #[.val (.int i0), .val (.int (i0 &&& (7 : Int32))), .val (.ref w117), .val (.int (0 : Int32)), .val (.int (f1_0 w117 w13 w27 w37)), .val (.int (1 : Int32))] [])
                    refine own_step (fun _ => XS.iconst X65.here hx rfl (hb hby at_158)) ?_
                    show own_Ends p e below s _ _ _ T65 (mkF m 159 #[.val (.int i0), .val (.int (i0 &&& (7 : Int32))), .val (.ref w117), .val (.int (0 : Int32)), .val (.int (f1_0 w117 w13 w27 w37)), .val (.int (1 : Int32))] [(.int (0 : Int32))])
                    exact own_retN X65 (t := .boolean) hx hret hlk (hb hby at_159) (by decide) (by decide) (by simp) ⟨congrArg (fun z => some (Value.int z)) hv_f_f_f_f_t_t_f_t_f.symm, N64, e65⟩
                · have hv_f_f_f_f_t_t_f_f := hv_f_f_f_f_t_t_f.trans (if_neg hc144)
                  refine own_step (fun _ => XS.icmpYes X65.here hx rfl (pc0 := 144) (pc' := 158) rfl (hb hby at_144) rfl (feq hc144).2 (by decide) (by decide)) ?_
                  show own_Ends p e below s _ _ _ T65 (mkF m 158 #[.val (.int i0), .val (.int (i0 &&& (7 : Int32))), .val (.ref w117), .val (.int (0 : Int32)), .val (.int (f1_0 w117 w13 w27 w37)), .val (.int (1 : Int32))] [])
                  refine own_step (fun _ => XS.iconst X65.here hx rfl (hb hby at_158)) ?_
                  show own_Ends p e below s _ _ _ T65 (mkF m 159 #[.val (.int i0), .val (.int (i0 &&& (7 : Int32))), .val (.ref w117), .val (.int (0 : Int32)), .val (.int (f1_0 w117 w13 w27 w37)), .val (.int (1 : Int32))] [(.int (0 : Int32))])
                  exact own_retN X65 (t := .boolean) hx hret hlk (hb hby at_159) (by decide) (by decide) (by simp) ⟨congrArg (fun z => some (Value.int z)) hv_f_f_f_f_t_t_f_f.symm, N64, e65⟩
            · have hv_f_f_f_f_t_f := hv_f_f_f_f_t.trans (if_neg hc124)
              refine own_step (fun _ => XS.ifYes X64.here hx rfl (pc0 := 124) (pc' := 138) rfl (hb hby at_124) rfl ((if0 _ _).trans (feq hc124).2) (by decide) (by decide)) ?_
              show own_Ends p e below s _ _ _ T64 (mkF m 138 #[.val (.int i0), .val (.int (i0 &&& (7 : Int32))), .val (.ref w117), .val (.int (0 : Int32)), .val (.int (f1_0 w117 w13 w27 w37)), .unset] [])
              refine own_step (fun _ => XS.iconst X64.here hx rfl (hb hby at_138)) ?_
              show own_Ends p e below s _ _ _ T64 (mkF m 139 #[.val (.int i0), .val (.int (i0 &&& (7 : Int32))), .val (.ref w117), .val (.int (0 : Int32)), .val (.int (f1_0 w117 w13 w27 w37)), .unset] [(.int (0 : Int32))])
              refine own_step (fun _ => XS.istore X64.here hx rfl (hb hby at_139) rfl (l' := #[.val (.int i0), .val (.int (i0 &&& (7 : Int32))), .val (.ref w117), .val (.int (0 : Int32)), .val (.int (f1_0 w117 w13 w27 w37)), .val (.int (0 : Int32))]) rfl) ?_
              show own_Ends p e below s _ _ _ T64 (mkF m 141 #[.val (.int i0), .val (.int (i0 &&& (7 : Int32))), .val (.ref w117), .val (.int (0 : Int32)), .val (.int (f1_0 w117 w13 w27 w37)), .val (.int (0 : Int32))] [])
              refine own_step (fun _ => XS.iload X64.here hx rfl (hb hby at_141) rfl) ?_
              show own_Ends p e below s _ _ _ T64 (mkF m 143 #[.val (.int i0), .val (.int (i0 &&& (7 : Int32))), .val (.ref w117), .val (.int (0 : Int32)), .val (.int (f1_0 w117 w13 w27 w37)), .val (.int (0 : Int32))] [(.int (f1_0 w117 w13 w27 w37))])
              refine own_step (fun _ => XS.iloadN X64.here hx rfl (hb hby at_143) rfl) ?_
              show own_Ends p e below s _ _ _ T64 (mkF m 144 #[.val (.int i0), .val (.int (i0 &&& (7 : Int32))), .val (.ref w117), .val (.int (0 : Int32)), .val (.int (f1_0 w117 w13 w27 w37)), .val (.int (0 : Int32))] [(.int (0 : Int32)), (.int (f1_0 w117 w13 w27 w37))])
              by_cases hc144 : (f1_0 w117 w13 w27 w37) = (0 : Int32)
              · have hv_f_f_f_f_t_f_t := hv_f_f_f_f_t_f.trans (if_pos hc144)
                refine own_step (fun _ => XS.icmpNo X64.here hx rfl (hb hby at_144) rfl (teq hc144).2) ?_
                show own_Ends p e below s _ _ _ T64 (mkF m 147 #[.val (.int i0), .val (.int (i0 &&& (7 : Int32))), .val (.ref w117), .val (.int (0 : Int32)), .val (.int (f1_0 w117 w13 w27 w37)), .val (.int (0 : Int32))] [])
                refine own_step (fun _ => XS.iload X64.here hx rfl (hb hby at_147) rfl) ?_
                show own_Ends p e below s _ _ _ T64 (mkF m 149 #[.val (.int i0), .val (.int (i0 &&& (7 : Int32))), .val (.ref w117), .val (.int (0 : Int32)), .val (.int (f1_0 w117 w13 w27 w37)), .val (.int (0 : Int32))] [(.int (f1_0 w117 w13 w27 w37))])
                refine own_step (fun _ => XS.iload X64.here hx rfl (hb hby at_149) rfl) ?_
                show own_Ends p e below s _ _ _ T64 (mkF m 151 #[.val (.int i0), .val (.int (i0 &&& (7 : Int32))), .val (.ref w117), .val (.int (0 : Int32)), .val (.int (f1_0 w117 w13 w27 w37)), .val (.int (0 : Int32))] [(.int (0 : Int32)), (.int (f1_0 w117 w13 w27 w37))])
                by_cases hc151 : (f1_0 w117 w13 w27 w37) = (0 : Int32)
                · have hv_f_f_f_f_t_f_t_t := hv_f_f_f_f_t_f_t.trans (if_pos hc151)
                  refine own_step (fun _ => XS.icmpNo X64.here hx rfl (hb hby at_151) rfl (teq hc151).2) ?_
                  show own_Ends p e below s _ _ _ T64 (mkF m 154 #[.val (.int i0), .val (.int (i0 &&& (7 : Int32))), .val (.ref w117), .val (.int (0 : Int32)), .val (.int (f1_0 w117 w13 w27 w37)), .val (.int (0 : Int32))] [])
                  refine own_step (fun _ => XS.iconst X64.here hx rfl (hb hby at_154)) ?_
                  show own_Ends p e below s _ _ _ T64 (mkF m 155 #[.val (.int i0), .val (.int (i0 &&& (7 : Int32))), .val (.ref w117), .val (.int (0 : Int32)), .val (.int (f1_0 w117 w13 w27 w37)), .val (.int (0 : Int32))] [(.int (1 : Int32))])
                  refine own_step (fun _ => XS.goto X64.here hx rfl (pc0 := 155) (pc' := 159) rfl (hb hby at_155) (by decide) (by decide)) ?_
                  show own_Ends p e below s _ _ _ T64 (mkF m 159 #[.val (.int i0), .val (.int (i0 &&& (7 : Int32))), .val (.ref w117), .val (.int (0 : Int32)), .val (.int (f1_0 w117 w13 w27 w37)), .val (.int (0 : Int32))] [(.int (1 : Int32))])
                  exact own_retN X64 (t := .boolean) hx hret hlk (hb hby at_159) (by decide) (by decide) (by simp) ⟨congrArg (fun z => some (Value.int z)) hv_f_f_f_f_t_f_t_t.symm, N64, hh64⟩
                · have hv_f_f_f_f_t_f_t_f := hv_f_f_f_f_t_f_t.trans (if_neg hc151)
                  refine own_step (fun _ => XS.icmpYes X64.here hx rfl (pc0 := 151) (pc' := 158) rfl (hb hby at_151) rfl (feq hc151).2 (by decide) (by decide)) ?_
                  show own_Ends p e below s _ _ _ T64 (mkF m 158 #[.val (.int i0), .val (.int (i0 &&& (7 : Int32))), .val (.ref w117), .val (.int (0 : Int32)), .val (.int (f1_0 w117 w13 w27 w37)), .val (.int (0 : Int32))] [])
                  refine own_step (fun _ => XS.iconst X64.here hx rfl (hb hby at_158)) ?_
                  show own_Ends p e below s _ _ _ T64 (mkF m 159 #[.val (.int i0), .val (.int (i0 &&& (7 : Int32))), .val (.ref w117), .val (.int (0 : Int32)), .val (.int (f1_0 w117 w13 w27 w37)), .val (.int (0 : Int32))] [(.int (0 : Int32))])
                  exact own_retN X64 (t := .boolean) hx hret hlk (hb hby at_159) (by decide) (by decide) (by simp) ⟨congrArg (fun z => some (Value.int z)) hv_f_f_f_f_t_f_t_f.symm, N64, hh64⟩
              · have hv_f_f_f_f_t_f_f := hv_f_f_f_f_t_f.trans (if_neg hc144)
                refine own_step (fun _ => XS.icmpYes X64.here hx rfl (pc0 := 144) (pc' := 158) rfl (hb hby at_144) rfl (feq hc144).2 (by decide) (by decide)) ?_
                show own_Ends p e below s _ _ _ T64 (mkF m 158 #[.val (.int i0), .val (.int (i0 &&& (7 : Int32))), .val (.ref w117), .val (.int (0 : Int32)), .val (.int (f1_0 w117 w13 w27 w37)), .val (.int (0 : Int32))] [])
                refine own_step (fun _ => XS.iconst X64.here hx rfl (hb hby at_158)) ?_
                show own_Ends p e below s _ _ _ T64 (mkF m 159 #[.val (.int i0), .val (.int (i0 &&& (7 : Int32))), .val (.ref w117), .val (.int (0 : Int32)), .val (.int (f1_0 w117 w13 w27 w37)), .val (.int (0 : Int32))] [(.int (0 : Int32))])
                exact own_retN X64 (t := .boolean) hx hret hlk (hb hby at_159) (by decide) (by decide) (by simp) ⟨congrArg (fun z => some (Value.int z)) hv_f_f_f_f_t_f_f.symm, N64, hh64⟩
          · have hv_f_f_f_f_f := hv_f_f_f_f.trans (if_neg hc62)
            refine own_step (fun _ => XS.icmpYes X0.here hx rfl (pc0 := 62) (pc' := 74) rfl (hb hby at_62) rfl (feq hc62).2 (by decide) (by decide)) ?_
            show own_Ends p e below s _ _ _ T0 (mkF m 74 #[.val (.int i0), .val (.int (i0 &&& (7 : Int32))), .unset, .unset, .unset, .unset] [])
            refine own_step (fun _ => XS.iloadN X0.here hx rfl (hb hby at_74) rfl) ?_
            show own_Ends p e below s _ _ _ T0 (mkF m 75 #[.val (.int i0), .val (.int (i0 &&& (7 : Int32))), .unset, .unset, .unset, .unset] [(.int (i0 &&& (7 : Int32)))])
            refine own_step (fun _ => XS.iconst X0.here hx rfl (hb hby at_75)) ?_
            show own_Ends p e below s _ _ _ T0 (mkF m 76 #[.val (.int i0), .val (.int (i0 &&& (7 : Int32))), .unset, .unset, .unset, .unset] [(.int (5 : Int32)), (.int (i0 &&& (7 : Int32)))])
            by_cases hc76 : (i0 &&& (7 : Int32)) = (5 : Int32)
            · have hv_f_f_f_f_f_t := hv_f_f_f_f_f.trans (if_pos hc76)
              refine own_step (fun _ => XS.icmpNo X0.here hx rfl (hb hby at_76) rfl (teq hc76).2) ?_
              show own_Ends p e below s _ _ _ T0 (mkF m 79 #[.val (.int i0), .val (.int (i0 &&& (7 : Int32))), .unset, .unset, .unset, .unset] [])
              obtain ⟨T66, X66, e66, st66⟩ := getS2 X0 hx hZ hown (host := "") (Or.inl (hw _ (List.mem_of_getElem? (i := 53) rfl))) Via.refl e0 S139 (g := (mkF m 79 #[.val (.int i0), .val (.int (i0 &&& (7 : Int32))), .unset, .unset, .unset, .unset] [])) rfl (hb hby at_79)
              refine own_step st66 ?_
              show own_Ends p e below s _ _ _ T66 (mkF m 82 #[.val (.int i0), .val (.int (i0 &&& (7 : Int32))), .unset, .unset, .unset, .unset] [(.ref w137)])
              refine own_step (fun _ => XS.astoreN X66.here hx rfl (hb hby at_82) rfl rfl (l' := #[.val (.int i0), .val (.int (i0 &&& (7 : Int32))), .val (.ref w137), .unset, .unset, .unset]) rfl) ?_
              show own_Ends p e below s _ _ _ T66 (mkF m 83 #[.val (.int i0), .val (.int (i0 &&& (7 : Int32))), .val (.ref w137), .unset, .unset, .unset] [])
              refine own_step (fun _ => XS.iconst X66.here hx rfl (hb hby at_83)) ?_
              show own_Ends p e below s _ _ _ T66 (mkF m 84 #[.val (.int i0), .val (.int (i0 &&& (7 : Int32))), .val (.ref w137), .unset, .unset, .unset] [(.int (0 : Int32))])
              refine own_step (fun _ => XS.istoreN X66.here hx rfl (hb hby at_84) rfl (l' := #[.val (.int i0), .val (.int (i0 &&& (7 : Int32))), .val (.ref w137), .val (.int (0 : Int32)), .unset, .unset]) rfl) ?_
              show own_Ends p e below s _ _ _ T66 (mkF m 85 #[.val (.int i0), .val (.int (i0 &&& (7 : Int32))), .val (.ref w137), .val (.int (0 : Int32)), .unset, .unset] [])
              refine own_step (fun _ => XS.goto X66.here hx rfl (pc0 := 85) (pc' := 109) rfl (hb hby at_85) (by decide) (by decide)) ?_
              show own_Ends p e below s _ _ _ T66 (mkF m 109 #[.val (.int i0), .val (.int (i0 &&& (7 : Int32))), .val (.ref w137), .val (.int (0 : Int32)), .unset, .unset] [])
              refine own_step (fun _ => XS.aloadN X66.here hx rfl (hb hby at_109) rfl rfl) ?_
              show own_Ends p e below s _ _ _ T66 (mkF m 110 #[.val (.int i0), .val (.int (i0 &&& (7 : Int32))), .val (.ref w137), .val (.int (0 : Int32)), .unset, .unset] [(.ref w137)])
              obtain ⟨cq67, kq67, q67a, q67b, q67c⟩ := isOf hZ e66 E140
              obtain ⟨_, _, ⟨T67, L67, k67, n67⟩, -, X67, ⟨Lc67, hQ67, l67, y67, z67⟩, st67⟩ := X66.virtualBack hx (y := (⟨"lomwright/lom/Datatype", "holdsText", "()Z"⟩ : MethodName)) (z := (⟨"lomwright/lom/Datatype", "holdsText", "()Z"⟩ : MethodName)) hown (mvT hZ (hw _ (List.mem_of_getElem? (i := 3) rfl))) (mvT hZ (hw _ (List.mem_of_getElem? (i := 4) rfl))) (notFace_of_selects (args := #[]) (mvT hZ (hw _ (List.mem_of_getElem? (i := 6) rfl)))) (mvT hZ (hw _ (List.mem_of_getElem? (i := 6) rfl))) (mvT hZ (hw _ (List.mem_of_getElem? (i := 5) rfl))) (by decide) (backOf (W := 0) (rm1 l Z a0 hw [] w137 w13 w27 w37 h0 n0 Z0 S15 S29 S39) hZ (hw _ (List.mem_of_getElem? (i := 7) rfl)) (hw _ (List.mem_of_getElem? (i := 1) rfl)) (by decide) (by decide)) q67a q67c (g := (mkF m 110 #[.val (.int i0), .val (.int (i0 &&& (7 : Int32))), .val (.ref w137), .val (.int (0 : Int32)), .unset, .unset] [(.ref w137)])) rfl (by rw [hml]; rfl) (Steps.refl _) (argsL := []) (rest := []) (lenOf pd_0 rfl) rfl (by show 2 * 0 + _ ≤ _; exact Nat.le_of_eq rfl) (hb hby at_110) (fun _ _ => ⟨rfl, e66, (by decide : 0 + 0 ≤ _), (by decide : 0 + 0 ≤ _)⟩)
              dsimp only [Pt.U, Pt.locs, Pt.cells, Pt.slots] at X67 l67 y67 z67 st67 hQ67
              subst l67 y67 z67
              obtain ⟨rfl, N67q, hh67⟩ := hQ67
              have N67 := Fr.app N0 N67q
              refine own_step (fun _ => st67.trans) ?_
              show own_Ends p e below s _ _ _ T67 (mkF m 113 #[.val (.int i0), .val (.int (i0 &&& (7 : Int32))), .val (.ref w137), .val (.int (0 : Int32)), .unset, .unset] [(.int (f1_0 w137 w13 w27 w37))])
              refine own_step (fun _ => XS.istore X67.here hx rfl (hb hby at_113) rfl (l' := #[.val (.int i0), .val (.int (i0 &&& (7 : Int32))), .val (.ref w137), .val (.int (0 : Int32)), .val (.int (f1_0 w137 w13 w27 w37)), .unset]) rfl) ?_
              show own_Ends p e below s _ _ _ T67 (mkF m 115 #[.val (.int i0), .val (.int (i0 &&& (7 : Int32))), .val (.ref w137), .val (.int (0 : Int32)), .val (.int (f1_0 w137 w13 w27 w37)), .unset] [])
              refine own_step (fun _ => XS.aloadN X67.here hx rfl (hb hby at_115) rfl rfl) ?_
              show own_Ends p e below s _ _ _ T67 (mkF m 116 #[.val (.int i0), .val (.int (i0 &&& (7 : Int32))), .val (.ref w137), .val (.int (0 : Int32)), .val (.int (f1_0 w137 w13 w27 w37)), .unset] [(.ref w137)])
              obtain ⟨cq68, kq68, q68a, q68b, q68c⟩ := isOf hZ hh67 E140
              obtain ⟨_, _, ⟨T68, L68, k68, n68⟩, -, X68, ⟨Lc68, hQ68, l68, y68, z68⟩, st68⟩ := X67.virtualBack hx (y := (⟨"lomwright/lom/Datatype", "components", "()Ljava/util/List;"⟩ : MethodName)) (z := (⟨"lomwright/lom/Datatype", "components", "()Ljava/util/List;"⟩ : MethodName)) hown (mvT hZ (hw _ (List.mem_of_getElem? (i := 14) rfl))) (mvT hZ (hw _ (List.mem_of_getElem? (i := 15) rfl))) (notFace_of_selects (args := #[]) (mvT hZ (hw _ (List.mem_of_getElem? (i := 17) rfl)))) (mvT hZ (hw _ (List.mem_of_getElem? (i := 17) rfl))) (mvT hZ (hw _ (List.mem_of_getElem? (i := 16) rfl))) (by decide) (backOf (W := 0) (rm2 l Z a0 hw [] w137 w147 h0 n0 Z0 F149) hZ (hw _ (List.mem_of_getElem? (i := 18) rfl)) (hw _ (List.mem_of_getElem? (i := 1) rfl)) (by decide) (by decide)) q68a q68c (g := (mkF m 116 #[.val (.int i0), .val (.int (i0 &&& (7 : Int32))), .val (.ref w137), .val (.int (0 : Int32)), .val (.int (f1_0 w137 w13 w27 w37)), .unset] [(.ref w137)])) rfl (by rw [hml]; rfl) (Steps.refl _) (argsL := []) (rest := []) (lenOf pd_1 rfl) rfl (by show 2 * 0 + _ ≤ _; exact Nat.le_of_eq rfl) (hb hby at_116) (fun _ _ => ⟨rfl, hh67, (by decide : 0 + 0 ≤ _), (by decide : 0 + 0 ≤ _)⟩)
              dsimp only [Pt.U, Pt.locs, Pt.cells, Pt.slots] at X68 l68 y68 z68 st68 hQ68
              subst l68 y68 z68
              obtain ⟨rfl, N68q, hh68⟩ := hQ68
              have N68 := Fr.app N67 N68q
              refine own_step (fun _ => st68.trans) ?_
              show own_Ends p e below s _ _ _ T68 (mkF m 119 #[.val (.int i0), .val (.int (i0 &&& (7 : Int32))), .val (.ref w137), .val (.int (0 : Int32)), .val (.int (f1_0 w137 w13 w27 w37)), .unset] [(.ref w147)])
              obtain ⟨cq69, kq69, q69a, q69b, q69c⟩ := isOf hZ hh68 E150
              obtain ⟨_, _, ⟨T69, L69, k69, n69⟩, -, X69, ⟨Lc69, hQ69, l69, y69, z69⟩, st69⟩ := X68.interfaceBack hx (xi := (⟨"java/util/List", "size", "()I"⟩ : MethodName)) (y := (⟨"java/util/ImmutableCollections$List12", "size", "()I"⟩ : MethodName)) hown (mvT hZ (hw _ (List.mem_of_getElem? (i := 21) rfl))) (mvT hZ (hw _ (List.mem_of_getElem? (i := 22) rfl))) (mvT hZ (hw _ (List.mem_of_getElem? (i := 23) rfl))) (mvT hZ (hw _ (List.mem_of_getElem? (i := 36) rfl))) (mvT hZ (hw _ (List.mem_of_getElem? (i := 37) rfl))) (mvT hZ (hw _ (List.mem_of_getElem? (i := 38) rfl))) (mvT hZ (hw _ (List.mem_of_getElem? (i := 39) rfl))) (mvT hZ (hw _ (List.mem_of_getElem? (i := 40) rfl))) (by decide) (backOf (W := 0) (rm4 l Z a0 hw [] w147 w151 w1 h0 n0 Z0 F153 S3) hZ (hw _ (List.mem_of_getElem? (i := 42) rfl)) (hw _ (List.mem_of_getElem? (i := 41) rfl)) (by decide) (by decide)) q69a q69b q69c (g := (mkF m 119 #[.val (.int i0), .val (.int (i0 &&& (7 : Int32))), .val (.ref w137), .val (.int (0 : Int32)), .val (.int (f1_0 w137 w13 w27 w37)), .unset] [(.ref w147)])) rfl (by rw [hml]; rfl) (Steps.refl _) (argsL := []) (rest := []) (lenOf pd_2 rfl) rfl (by show 2 * 0 + _ ≤ _; exact Nat.le_of_eq rfl) (hb hby at_119) (fun _ _ => ⟨rfl, hh68, (by decide : 0 + 0 ≤ _), (by decide : 0 + 0 ≤ _)⟩)
              dsimp only [Pt.U, Pt.locs, Pt.cells, Pt.slots] at X69 l69 y69 z69 st69 hQ69
              subst l69 y69 z69
              obtain ⟨rfl, N69q, hh69⟩ := hQ69
              have N69 := Fr.app N68 N69q
              refine own_step (fun _ => st69.trans) ?_
              show own_Ends p e below s _ _ _ T69 (mkF m 124 #[.val (.int i0), .val (.int (i0 &&& (7 : Int32))), .val (.ref w137), .val (.int (0 : Int32)), .val (.int (f1_0 w137 w13 w27 w37)), .unset] [(.int (f4_0 w147 w151 w1))])
              by_cases hc124 : (f4_0 w147 w151 w1) = (0 : Int32)
              · have hv_f_f_f_f_f_t_t := hv_f_f_f_f_f_t.trans (if_pos hc124)
                refine own_step (fun _ => XS.ifNo X69.here hx rfl (hb hby at_124) rfl ((if0 _ _).trans (teq hc124).2)) ?_
                show own_Ends p e below s _ _ _ T69 (mkF m 127 #[.val (.int i0), .val (.int (i0 &&& (7 : Int32))), .val (.ref w137), .val (.int (0 : Int32)), .val (.int (f1_0 w137 w13 w27 w37)), .unset] [])
                refine own_step (fun _ => XS.aloadN X69.here hx rfl (hb hby at_127) rfl rfl) ?_
                show own_Ends p e below s _ _ _ T69 (mkF m 128 #[.val (.int i0), .val (.int (i0 &&& (7 : Int32))), .val (.ref w137), .val (.int (0 : Int32)), .val (.int (f1_0 w137 w13 w27 w37)), .unset] [(.ref w137)])
                obtain ⟨T70, X70, e70, st70⟩ := getS2 X69 hx hZ hown (host := "") (Or.inl (hw _ (List.mem_of_getElem? (i := 0) rfl))) Via.refl hh69 S9 (g := (mkF m 128 #[.val (.int i0), .val (.int (i0 &&& (7 : Int32))), .val (.ref w137), .val (.int (0 : Int32)), .val (.int (f1_0 w137 w13 w27 w37)), .unset] [(.ref w137)])) rfl (hb hby at_128)
                refine own_step st70 ?_
                show own_Ends p e below s _ _ _ T70 (mkF m 131 #[.val (.int i0), .val (.int (i0 &&& (7 : Int32))), .val (.ref w137), .val (.int (0 : Int32)), .val (.int (f1_0 w137 w13 w27 w37)), .unset] [(.ref w7), (.ref w137)])
                by_cases hc131 : w137 = w7
                · have hv_f_f_f_f_f_t_t_t := hv_f_f_f_f_f_t_t.trans (if_pos hc131)
                  refine own_step (fun _ => Jvm.RoadKit.acmp (g := (mkF m 131 #[.val (.int i0), .val (.int (i0 &&& (7 : Int32))), .val (.ref w137), .val (.int (0 : Int32)), .val (.int (f1_0 w137 w13 w27 w37)), .unset] [(.ref w7), (.ref w137)])) X70 hx rfl rfl rfl (pc0 := 131) (pc' := 138) (same := true) rfl (hb hby at_131) rfl (decide_eq_true (congrArg Value.ref hc131)) (by decide) (by decide)) ?_
                  show own_Ends p e below s _ _ _ T70 (mkF m 138 #[.val (.int i0), .val (.int (i0 &&& (7 : Int32))), .val (.ref w137), .val (.int (0 : Int32)), .val (.int (f1_0 w137 w13 w27 w37)), .unset] [])
                  refine own_step (fun _ => XS.iconst X70.here hx rfl (hb hby at_138)) ?_
                  show own_Ends p e below s _ _ _ T70 (mkF m 139 #[.val (.int i0), .val (.int (i0 &&& (7 : Int32))), .val (.ref w137), .val (.int (0 : Int32)), .val (.int (f1_0 w137 w13 w27 w37)), .unset] [(.int (0 : Int32))])
                  refine own_step (fun _ => XS.istore X70.here hx rfl (hb hby at_139) rfl (l' := #[.val (.int i0), .val (.int (i0 &&& (7 : Int32))), .val (.ref w137), .val (.int (0 : Int32)), .val (.int (f1_0 w137 w13 w27 w37)), .val (.int (0 : Int32))]) rfl) ?_
                  show own_Ends p e below s _ _ _ T70 (mkF m 141 #[.val (.int i0), .val (.int (i0 &&& (7 : Int32))), .val (.ref w137), .val (.int (0 : Int32)), .val (.int (f1_0 w137 w13 w27 w37)), .val (.int (0 : Int32))] [])
                  refine own_step (fun _ => XS.iload X70.here hx rfl (hb hby at_141) rfl) ?_
                  show own_Ends p e below s _ _ _ T70 (mkF m 143 #[.val (.int i0), .val (.int (i0 &&& (7 : Int32))), .val (.ref w137), .val (.int (0 : Int32)), .val (.int (f1_0 w137 w13 w27 w37)), .val (.int (0 : Int32))] [(.int (f1_0 w137 w13 w27 w37))])
                  refine own_step (fun _ => XS.iloadN X70.here hx rfl (hb hby at_143) rfl) ?_
                  show own_Ends p e below s _ _ _ T70 (mkF m 144 #[.val (.int i0), .val (.int (i0 &&& (7 : Int32))), .val (.ref w137), .val (.int (0 : Int32)), .val (.int (f1_0 w137 w13 w27 w37)), .val (.int (0 : Int32))] [(.int (0 : Int32)), (.int (f1_0 w137 w13 w27 w37))])
                  by_cases hc144 : (f1_0 w137 w13 w27 w37) = (0 : Int32)
                  · have hv_f_f_f_f_f_t_t_t_t := hv_f_f_f_f_f_t_t_t.trans (if_pos hc144)
                    refine own_step (fun _ => XS.icmpNo X70.here hx rfl (hb hby at_144) rfl (teq hc144).2) ?_
                    show own_Ends p e below s _ _ _ T70 (mkF m 147 #[.val (.int i0), .val (.int (i0 &&& (7 : Int32))), .val (.ref w137), .val (.int (0 : Int32)), .val (.int (f1_0 w137 w13 w27 w37)), .val (.int (0 : Int32))] [])
                    refine own_step (fun _ => XS.iload X70.here hx rfl (hb hby at_147) rfl) ?_
                    show own_Ends p e below s _ _ _ T70 (mkF m 149 #[.val (.int i0), .val (.int (i0 &&& (7 : Int32))), .val (.ref w137), .val (.int (0 : Int32)), .val (.int (f1_0 w137 w13 w27 w37)), .val (.int (0 : Int32))] [(.int (f1_0 w137 w13 w27 w37))])
                    refine own_step (fun _ => XS.iload X70.here hx rfl (hb hby at_149) rfl) ?_
                    show own_Ends p e below s _ _ _ T70 (mkF m 151 #[.val (.int i0), .val (.int (i0 &&& (7 : Int32))), .val (.ref w137), .val (.int (0 : Int32)), .val (.int (f1_0 w137 w13 w27 w37)), .val (.int (0 : Int32))] [(.int (0 : Int32)), (.int (f1_0 w137 w13 w27 w37))])
                    by_cases hc151 : (f1_0 w137 w13 w27 w37) = (0 : Int32)
                    · have hv_f_f_f_f_f_t_t_t_t_t := hv_f_f_f_f_f_t_t_t_t.trans (if_pos hc151)
                      refine own_step (fun _ => XS.icmpNo X70.here hx rfl (hb hby at_151) rfl (teq hc151).2) ?_
                      show own_Ends p e below s _ _ _ T70 (mkF m 154 #[.val (.int i0), .val (.int (i0 &&& (7 : Int32))), .val (.ref w137), .val (.int (0 : Int32)), .val (.int (f1_0 w137 w13 w27 w37)), .val (.int (0 : Int32))] [])
                      refine own_step (fun _ => XS.iconst X70.here hx rfl (hb hby at_154)) ?_
                      show own_Ends p e below s _ _ _ T70 (mkF m 155 #[.val (.int i0), .val (.int (i0 &&& (7 : Int32))), .val (.ref w137), .val (.int (0 : Int32)), .val (.int (f1_0 w137 w13 w27 w37)), .val (.int (0 : Int32))] [(.int (1 : Int32))])
                      refine own_step (fun _ => XS.goto X70.here hx rfl (pc0 := 155) (pc' := 159) rfl (hb hby at_155) (by decide) (by decide)) ?_
                      show own_Ends p e below s _ _ _ T70 (mkF m 159 #[.val (.int i0), .val (.int (i0 &&& (7 : Int32))), .val (.ref w137), .val (.int (0 : Int32)), .val (.int (f1_0 w137 w13 w27 w37)), .val (.int (0 : Int32))] [(.int (1 : Int32))])
                      exact own_retN X70 (t := .boolean) hx hret hlk (hb hby at_159) (by decide) (by decide) (by simp) ⟨congrArg (fun z => some (Value.int z)) hv_f_f_f_f_f_t_t_t_t_t.symm, N69, e70⟩
                    · have hv_f_f_f_f_f_t_t_t_t_f := hv_f_f_f_f_f_t_t_t_t.trans (if_neg hc151)
                      refine own_step (fun _ => XS.icmpYes X70.here hx rfl (pc0 := 151) (pc' := 158) rfl (hb hby at_151) rfl (feq hc151).2 (by decide) (by decide)) ?_
                      show own_Ends p e below s _ _ _ T70 (mkF m 158 #[.val (.int i0), .val (.int (i0 &&& (7 : Int32))), .val (.ref w137), .val (.int (0 : Int32)), .val (.int (f1_0 w137 w13 w27 w37)), .val (.int (0 : Int32))] [])
                      refine own_step (fun _ => XS.iconst X70.here hx rfl (hb hby at_158)) ?_
                      show own_Ends p e below s _ _ _ T70 (mkF m 159 #[.val (.int i0), .val (.int (i0 &&& (7 : Int32))), .val (.ref w137), .val (.int (0 : Int32)), .val (.int (f1_0 w137 w13 w27 w37)), .val (.int (0 : Int32))] [(.int (0 : Int32))])
                      exact own_retN X70 (t := .boolean) hx hret hlk (hb hby at_159) (by decide) (by decide) (by simp) ⟨congrArg (fun z => some (Value.int z)) hv_f_f_f_f_f_t_t_t_t_f.symm, N69, e70⟩
                  · have hv_f_f_f_f_f_t_t_t_f := hv_f_f_f_f_f_t_t_t.trans (if_neg hc144)
                    refine own_step (fun _ => XS.icmpYes X70.here hx rfl (pc0 := 144) (pc' := 158) rfl (hb hby at_144) rfl (feq hc144).2 (by decide) (by decide)) ?_
                    show own_Ends p e below s _ _ _ T70 (mkF m 158 #[.val (.int i0), .val (.int (i0 &&& (7 : Int32))), .val (.ref w137), .val (.int (0 : Int32)), .val (.int (f1_0 w137 w13 w27 w37)), .val (.int (0 : Int32))] [])
                    refine own_step (fun _ => XS.iconst X70.here hx rfl (hb hby at_158)) ?_
                    show own_Ends p e below s _ _ _ T70 (mkF m 159 #[.val (.int i0), .val (.int (i0 &&& (7 : Int32))), .val (.ref w137), .val (.int (0 : Int32)), .val (.int (f1_0 w137 w13 w27 w37)), .val (.int (0 : Int32))] [(.int (0 : Int32))])
                    exact own_retN X70 (t := .boolean) hx hret hlk (hb hby at_159) (by decide) (by decide) (by simp) ⟨congrArg (fun z => some (Value.int z)) hv_f_f_f_f_f_t_t_t_f.symm, N69, e70⟩
                · have hv_f_f_f_f_f_t_t_f := hv_f_f_f_f_f_t_t.trans (if_neg hc131)
                  refine own_step (fun _ => Jvm.RoadKit.acmp (g := (mkF m 131 #[.val (.int i0), .val (.int (i0 &&& (7 : Int32))), .val (.ref w137), .val (.int (0 : Int32)), .val (.int (f1_0 w137 w13 w27 w37)), .unset] [(.ref w7), (.ref w137)])) X70 hx rfl rfl rfl (pc0 := 131) (pc' := 134) (same := false) rfl (hb hby at_131) rfl (decide_eq_false fun q => hc131 (Value.ref.inj q)) (by decide) (by decide)) ?_
                  show own_Ends p e below s _ _ _ T70 (mkF m 134 #[.val (.int i0), .val (.int (i0 &&& (7 : Int32))), .val (.ref w137), .val (.int (0 : Int32)), .val (.int (f1_0 w137 w13 w27 w37)), .unset] [])
                  refine own_step (fun _ => XS.iconst X70.here hx rfl (hb hby at_134)) ?_
                  show own_Ends p e below s _ _ _ T70 (mkF m 135 #[.val (.int i0), .val (.int (i0 &&& (7 : Int32))), .val (.ref w137), .val (.int (0 : Int32)), .val (.int (f1_0 w137 w13 w27 w37)), .unset] [(.int (1 : Int32))])
                  refine own_step (fun _ => XS.goto X70.here hx rfl (pc0 := 135) (pc' := 139) rfl (hb hby at_135) (by decide) (by decide)) ?_
                  show own_Ends p e below s _ _ _ T70 (mkF m 139 #[.val (.int i0), .val (.int (i0 &&& (7 : Int32))), .val (.ref w137), .val (.int (0 : Int32)), .val (.int (f1_0 w137 w13 w27 w37)), .unset] [(.int (1 : Int32))])
                  refine own_step (fun _ => XS.istore X70.here hx rfl (hb hby at_139) rfl (l' := #[.val (.int i0), .val (.int (i0 &&& (7 : Int32))), .val (.ref w137), .val (.int (0 : Int32)), .val (.int (f1_0 w137 w13 w27 w37)), .val (.int (1 : Int32))]) rfl) ?_
                  show own_Ends p e below s _ _ _ T70 (mkF m 141 #[.val (.int i0), .val (.int (i0 &&& (7 : Int32))), .val (.ref w137), .val (.int (0 : Int32)), .val (.int (f1_0 w137 w13 w27 w37)), .val (.int (1 : Int32))] [])
                  refine own_step (fun _ => XS.iload X70.here hx rfl (hb hby at_141) rfl) ?_
                  show own_Ends p e below s _ _ _ T70 (mkF m 143 #[.val (.int i0), .val (.int (i0 &&& (7 : Int32))), .val (.ref w137), .val (.int (0 : Int32)), .val (.int (f1_0 w137 w13 w27 w37)), .val (.int (1 : Int32))] [(.int (f1_0 w137 w13 w27 w37))])
                  refine own_step (fun _ => XS.iloadN X70.here hx rfl (hb hby at_143) rfl) ?_
                  show own_Ends p e below s _ _ _ T70 (mkF m 144 #[.val (.int i0), .val (.int (i0 &&& (7 : Int32))), .val (.ref w137), .val (.int (0 : Int32)), .val (.int (f1_0 w137 w13 w27 w37)), .val (.int (1 : Int32))] [(.int (0 : Int32)), (.int (f1_0 w137 w13 w27 w37))])
                  by_cases hc144 : (f1_0 w137 w13 w27 w37) = (0 : Int32)
                  · have hv_f_f_f_f_f_t_t_f_t := hv_f_f_f_f_f_t_t_f.trans (if_pos hc144)
                    refine own_step (fun _ => XS.icmpNo X70.here hx rfl (hb hby at_144) rfl (teq hc144).2) ?_
                    show own_Ends p e below s _ _ _ T70 (mkF m 147 #[.val (.int i0), .val (.int (i0 &&& (7 : Int32))), .val (.ref w137), .val (.int (0 : Int32)), .val (.int (f1_0 w137 w13 w27 w37)), .val (.int (1 : Int32))] [])
                    refine own_step (fun _ => XS.iload X70.here hx rfl (hb hby at_147) rfl) ?_
                    show own_Ends p e below s _ _ _ T70 (mkF m 149 #[.val (.int i0), .val (.int (i0 &&& (7 : Int32))), .val (.ref w137), .val (.int (0 : Int32)), .val (.int (f1_0 w137 w13 w27 w37)), .val (.int (1 : Int32))] [(.int (f1_0 w137 w13 w27 w37))])
                    refine own_step (fun _ => XS.iload X70.here hx rfl (hb hby at_149) rfl) ?_
                    show own_Ends p e below s _ _ _ T70 (mkF m 151 #[.val (.int i0), .val (.int (i0 &&& (7 : Int32))), .val (.ref w137), .val (.int (0 : Int32)), .val (.int (f1_0 w137 w13 w27 w37)), .val (.int (1 : Int32))] [(.int (1 : Int32)), (.int (f1_0 w137 w13 w27 w37))])
                    by_cases hc151 : (f1_0 w137 w13 w27 w37) = (1 : Int32)
                    · have hv_f_f_f_f_f_t_t_f_t_t := hv_f_f_f_f_f_t_t_f_t.trans (if_pos hc151)
                      refine own_step (fun _ => XS.icmpNo X70.here hx rfl (hb hby at_151) rfl (teq hc151).2) ?_
                      show own_Ends p e below s _ _ _ T70 (mkF m 154 #[.val (.int i0), .val (.int (i0 &&& (7 : Int32))), .val (.ref w137), .val (.int (0 : Int32)), .val (.int (f1_0 w137 w13 w27 w37)), .val (.int (1 : Int32))] [])
                      refine own_step (fun _ => XS.iconst X70.here hx rfl (hb hby at_154)) ?_
                      show own_Ends p e below s _ _ _ T70 (mkF m 155 #[.val (.int i0), .val (.int (i0 &&& (7 : Int32))), .val (.ref w137), .val (.int (0 : Int32)), .val (.int (f1_0 w137 w13 w27 w37)), .val (.int (1 : Int32))] [(.int (1 : Int32))])
                      refine own_step (fun _ => XS.goto X70.here hx rfl (pc0 := 155) (pc' := 159) rfl (hb hby at_155) (by decide) (by decide)) ?_
                      show own_Ends p e below s _ _ _ T70 (mkF m 159 #[.val (.int i0), .val (.int (i0 &&& (7 : Int32))), .val (.ref w137), .val (.int (0 : Int32)), .val (.int (f1_0 w137 w13 w27 w37)), .val (.int (1 : Int32))] [(.int (1 : Int32))])
                      exact own_retN X70 (t := .boolean) hx hret hlk (hb hby at_159) (by decide) (by decide) (by simp) ⟨congrArg (fun z => some (Value.int z)) hv_f_f_f_f_f_t_t_f_t_t.symm, N69, e70⟩
                    · have hv_f_f_f_f_f_t_t_f_t_f := hv_f_f_f_f_f_t_t_f_t.trans (if_neg hc151)
                      refine own_step (fun _ => XS.icmpYes X70.here hx rfl (pc0 := 151) (pc' := 158) rfl (hb hby at_151) rfl (feq hc151).2 (by decide) (by decide)) ?_
                      show own_Ends p e below s _ _ _ T70 (mkF m 158 #[.val (.int i0), .val (.int (i0 &&& (7 : Int32))), .val (.ref w137), .val (.int (0 : Int32)), .val (.int (f1_0 w137 w13 w27 w37)), .val (.int (1 : Int32))] [])
                      refine own_step (fun _ => XS.iconst X70.here hx rfl (hb hby at_158)) ?_
                      show own_Ends p e below s _ _ _ T70 (mkF m 159 #[.val (.int i0), .val (.int (i0 &&& (7 : Int32))), .val (.ref w137), .val (.int (0 : Int32)), .val (.int (f1_0 w137 w13 w27 w37)), .val (.int (1 : Int32))] [(.int (0 : Int32))])
                      exact own_retN X70 (t := .boolean) hx hret hlk (hb hby at_159) (by decide) (by decide) (by simp) ⟨congrArg (fun z => some (Value.int z)) hv_f_f_f_f_f_t_t_f_t_f.symm, N69, e70⟩
                  · have hv_f_f_f_f_f_t_t_f_f := hv_f_f_f_f_f_t_t_f.trans (if_neg hc144)
                    refine own_step (fun _ => XS.icmpYes X70.here hx rfl (pc0 := 144) (pc' := 158) rfl (hb hby at_144) rfl (feq hc144).2 (by decide) (by decide)) ?_
                    show own_Ends p e below s _ _ _ T70 (mkF m 158 #[.val (.int i0), .val (.int (i0 &&& (7 : Int32))), .val (.ref w137), .val (.int (0 : Int32)), .val (.int (f1_0 w137 w13 w27 w37)), .val (.int (1 : Int32))] [])
                    refine own_step (fun _ => XS.iconst X70.here hx rfl (hb hby at_158)) ?_
                    show own_Ends p e below s _ _ _ T70 (mkF m 159 #[.val (.int i0), .val (.int (i0 &&& (7 : Int32))), .val (.ref w137), .val (.int (0 : Int32)), .val (.int (f1_0 w137 w13 w27 w37)), .val (.int (1 : Int32))] [(.int (0 : Int32))])
                    exact own_retN X70 (t := .boolean) hx hret hlk (hb hby at_159) (by decide) (by decide) (by simp) ⟨congrArg (fun z => some (Value.int z)) hv_f_f_f_f_f_t_t_f_f.symm, N69, e70⟩
              · have hv_f_f_f_f_f_t_f := hv_f_f_f_f_f_t.trans (if_neg hc124)
                refine own_step (fun _ => XS.ifYes X69.here hx rfl (pc0 := 124) (pc' := 138) rfl (hb hby at_124) rfl ((if0 _ _).trans (feq hc124).2) (by decide) (by decide)) ?_
                show own_Ends p e below s _ _ _ T69 (mkF m 138 #[.val (.int i0), .val (.int (i0 &&& (7 : Int32))), .val (.ref w137), .val (.int (0 : Int32)), .val (.int (f1_0 w137 w13 w27 w37)), .unset] [])
                refine own_step (fun _ => XS.iconst X69.here hx rfl (hb hby at_138)) ?_
                show own_Ends p e below s _ _ _ T69 (mkF m 139 #[.val (.int i0), .val (.int (i0 &&& (7 : Int32))), .val (.ref w137), .val (.int (0 : Int32)), .val (.int (f1_0 w137 w13 w27 w37)), .unset] [(.int (0 : Int32))])
                refine own_step (fun _ => XS.istore X69.here hx rfl (hb hby at_139) rfl (l' := #[.val (.int i0), .val (.int (i0 &&& (7 : Int32))), .val (.ref w137), .val (.int (0 : Int32)), .val (.int (f1_0 w137 w13 w27 w37)), .val (.int (0 : Int32))]) rfl) ?_
                show own_Ends p e below s _ _ _ T69 (mkF m 141 #[.val (.int i0), .val (.int (i0 &&& (7 : Int32))), .val (.ref w137), .val (.int (0 : Int32)), .val (.int (f1_0 w137 w13 w27 w37)), .val (.int (0 : Int32))] [])
                refine own_step (fun _ => XS.iload X69.here hx rfl (hb hby at_141) rfl) ?_
                show own_Ends p e below s _ _ _ T69 (mkF m 143 #[.val (.int i0), .val (.int (i0 &&& (7 : Int32))), .val (.ref w137), .val (.int (0 : Int32)), .val (.int (f1_0 w137 w13 w27 w37)), .val (.int (0 : Int32))] [(.int (f1_0 w137 w13 w27 w37))])
                refine own_step (fun _ => XS.iloadN X69.here hx rfl (hb hby at_143) rfl) ?_
                show own_Ends p e below s _ _ _ T69 (mkF m 144 #[.val (.int i0), .val (.int (i0 &&& (7 : Int32))), .val (.ref w137), .val (.int (0 : Int32)), .val (.int (f1_0 w137 w13 w27 w37)), .val (.int (0 : Int32))] [(.int (0 : Int32)), (.int (f1_0 w137 w13 w27 w37))])
                by_cases hc144 : (f1_0 w137 w13 w27 w37) = (0 : Int32)
                · have hv_f_f_f_f_f_t_f_t := hv_f_f_f_f_f_t_f.trans (if_pos hc144)
                  refine own_step (fun _ => XS.icmpNo X69.here hx rfl (hb hby at_144) rfl (teq hc144).2) ?_
                  show own_Ends p e below s _ _ _ T69 (mkF m 147 #[.val (.int i0), .val (.int (i0 &&& (7 : Int32))), .val (.ref w137), .val (.int (0 : Int32)), .val (.int (f1_0 w137 w13 w27 w37)), .val (.int (0 : Int32))] [])
                  refine own_step (fun _ => XS.iload X69.here hx rfl (hb hby at_147) rfl) ?_
                  show own_Ends p e below s _ _ _ T69 (mkF m 149 #[.val (.int i0), .val (.int (i0 &&& (7 : Int32))), .val (.ref w137), .val (.int (0 : Int32)), .val (.int (f1_0 w137 w13 w27 w37)), .val (.int (0 : Int32))] [(.int (f1_0 w137 w13 w27 w37))])
                  refine own_step (fun _ => XS.iload X69.here hx rfl (hb hby at_149) rfl) ?_
                  show own_Ends p e below s _ _ _ T69 (mkF m 151 #[.val (.int i0), .val (.int (i0 &&& (7 : Int32))), .val (.ref w137), .val (.int (0 : Int32)), .val (.int (f1_0 w137 w13 w27 w37)), .val (.int (0 : Int32))] [(.int (0 : Int32)), (.int (f1_0 w137 w13 w27 w37))])
                  by_cases hc151 : (f1_0 w137 w13 w27 w37) = (0 : Int32)
                  · have hv_f_f_f_f_f_t_f_t_t := hv_f_f_f_f_f_t_f_t.trans (if_pos hc151)
                    refine own_step (fun _ => XS.icmpNo X69.here hx rfl (hb hby at_151) rfl (teq hc151).2) ?_
                    show own_Ends p e below s _ _ _ T69 (mkF m 154 #[.val (.int i0), .val (.int (i0 &&& (7 : Int32))), .val (.ref w137), .val (.int (0 : Int32)), .val (.int (f1_0 w137 w13 w27 w37)), .val (.int (0 : Int32))] [])
                    refine own_step (fun _ => XS.iconst X69.here hx rfl (hb hby at_154)) ?_
                    show own_Ends p e below s _ _ _ T69 (mkF m 155 #[.val (.int i0), .val (.int (i0 &&& (7 : Int32))), .val (.ref w137), .val (.int (0 : Int32)), .val (.int (f1_0 w137 w13 w27 w37)), .val (.int (0 : Int32))] [(.int (1 : Int32))])
                    refine own_step (fun _ => XS.goto X69.here hx rfl (pc0 := 155) (pc' := 159) rfl (hb hby at_155) (by decide) (by decide)) ?_
                    show own_Ends p e below s _ _ _ T69 (mkF m 159 #[.val (.int i0), .val (.int (i0 &&& (7 : Int32))), .val (.ref w137), .val (.int (0 : Int32)), .val (.int (f1_0 w137 w13 w27 w37)), .val (.int (0 : Int32))] [(.int (1 : Int32))])
                    exact own_retN X69 (t := .boolean) hx hret hlk (hb hby at_159) (by decide) (by decide) (by simp) ⟨congrArg (fun z => some (Value.int z)) hv_f_f_f_f_f_t_f_t_t.symm, N69, hh69⟩
                  · have hv_f_f_f_f_f_t_f_t_f := hv_f_f_f_f_f_t_f_t.trans (if_neg hc151)
                    refine own_step (fun _ => XS.icmpYes X69.here hx rfl (pc0 := 151) (pc' := 158) rfl (hb hby at_151) rfl (feq hc151).2 (by decide) (by decide)) ?_
                    show own_Ends p e below s _ _ _ T69 (mkF m 158 #[.val (.int i0), .val (.int (i0 &&& (7 : Int32))), .val (.ref w137), .val (.int (0 : Int32)), .val (.int (f1_0 w137 w13 w27 w37)), .val (.int (0 : Int32))] [])
                    refine own_step (fun _ => XS.iconst X69.here hx rfl (hb hby at_158)) ?_
                    show own_Ends p e below s _ _ _ T69 (mkF m 159 #[.val (.int i0), .val (.int (i0 &&& (7 : Int32))), .val (.ref w137), .val (.int (0 : Int32)), .val (.int (f1_0 w137 w13 w27 w37)), .val (.int (0 : Int32))] [(.int (0 : Int32))])
                    exact own_retN X69 (t := .boolean) hx hret hlk (hb hby at_159) (by decide) (by decide) (by simp) ⟨congrArg (fun z => some (Value.int z)) hv_f_f_f_f_f_t_f_t_f.symm, N69, hh69⟩
                · have hv_f_f_f_f_f_t_f_f := hv_f_f_f_f_f_t_f.trans (if_neg hc144)
                  refine own_step (fun _ => XS.icmpYes X69.here hx rfl (pc0 := 144) (pc' := 158) rfl (hb hby at_144) rfl (feq hc144).2 (by decide) (by decide)) ?_
                  show own_Ends p e below s _ _ _ T69 (mkF m 158 #[.val (.int i0), .val (.int (i0 &&& (7 : Int32))), .val (.ref w137), .val (.int (0 : Int32)), .val (.int (f1_0 w137 w13 w27 w37)), .val (.int (0 : Int32))] [])
                  refine own_step (fun _ => XS.iconst X69.here hx rfl (hb hby at_158)) ?_
                  show own_Ends p e below s _ _ _ T69 (mkF m 159 #[.val (.int i0), .val (.int (i0 &&& (7 : Int32))), .val (.ref w137), .val (.int (0 : Int32)), .val (.int (f1_0 w137 w13 w27 w37)), .val (.int (0 : Int32))] [(.int (0 : Int32))])
                  exact own_retN X69 (t := .boolean) hx hret hlk (hb hby at_159) (by decide) (by decide) (by simp) ⟨congrArg (fun z => some (Value.int z)) hv_f_f_f_f_f_t_f_f.symm, N69, hh69⟩
            · have hv_f_f_f_f_f_f := hv_f_f_f_f_f.trans (if_neg hc76)
              refine own_step (fun _ => XS.icmpYes X0.here hx rfl (pc0 := 76) (pc' := 88) rfl (hb hby at_76) rfl (feq hc76).2 (by decide) (by decide)) ?_
              show own_Ends p e below s _ _ _ T0 (mkF m 88 #[.val (.int i0), .val (.int (i0 &&& (7 : Int32))), .unset, .unset, .unset, .unset] [])
              refine own_step (fun _ => XS.iloadN X0.here hx rfl (hb hby at_88) rfl) ?_
              show own_Ends p e below s _ _ _ T0 (mkF m 89 #[.val (.int i0), .val (.int (i0 &&& (7 : Int32))), .unset, .unset, .unset, .unset] [(.int (i0 &&& (7 : Int32)))])
              refine own_step (fun _ => XS.bipush X0.here hx rfl (hb hby at_89)) ?_
              show own_Ends p e below s _ _ _ T0 (mkF m 91 #[.val (.int i0), .val (.int (i0 &&& (7 : Int32))), .unset, .unset, .unset, .unset] [(.int (6 : Int32)), (.int (i0 &&& (7 : Int32)))])
              by_cases hc91 : (i0 &&& (7 : Int32)) = (6 : Int32)
              · have hv_f_f_f_f_f_f_t := hv_f_f_f_f_f_f.trans (if_pos hc91)
                refine own_step (fun _ => XS.icmpNo X0.here hx rfl (hb hby at_91) rfl (teq hc91).2) ?_
                show own_Ends p e below s _ _ _ T0 (mkF m 94 #[.val (.int i0), .val (.int (i0 &&& (7 : Int32))), .unset, .unset, .unset, .unset] [])
                obtain ⟨T71, X71, e71, st71⟩ := getS2 X0 hx hZ hown (host := "") (Or.inl (hw _ (List.mem_of_getElem? (i := 34) rfl))) Via.refl e0 S69 (g := (mkF m 94 #[.val (.int i0), .val (.int (i0 &&& (7 : Int32))), .unset, .unset, .unset, .unset] [])) rfl (hb hby at_94)
                refine own_step st71 ?_
                show own_Ends p e below s _ _ _ T71 (mkF m 97 #[.val (.int i0), .val (.int (i0 &&& (7 : Int32))), .unset, .unset, .unset, .unset] [(.ref w67)])
                refine own_step (fun _ => XS.astoreN X71.here hx rfl (hb hby at_97) rfl rfl (l' := #[.val (.int i0), .val (.int (i0 &&& (7 : Int32))), .val (.ref w67), .unset, .unset, .unset]) rfl) ?_
                show own_Ends p e below s _ _ _ T71 (mkF m 98 #[.val (.int i0), .val (.int (i0 &&& (7 : Int32))), .val (.ref w67), .unset, .unset, .unset] [])
                refine own_step (fun _ => XS.iconst X71.here hx rfl (hb hby at_98)) ?_
                show own_Ends p e below s _ _ _ T71 (mkF m 99 #[.val (.int i0), .val (.int (i0 &&& (7 : Int32))), .val (.ref w67), .unset, .unset, .unset] [(.int (0 : Int32))])
                refine own_step (fun _ => XS.istoreN X71.here hx rfl (hb hby at_99) rfl (l' := #[.val (.int i0), .val (.int (i0 &&& (7 : Int32))), .val (.ref w67), .val (.int (0 : Int32)), .unset, .unset]) rfl) ?_
                show own_Ends p e below s _ _ _ T71 (mkF m 100 #[.val (.int i0), .val (.int (i0 &&& (7 : Int32))), .val (.ref w67), .val (.int (0 : Int32)), .unset, .unset] [])
                refine own_step (fun _ => XS.goto X71.here hx rfl (pc0 := 100) (pc' := 109) rfl (hb hby at_100) (by decide) (by decide)) ?_
                show own_Ends p e below s _ _ _ T71 (mkF m 109 #[.val (.int i0), .val (.int (i0 &&& (7 : Int32))), .val (.ref w67), .val (.int (0 : Int32)), .unset, .unset] [])
                refine own_step (fun _ => XS.aloadN X71.here hx rfl (hb hby at_109) rfl rfl) ?_
                show own_Ends p e below s _ _ _ T71 (mkF m 110 #[.val (.int i0), .val (.int (i0 &&& (7 : Int32))), .val (.ref w67), .val (.int (0 : Int32)), .unset, .unset] [(.ref w67)])
                obtain ⟨cq72, kq72, q72a, q72b, q72c⟩ := isOf hZ e71 E70
                obtain ⟨_, _, ⟨T72, L72, k72, n72⟩, -, X72, ⟨Lc72, hQ72, l72, y72, z72⟩, st72⟩ := X71.virtualBack hx (y := (⟨"lomwright/lom/Datatype", "holdsText", "()Z"⟩ : MethodName)) (z := (⟨"lomwright/lom/Datatype", "holdsText", "()Z"⟩ : MethodName)) hown (mvT hZ (hw _ (List.mem_of_getElem? (i := 3) rfl))) (mvT hZ (hw _ (List.mem_of_getElem? (i := 4) rfl))) (notFace_of_selects (args := #[]) (mvT hZ (hw _ (List.mem_of_getElem? (i := 6) rfl)))) (mvT hZ (hw _ (List.mem_of_getElem? (i := 6) rfl))) (mvT hZ (hw _ (List.mem_of_getElem? (i := 5) rfl))) (by decide) (backOf (W := 0) (rm1 l Z a0 hw [] w67 w13 w27 w37 h0 n0 Z0 S15 S29 S39) hZ (hw _ (List.mem_of_getElem? (i := 7) rfl)) (hw _ (List.mem_of_getElem? (i := 1) rfl)) (by decide) (by decide)) q72a q72c (g := (mkF m 110 #[.val (.int i0), .val (.int (i0 &&& (7 : Int32))), .val (.ref w67), .val (.int (0 : Int32)), .unset, .unset] [(.ref w67)])) rfl (by rw [hml]; rfl) (Steps.refl _) (argsL := []) (rest := []) (lenOf pd_0 rfl) rfl (by show 2 * 0 + _ ≤ _; exact Nat.le_of_eq rfl) (hb hby at_110) (fun _ _ => ⟨rfl, e71, (by decide : 0 + 0 ≤ _), (by decide : 0 + 0 ≤ _)⟩)
                dsimp only [Pt.U, Pt.locs, Pt.cells, Pt.slots] at X72 l72 y72 z72 st72 hQ72
                subst l72 y72 z72
                obtain ⟨rfl, N72q, hh72⟩ := hQ72
                have N72 := Fr.app N0 N72q
                refine own_step (fun _ => st72.trans) ?_
                show own_Ends p e below s _ _ _ T72 (mkF m 113 #[.val (.int i0), .val (.int (i0 &&& (7 : Int32))), .val (.ref w67), .val (.int (0 : Int32)), .unset, .unset] [(.int (f1_0 w67 w13 w27 w37))])
                refine own_step (fun _ => XS.istore X72.here hx rfl (hb hby at_113) rfl (l' := #[.val (.int i0), .val (.int (i0 &&& (7 : Int32))), .val (.ref w67), .val (.int (0 : Int32)), .val (.int (f1_0 w67 w13 w27 w37)), .unset]) rfl) ?_
                show own_Ends p e below s _ _ _ T72 (mkF m 115 #[.val (.int i0), .val (.int (i0 &&& (7 : Int32))), .val (.ref w67), .val (.int (0 : Int32)), .val (.int (f1_0 w67 w13 w27 w37)), .unset] [])
                refine own_step (fun _ => XS.aloadN X72.here hx rfl (hb hby at_115) rfl rfl) ?_
                show own_Ends p e below s _ _ _ T72 (mkF m 116 #[.val (.int i0), .val (.int (i0 &&& (7 : Int32))), .val (.ref w67), .val (.int (0 : Int32)), .val (.int (f1_0 w67 w13 w27 w37)), .unset] [(.ref w67)])
                obtain ⟨cq73, kq73, q73a, q73b, q73c⟩ := isOf hZ hh72 E70
                obtain ⟨_, _, ⟨T73, L73, k73, n73⟩, -, X73, ⟨Lc73, hQ73, l73, y73, z73⟩, st73⟩ := X72.virtualBack hx (y := (⟨"lomwright/lom/Datatype", "components", "()Ljava/util/List;"⟩ : MethodName)) (z := (⟨"lomwright/lom/Datatype", "components", "()Ljava/util/List;"⟩ : MethodName)) hown (mvT hZ (hw _ (List.mem_of_getElem? (i := 14) rfl))) (mvT hZ (hw _ (List.mem_of_getElem? (i := 15) rfl))) (notFace_of_selects (args := #[]) (mvT hZ (hw _ (List.mem_of_getElem? (i := 17) rfl)))) (mvT hZ (hw _ (List.mem_of_getElem? (i := 17) rfl))) (mvT hZ (hw _ (List.mem_of_getElem? (i := 16) rfl))) (by decide) (backOf (W := 0) (rm2 l Z a0 hw [] w67 w77 h0 n0 Z0 F79) hZ (hw _ (List.mem_of_getElem? (i := 18) rfl)) (hw _ (List.mem_of_getElem? (i := 1) rfl)) (by decide) (by decide)) q73a q73c (g := (mkF m 116 #[.val (.int i0), .val (.int (i0 &&& (7 : Int32))), .val (.ref w67), .val (.int (0 : Int32)), .val (.int (f1_0 w67 w13 w27 w37)), .unset] [(.ref w67)])) rfl (by rw [hml]; rfl) (Steps.refl _) (argsL := []) (rest := []) (lenOf pd_1 rfl) rfl (by show 2 * 0 + _ ≤ _; exact Nat.le_of_eq rfl) (hb hby at_116) (fun _ _ => ⟨rfl, hh72, (by decide : 0 + 0 ≤ _), (by decide : 0 + 0 ≤ _)⟩)
                dsimp only [Pt.U, Pt.locs, Pt.cells, Pt.slots] at X73 l73 y73 z73 st73 hQ73
                subst l73 y73 z73
                obtain ⟨rfl, N73q, hh73⟩ := hQ73
                have N73 := Fr.app N72 N73q
                refine own_step (fun _ => st73.trans) ?_
                show own_Ends p e below s _ _ _ T73 (mkF m 119 #[.val (.int i0), .val (.int (i0 &&& (7 : Int32))), .val (.ref w67), .val (.int (0 : Int32)), .val (.int (f1_0 w67 w13 w27 w37)), .unset] [(.ref w77)])
                obtain ⟨cq74, kq74, q74a, q74b, q74c⟩ := isOf hZ hh73 E80
                obtain ⟨_, _, ⟨T74, L74, k74, n74⟩, -, X74, ⟨Lc74, hQ74, l74, y74, z74⟩, st74⟩ := X73.interfaceBack hx (xi := (⟨"java/util/List", "size", "()I"⟩ : MethodName)) (y := (⟨"java/util/ImmutableCollections$List12", "size", "()I"⟩ : MethodName)) hown (mvT hZ (hw _ (List.mem_of_getElem? (i := 21) rfl))) (mvT hZ (hw _ (List.mem_of_getElem? (i := 22) rfl))) (mvT hZ (hw _ (List.mem_of_getElem? (i := 23) rfl))) (mvT hZ (hw _ (List.mem_of_getElem? (i := 36) rfl))) (mvT hZ (hw _ (List.mem_of_getElem? (i := 37) rfl))) (mvT hZ (hw _ (List.mem_of_getElem? (i := 38) rfl))) (mvT hZ (hw _ (List.mem_of_getElem? (i := 39) rfl))) (mvT hZ (hw _ (List.mem_of_getElem? (i := 40) rfl))) (by decide) (backOf (W := 0) (rm4 l Z a0 hw [] w77 w83 w1 h0 n0 Z0 F85 S3) hZ (hw _ (List.mem_of_getElem? (i := 42) rfl)) (hw _ (List.mem_of_getElem? (i := 41) rfl)) (by decide) (by decide)) q74a q74b q74c (g := (mkF m 119 #[.val (.int i0), .val (.int (i0 &&& (7 : Int32))), .val (.ref w67), .val (.int (0 : Int32)), .val (.int (f1_0 w67 w13 w27 w37)), .unset] [(.ref w77)])) rfl (by rw [hml]; rfl) (Steps.refl _) (argsL := []) (rest := []) (lenOf pd_2 rfl) rfl (by show 2 * 0 + _ ≤ _; exact Nat.le_of_eq rfl) (hb hby at_119) (fun _ _ => ⟨rfl, hh73, (by decide : 0 + 0 ≤ _), (by decide : 0 + 0 ≤ _)⟩)
                dsimp only [Pt.U, Pt.locs, Pt.cells, Pt.slots] at X74 l74 y74 z74 st74 hQ74
                subst l74 y74 z74
                obtain ⟨rfl, N74q, hh74⟩ := hQ74
                have N74 := Fr.app N73 N74q
                refine own_step (fun _ => st74.trans) ?_
                show own_Ends p e below s _ _ _ T74 (mkF m 124 #[.val (.int i0), .val (.int (i0 &&& (7 : Int32))), .val (.ref w67), .val (.int (0 : Int32)), .val (.int (f1_0 w67 w13 w27 w37)), .unset] [(.int (f4_0 w77 w83 w1))])
                by_cases hc124 : (f4_0 w77 w83 w1) = (0 : Int32)
                · have hv_f_f_f_f_f_f_t_t := hv_f_f_f_f_f_f_t.trans (if_pos hc124)
                  refine own_step (fun _ => XS.ifNo X74.here hx rfl (hb hby at_124) rfl ((if0 _ _).trans (teq hc124).2)) ?_
                  show own_Ends p e below s _ _ _ T74 (mkF m 127 #[.val (.int i0), .val (.int (i0 &&& (7 : Int32))), .val (.ref w67), .val (.int (0 : Int32)), .val (.int (f1_0 w67 w13 w27 w37)), .unset] [])
                  refine own_step (fun _ => XS.aloadN X74.here hx rfl (hb hby at_127) rfl rfl) ?_
                  show own_Ends p e below s _ _ _ T74 (mkF m 128 #[.val (.int i0), .val (.int (i0 &&& (7 : Int32))), .val (.ref w67), .val (.int (0 : Int32)), .val (.int (f1_0 w67 w13 w27 w37)), .unset] [(.ref w67)])
                  obtain ⟨T75, X75, e75, st75⟩ := getS2 X74 hx hZ hown (host := "") (Or.inl (hw _ (List.mem_of_getElem? (i := 0) rfl))) Via.refl hh74 S9 (g := (mkF m 128 #[.val (.int i0), .val (.int (i0 &&& (7 : Int32))), .val (.ref w67), .val (.int (0 : Int32)), .val (.int (f1_0 w67 w13 w27 w37)), .unset] [(.ref w67)])) rfl (hb hby at_128)
                  refine own_step st75 ?_
                  show own_Ends p e below s _ _ _ T75 (mkF m 131 #[.val (.int i0), .val (.int (i0 &&& (7 : Int32))), .val (.ref w67), .val (.int (0 : Int32)), .val (.int (f1_0 w67 w13 w27 w37)), .unset] [(.ref w7), (.ref w67)])
                  by_cases hc131 : w67 = w7
                  · have hv_f_f_f_f_f_f_t_t_t := hv_f_f_f_f_f_f_t_t.trans (if_pos hc131)
                    refine own_step (fun _ => Jvm.RoadKit.acmp (g := (mkF m 131 #[.val (.int i0), .val (.int (i0 &&& (7 : Int32))), .val (.ref w67), .val (.int (0 : Int32)), .val (.int (f1_0 w67 w13 w27 w37)), .unset] [(.ref w7), (.ref w67)])) X75 hx rfl rfl rfl (pc0 := 131) (pc' := 138) (same := true) rfl (hb hby at_131) rfl (decide_eq_true (congrArg Value.ref hc131)) (by decide) (by decide)) ?_
                    show own_Ends p e below s _ _ _ T75 (mkF m 138 #[.val (.int i0), .val (.int (i0 &&& (7 : Int32))), .val (.ref w67), .val (.int (0 : Int32)), .val (.int (f1_0 w67 w13 w27 w37)), .unset] [])
                    refine own_step (fun _ => XS.iconst X75.here hx rfl (hb hby at_138)) ?_
                    show own_Ends p e below s _ _ _ T75 (mkF m 139 #[.val (.int i0), .val (.int (i0 &&& (7 : Int32))), .val (.ref w67), .val (.int (0 : Int32)), .val (.int (f1_0 w67 w13 w27 w37)), .unset] [(.int (0 : Int32))])
                    refine own_step (fun _ => XS.istore X75.here hx rfl (hb hby at_139) rfl (l' := #[.val (.int i0), .val (.int (i0 &&& (7 : Int32))), .val (.ref w67), .val (.int (0 : Int32)), .val (.int (f1_0 w67 w13 w27 w37)), .val (.int (0 : Int32))]) rfl) ?_
                    show own_Ends p e below s _ _ _ T75 (mkF m 141 #[.val (.int i0), .val (.int (i0 &&& (7 : Int32))), .val (.ref w67), .val (.int (0 : Int32)), .val (.int (f1_0 w67 w13 w27 w37)), .val (.int (0 : Int32))] [])
                    refine own_step (fun _ => XS.iload X75.here hx rfl (hb hby at_141) rfl) ?_
                    show own_Ends p e below s _ _ _ T75 (mkF m 143 #[.val (.int i0), .val (.int (i0 &&& (7 : Int32))), .val (.ref w67), .val (.int (0 : Int32)), .val (.int (f1_0 w67 w13 w27 w37)), .val (.int (0 : Int32))] [(.int (f1_0 w67 w13 w27 w37))])
                    refine own_step (fun _ => XS.iloadN X75.here hx rfl (hb hby at_143) rfl) ?_
                    show own_Ends p e below s _ _ _ T75 (mkF m 144 #[.val (.int i0), .val (.int (i0 &&& (7 : Int32))), .val (.ref w67), .val (.int (0 : Int32)), .val (.int (f1_0 w67 w13 w27 w37)), .val (.int (0 : Int32))] [(.int (0 : Int32)), (.int (f1_0 w67 w13 w27 w37))])
                    by_cases hc144 : (f1_0 w67 w13 w27 w37) = (0 : Int32)
                    · have hv_f_f_f_f_f_f_t_t_t_t := hv_f_f_f_f_f_f_t_t_t.trans (if_pos hc144)
                      refine own_step (fun _ => XS.icmpNo X75.here hx rfl (hb hby at_144) rfl (teq hc144).2) ?_
                      show own_Ends p e below s _ _ _ T75 (mkF m 147 #[.val (.int i0), .val (.int (i0 &&& (7 : Int32))), .val (.ref w67), .val (.int (0 : Int32)), .val (.int (f1_0 w67 w13 w27 w37)), .val (.int (0 : Int32))] [])
                      refine own_step (fun _ => XS.iload X75.here hx rfl (hb hby at_147) rfl) ?_
                      show own_Ends p e below s _ _ _ T75 (mkF m 149 #[.val (.int i0), .val (.int (i0 &&& (7 : Int32))), .val (.ref w67), .val (.int (0 : Int32)), .val (.int (f1_0 w67 w13 w27 w37)), .val (.int (0 : Int32))] [(.int (f1_0 w67 w13 w27 w37))])
                      refine own_step (fun _ => XS.iload X75.here hx rfl (hb hby at_149) rfl) ?_
                      show own_Ends p e below s _ _ _ T75 (mkF m 151 #[.val (.int i0), .val (.int (i0 &&& (7 : Int32))), .val (.ref w67), .val (.int (0 : Int32)), .val (.int (f1_0 w67 w13 w27 w37)), .val (.int (0 : Int32))] [(.int (0 : Int32)), (.int (f1_0 w67 w13 w27 w37))])
                      by_cases hc151 : (f1_0 w67 w13 w27 w37) = (0 : Int32)
                      · have hv_f_f_f_f_f_f_t_t_t_t_t := hv_f_f_f_f_f_f_t_t_t_t.trans (if_pos hc151)
                        refine own_step (fun _ => XS.icmpNo X75.here hx rfl (hb hby at_151) rfl (teq hc151).2) ?_
                        show own_Ends p e below s _ _ _ T75 (mkF m 154 #[.val (.int i0), .val (.int (i0 &&& (7 : Int32))), .val (.ref w67), .val (.int (0 : Int32)), .val (.int (f1_0 w67 w13 w27 w37)), .val (.int (0 : Int32))] [])
                        refine own_step (fun _ => XS.iconst X75.here hx rfl (hb hby at_154)) ?_
                        show own_Ends p e below s _ _ _ T75 (mkF m 155 #[.val (.int i0), .val (.int (i0 &&& (7 : Int32))), .val (.ref w67), .val (.int (0 : Int32)), .val (.int (f1_0 w67 w13 w27 w37)), .val (.int (0 : Int32))] [(.int (1 : Int32))])
                        refine own_step (fun _ => XS.goto X75.here hx rfl (pc0 := 155) (pc' := 159) rfl (hb hby at_155) (by decide) (by decide)) ?_
                        show own_Ends p e below s _ _ _ T75 (mkF m 159 #[.val (.int i0), .val (.int (i0 &&& (7 : Int32))), .val (.ref w67), .val (.int (0 : Int32)), .val (.int (f1_0 w67 w13 w27 w37)), .val (.int (0 : Int32))] [(.int (1 : Int32))])
                        exact own_retN X75 (t := .boolean) hx hret hlk (hb hby at_159) (by decide) (by decide) (by simp) ⟨congrArg (fun z => some (Value.int z)) hv_f_f_f_f_f_f_t_t_t_t_t.symm, N74, e75⟩
                      · have hv_f_f_f_f_f_f_t_t_t_t_f := hv_f_f_f_f_f_f_t_t_t_t.trans (if_neg hc151)
                        refine own_step (fun _ => XS.icmpYes X75.here hx rfl (pc0 := 151) (pc' := 158) rfl (hb hby at_151) rfl (feq hc151).2 (by decide) (by decide)) ?_
                        show own_Ends p e below s _ _ _ T75 (mkF m 158 #[.val (.int i0), .val (.int (i0 &&& (7 : Int32))), .val (.ref w67), .val (.int (0 : Int32)), .val (.int (f1_0 w67 w13 w27 w37)), .val (.int (0 : Int32))] [])
                        refine own_step (fun _ => XS.iconst X75.here hx rfl (hb hby at_158)) ?_
                        show own_Ends p e below s _ _ _ T75 (mkF m 159 #[.val (.int i0), .val (.int (i0 &&& (7 : Int32))), .val (.ref w67), .val (.int (0 : Int32)), .val (.int (f1_0 w67 w13 w27 w37)), .val (.int (0 : Int32))] [(.int (0 : Int32))])
                        exact own_retN X75 (t := .boolean) hx hret hlk (hb hby at_159) (by decide) (by decide) (by simp) ⟨congrArg (fun z => some (Value.int z)) hv_f_f_f_f_f_f_t_t_t_t_f.symm, N74, e75⟩
                    · have hv_f_f_f_f_f_f_t_t_t_f := hv_f_f_f_f_f_f_t_t_t.trans (if_neg hc144)
                      refine own_step (fun _ => XS.icmpYes X75.here hx rfl (pc0 := 144) (pc' := 158) rfl (hb hby at_144) rfl (feq hc144).2 (by decide) (by decide)) ?_
                      show own_Ends p e below s _ _ _ T75 (mkF m 158 #[.val (.int i0), .val (.int (i0 &&& (7 : Int32))), .val (.ref w67), .val (.int (0 : Int32)), .val (.int (f1_0 w67 w13 w27 w37)), .val (.int (0 : Int32))] [])
                      refine own_step (fun _ => XS.iconst X75.here hx rfl (hb hby at_158)) ?_
                      show own_Ends p e below s _ _ _ T75 (mkF m 159 #[.val (.int i0), .val (.int (i0 &&& (7 : Int32))), .val (.ref w67), .val (.int (0 : Int32)), .val (.int (f1_0 w67 w13 w27 w37)), .val (.int (0 : Int32))] [(.int (0 : Int32))])
                      exact own_retN X75 (t := .boolean) hx hret hlk (hb hby at_159) (by decide) (by decide) (by simp) ⟨congrArg (fun z => some (Value.int z)) hv_f_f_f_f_f_f_t_t_t_f.symm, N74, e75⟩
                  · have hv_f_f_f_f_f_f_t_t_f := hv_f_f_f_f_f_f_t_t.trans (if_neg hc131)
                    refine own_step (fun _ => Jvm.RoadKit.acmp (g := (mkF m 131 #[.val (.int i0), .val (.int (i0 &&& (7 : Int32))), .val (.ref w67), .val (.int (0 : Int32)), .val (.int (f1_0 w67 w13 w27 w37)), .unset] [(.ref w7), (.ref w67)])) X75 hx rfl rfl rfl (pc0 := 131) (pc' := 134) (same := false) rfl (hb hby at_131) rfl (decide_eq_false fun q => hc131 (Value.ref.inj q)) (by decide) (by decide)) ?_
                    show own_Ends p e below s _ _ _ T75 (mkF m 134 #[.val (.int i0), .val (.int (i0 &&& (7 : Int32))), .val (.ref w67), .val (.int (0 : Int32)), .val (.int (f1_0 w67 w13 w27 w37)), .unset] [])
                    refine own_step (fun _ => XS.iconst X75.here hx rfl (hb hby at_134)) ?_
                    show own_Ends p e below s _ _ _ T75 (mkF m 135 #[.val (.int i0), .val (.int (i0 &&& (7 : Int32))), .val (.ref w67), .val (.int (0 : Int32)), .val (.int (f1_0 w67 w13 w27 w37)), .unset] [(.int (1 : Int32))])
                    refine own_step (fun _ => XS.goto X75.here hx rfl (pc0 := 135) (pc' := 139) rfl (hb hby at_135) (by decide) (by decide)) ?_
                    show own_Ends p e below s _ _ _ T75 (mkF m 139 #[.val (.int i0), .val (.int (i0 &&& (7 : Int32))), .val (.ref w67), .val (.int (0 : Int32)), .val (.int (f1_0 w67 w13 w27 w37)), .unset] [(.int (1 : Int32))])
                    refine own_step (fun _ => XS.istore X75.here hx rfl (hb hby at_139) rfl (l' := #[.val (.int i0), .val (.int (i0 &&& (7 : Int32))), .val (.ref w67), .val (.int (0 : Int32)), .val (.int (f1_0 w67 w13 w27 w37)), .val (.int (1 : Int32))]) rfl) ?_
                    show own_Ends p e below s _ _ _ T75 (mkF m 141 #[.val (.int i0), .val (.int (i0 &&& (7 : Int32))), .val (.ref w67), .val (.int (0 : Int32)), .val (.int (f1_0 w67 w13 w27 w37)), .val (.int (1 : Int32))] [])
                    refine own_step (fun _ => XS.iload X75.here hx rfl (hb hby at_141) rfl) ?_
                    show own_Ends p e below s _ _ _ T75 (mkF m 143 #[.val (.int i0), .val (.int (i0 &&& (7 : Int32))), .val (.ref w67), .val (.int (0 : Int32)), .val (.int (f1_0 w67 w13 w27 w37)), .val (.int (1 : Int32))] [(.int (f1_0 w67 w13 w27 w37))])
                    refine own_step (fun _ => XS.iloadN X75.here hx rfl (hb hby at_143) rfl) ?_
                    show own_Ends p e below s _ _ _ T75 (mkF m 144 #[.val (.int i0), .val (.int (i0 &&& (7 : Int32))), .val (.ref w67), .val (.int (0 : Int32)), .val (.int (f1_0 w67 w13 w27 w37)), .val (.int (1 : Int32))] [(.int (0 : Int32)), (.int (f1_0 w67 w13 w27 w37))])
                    by_cases hc144 : (f1_0 w67 w13 w27 w37) = (0 : Int32)
                    · have hv_f_f_f_f_f_f_t_t_f_t := hv_f_f_f_f_f_f_t_t_f.trans (if_pos hc144)
                      refine own_step (fun _ => XS.icmpNo X75.here hx rfl (hb hby at_144) rfl (teq hc144).2) ?_
                      show own_Ends p e below s _ _ _ T75 (mkF m 147 #[.val (.int i0), .val (.int (i0 &&& (7 : Int32))), .val (.ref w67), .val (.int (0 : Int32)), .val (.int (f1_0 w67 w13 w27 w37)), .val (.int (1 : Int32))] [])
                      refine own_step (fun _ => XS.iload X75.here hx rfl (hb hby at_147) rfl) ?_
                      show own_Ends p e below s _ _ _ T75 (mkF m 149 #[.val (.int i0), .val (.int (i0 &&& (7 : Int32))), .val (.ref w67), .val (.int (0 : Int32)), .val (.int (f1_0 w67 w13 w27 w37)), .val (.int (1 : Int32))] [(.int (f1_0 w67 w13 w27 w37))])
                      refine own_step (fun _ => XS.iload X75.here hx rfl (hb hby at_149) rfl) ?_
                      show own_Ends p e below s _ _ _ T75 (mkF m 151 #[.val (.int i0), .val (.int (i0 &&& (7 : Int32))), .val (.ref w67), .val (.int (0 : Int32)), .val (.int (f1_0 w67 w13 w27 w37)), .val (.int (1 : Int32))] [(.int (1 : Int32)), (.int (f1_0 w67 w13 w27 w37))])
                      by_cases hc151 : (f1_0 w67 w13 w27 w37) = (1 : Int32)
                      · have hv_f_f_f_f_f_f_t_t_f_t_t := hv_f_f_f_f_f_f_t_t_f_t.trans (if_pos hc151)
                        refine own_step (fun _ => XS.icmpNo X75.here hx rfl (hb hby at_151) rfl (teq hc151).2) ?_
                        show own_Ends p e below s _ _ _ T75 (mkF m 154 #[.val (.int i0), .val (.int (i0 &&& (7 : Int32))), .val (.ref w67), .val (.int (0 : Int32)), .val (.int (f1_0 w67 w13 w27 w37)), .val (.int (1 : Int32))] [])
                        refine own_step (fun _ => XS.iconst X75.here hx rfl (hb hby at_154)) ?_
                        show own_Ends p e below s _ _ _ T75 (mkF m 155 #[.val (.int i0), .val (.int (i0 &&& (7 : Int32))), .val (.ref w67), .val (.int (0 : Int32)), .val (.int (f1_0 w67 w13 w27 w37)), .val (.int (1 : Int32))] [(.int (1 : Int32))])
                        refine own_step (fun _ => XS.goto X75.here hx rfl (pc0 := 155) (pc' := 159) rfl (hb hby at_155) (by decide) (by decide)) ?_
                        show own_Ends p e below s _ _ _ T75 (mkF m 159 #[.val (.int i0), .val (.int (i0 &&& (7 : Int32))), .val (.ref w67), .val (.int (0 : Int32)), .val (.int (f1_0 w67 w13 w27 w37)), .val (.int (1 : Int32))] [(.int (1 : Int32))])
                        exact own_retN X75 (t := .boolean) hx hret hlk (hb hby at_159) (by decide) (by decide) (by simp) ⟨congrArg (fun z => some (Value.int z)) hv_f_f_f_f_f_f_t_t_f_t_t.symm, N74, e75⟩
                      · have hv_f_f_f_f_f_f_t_t_f_t_f := hv_f_f_f_f_f_f_t_t_f_t.trans (if_neg hc151)
                        refine own_step (fun _ => XS.icmpYes X75.here hx rfl (pc0 := 151) (pc' := 158) rfl (hb hby at_151) rfl (feq hc151).2 (by decide) (by decide)) ?_
                        show own_Ends p e below s _ _ _ T75 (mkF m 158 #[.val (.int i0), .val (.int (i0 &&& (7 : Int32))), .val (.ref w67), .val (.int (0 : Int32)), .val (.int (f1_0 w67 w13 w27 w37)), .val (.int (1 : Int32))] [])
                        refine own_step (fun _ => XS.iconst X75.here hx rfl (hb hby at_158)) ?_
                        show own_Ends p e below s _ _ _ T75 (mkF m 159 #[.val (.int i0), .val (.int (i0 &&& (7 : Int32))), .val (.ref w67), .val (.int (0 : Int32)), .val (.int (f1_0 w67 w13 w27 w37)), .val (.int (1 : Int32))] [(.int (0 : Int32))])
                        exact own_retN X75 (t := .boolean) hx hret hlk (hb hby at_159) (by decide) (by decide) (by simp) ⟨congrArg (fun z => some (Value.int z)) hv_f_f_f_f_f_f_t_t_f_t_f.symm, N74, e75⟩
                    · have hv_f_f_f_f_f_f_t_t_f_f := hv_f_f_f_f_f_f_t_t_f.trans (if_neg hc144)
                      refine own_step (fun _ => XS.icmpYes X75.here hx rfl (pc0 := 144) (pc' := 158) rfl (hb hby at_144) rfl (feq hc144).2 (by decide) (by decide)) ?_
                      show own_Ends p e below s _ _ _ T75 (mkF m 158 #[.val (.int i0), .val (.int (i0 &&& (7 : Int32))), .val (.ref w67), .val (.int (0 : Int32)), .val (.int (f1_0 w67 w13 w27 w37)), .val (.int (1 : Int32))] [])
                      refine own_step (fun _ => XS.iconst X75.here hx rfl (hb hby at_158)) ?_
                      show own_Ends p e below s _ _ _ T75 (mkF m 159 #[.val (.int i0), .val (.int (i0 &&& (7 : Int32))), .val (.ref w67), .val (.int (0 : Int32)), .val (.int (f1_0 w67 w13 w27 w37)), .val (.int (1 : Int32))] [(.int (0 : Int32))])
                      exact own_retN X75 (t := .boolean) hx hret hlk (hb hby at_159) (by decide) (by decide) (by simp) ⟨congrArg (fun z => some (Value.int z)) hv_f_f_f_f_f_f_t_t_f_f.symm, N74, e75⟩
                · have hv_f_f_f_f_f_f_t_f := hv_f_f_f_f_f_f_t.trans (if_neg hc124)
                  refine own_step (fun _ => XS.ifYes X74.here hx rfl (pc0 := 124) (pc' := 138) rfl (hb hby at_124) rfl ((if0 _ _).trans (feq hc124).2) (by decide) (by decide)) ?_
                  show own_Ends p e below s _ _ _ T74 (mkF m 138 #[.val (.int i0), .val (.int (i0 &&& (7 : Int32))), .val (.ref w67), .val (.int (0 : Int32)), .val (.int (f1_0 w67 w13 w27 w37)), .unset] [])
                  refine own_step (fun _ => XS.iconst X74.here hx rfl (hb hby at_138)) ?_
                  show own_Ends p e below s _ _ _ T74 (mkF m 139 #[.val (.int i0), .val (.int (i0 &&& (7 : Int32))), .val (.ref w67), .val (.int (0 : Int32)), .val (.int (f1_0 w67 w13 w27 w37)), .unset] [(.int (0 : Int32))])
                  refine own_step (fun _ => XS.istore X74.here hx rfl (hb hby at_139) rfl (l' := #[.val (.int i0), .val (.int (i0 &&& (7 : Int32))), .val (.ref w67), .val (.int (0 : Int32)), .val (.int (f1_0 w67 w13 w27 w37)), .val (.int (0 : Int32))]) rfl) ?_
                  show own_Ends p e below s _ _ _ T74 (mkF m 141 #[.val (.int i0), .val (.int (i0 &&& (7 : Int32))), .val (.ref w67), .val (.int (0 : Int32)), .val (.int (f1_0 w67 w13 w27 w37)), .val (.int (0 : Int32))] [])
                  refine own_step (fun _ => XS.iload X74.here hx rfl (hb hby at_141) rfl) ?_
                  show own_Ends p e below s _ _ _ T74 (mkF m 143 #[.val (.int i0), .val (.int (i0 &&& (7 : Int32))), .val (.ref w67), .val (.int (0 : Int32)), .val (.int (f1_0 w67 w13 w27 w37)), .val (.int (0 : Int32))] [(.int (f1_0 w67 w13 w27 w37))])
                  refine own_step (fun _ => XS.iloadN X74.here hx rfl (hb hby at_143) rfl) ?_
                  show own_Ends p e below s _ _ _ T74 (mkF m 144 #[.val (.int i0), .val (.int (i0 &&& (7 : Int32))), .val (.ref w67), .val (.int (0 : Int32)), .val (.int (f1_0 w67 w13 w27 w37)), .val (.int (0 : Int32))] [(.int (0 : Int32)), (.int (f1_0 w67 w13 w27 w37))])
                  by_cases hc144 : (f1_0 w67 w13 w27 w37) = (0 : Int32)
                  · have hv_f_f_f_f_f_f_t_f_t := hv_f_f_f_f_f_f_t_f.trans (if_pos hc144)
                    refine own_step (fun _ => XS.icmpNo X74.here hx rfl (hb hby at_144) rfl (teq hc144).2) ?_
                    show own_Ends p e below s _ _ _ T74 (mkF m 147 #[.val (.int i0), .val (.int (i0 &&& (7 : Int32))), .val (.ref w67), .val (.int (0 : Int32)), .val (.int (f1_0 w67 w13 w27 w37)), .val (.int (0 : Int32))] [])
                    refine own_step (fun _ => XS.iload X74.here hx rfl (hb hby at_147) rfl) ?_
                    show own_Ends p e below s _ _ _ T74 (mkF m 149 #[.val (.int i0), .val (.int (i0 &&& (7 : Int32))), .val (.ref w67), .val (.int (0 : Int32)), .val (.int (f1_0 w67 w13 w27 w37)), .val (.int (0 : Int32))] [(.int (f1_0 w67 w13 w27 w37))])
                    refine own_step (fun _ => XS.iload X74.here hx rfl (hb hby at_149) rfl) ?_
                    show own_Ends p e below s _ _ _ T74 (mkF m 151 #[.val (.int i0), .val (.int (i0 &&& (7 : Int32))), .val (.ref w67), .val (.int (0 : Int32)), .val (.int (f1_0 w67 w13 w27 w37)), .val (.int (0 : Int32))] [(.int (0 : Int32)), (.int (f1_0 w67 w13 w27 w37))])
                    by_cases hc151 : (f1_0 w67 w13 w27 w37) = (0 : Int32)
                    · have hv_f_f_f_f_f_f_t_f_t_t := hv_f_f_f_f_f_f_t_f_t.trans (if_pos hc151)
                      refine own_step (fun _ => XS.icmpNo X74.here hx rfl (hb hby at_151) rfl (teq hc151).2) ?_
                      show own_Ends p e below s _ _ _ T74 (mkF m 154 #[.val (.int i0), .val (.int (i0 &&& (7 : Int32))), .val (.ref w67), .val (.int (0 : Int32)), .val (.int (f1_0 w67 w13 w27 w37)), .val (.int (0 : Int32))] [])
                      refine own_step (fun _ => XS.iconst X74.here hx rfl (hb hby at_154)) ?_
                      show own_Ends p e below s _ _ _ T74 (mkF m 155 #[.val (.int i0), .val (.int (i0 &&& (7 : Int32))), .val (.ref w67), .val (.int (0 : Int32)), .val (.int (f1_0 w67 w13 w27 w37)), .val (.int (0 : Int32))] [(.int (1 : Int32))])
                      refine own_step (fun _ => XS.goto X74.here hx rfl (pc0 := 155) (pc' := 159) rfl (hb hby at_155) (by decide) (by decide)) ?_
                      show own_Ends p e below s _ _ _ T74 (mkF m 159 #[.val (.int i0), .val (.int (i0 &&& (7 : Int32))), .val (.ref w67), .val (.int (0 : Int32)), .val (.int (f1_0 w67 w13 w27 w37)), .val (.int (0 : Int32))] [(.int (1 : Int32))])
                      exact own_retN X74 (t := .boolean) hx hret hlk (hb hby at_159) (by decide) (by decide) (by simp) ⟨congrArg (fun z => some (Value.int z)) hv_f_f_f_f_f_f_t_f_t_t.symm, N74, hh74⟩
                    · have hv_f_f_f_f_f_f_t_f_t_f := hv_f_f_f_f_f_f_t_f_t.trans (if_neg hc151)
                      refine own_step (fun _ => XS.icmpYes X74.here hx rfl (pc0 := 151) (pc' := 158) rfl (hb hby at_151) rfl (feq hc151).2 (by decide) (by decide)) ?_
                      show own_Ends p e below s _ _ _ T74 (mkF m 158 #[.val (.int i0), .val (.int (i0 &&& (7 : Int32))), .val (.ref w67), .val (.int (0 : Int32)), .val (.int (f1_0 w67 w13 w27 w37)), .val (.int (0 : Int32))] [])
                      refine own_step (fun _ => XS.iconst X74.here hx rfl (hb hby at_158)) ?_
                      show own_Ends p e below s _ _ _ T74 (mkF m 159 #[.val (.int i0), .val (.int (i0 &&& (7 : Int32))), .val (.ref w67), .val (.int (0 : Int32)), .val (.int (f1_0 w67 w13 w27 w37)), .val (.int (0 : Int32))] [(.int (0 : Int32))])
                      exact own_retN X74 (t := .boolean) hx hret hlk (hb hby at_159) (by decide) (by decide) (by simp) ⟨congrArg (fun z => some (Value.int z)) hv_f_f_f_f_f_f_t_f_t_f.symm, N74, hh74⟩
                  · have hv_f_f_f_f_f_f_t_f_f := hv_f_f_f_f_f_f_t_f.trans (if_neg hc144)
                    refine own_step (fun _ => XS.icmpYes X74.here hx rfl (pc0 := 144) (pc' := 158) rfl (hb hby at_144) rfl (feq hc144).2 (by decide) (by decide)) ?_
                    show own_Ends p e below s _ _ _ T74 (mkF m 158 #[.val (.int i0), .val (.int (i0 &&& (7 : Int32))), .val (.ref w67), .val (.int (0 : Int32)), .val (.int (f1_0 w67 w13 w27 w37)), .val (.int (0 : Int32))] [])
                    refine own_step (fun _ => XS.iconst X74.here hx rfl (hb hby at_158)) ?_
                    show own_Ends p e below s _ _ _ T74 (mkF m 159 #[.val (.int i0), .val (.int (i0 &&& (7 : Int32))), .val (.ref w67), .val (.int (0 : Int32)), .val (.int (f1_0 w67 w13 w27 w37)), .val (.int (0 : Int32))] [(.int (0 : Int32))])
                    exact own_retN X74 (t := .boolean) hx hret hlk (hb hby at_159) (by decide) (by decide) (by simp) ⟨congrArg (fun z => some (Value.int z)) hv_f_f_f_f_f_f_t_f_f.symm, N74, hh74⟩
              · have hv_f_f_f_f_f_f_f := hv_f_f_f_f_f_f.trans (if_neg hc91)
                refine own_step (fun _ => XS.icmpYes X0.here hx rfl (pc0 := 91) (pc' := 103) rfl (hb hby at_91) rfl (feq hc91).2 (by decide) (by decide)) ?_
                show own_Ends p e below s _ _ _ T0 (mkF m 103 #[.val (.int i0), .val (.int (i0 &&& (7 : Int32))), .unset, .unset, .unset, .unset] [])
                obtain ⟨T76, X76, e76, st76⟩ := getS2 X0 hx hZ hown (host := "") (Or.inl (hw _ (List.mem_of_getElem? (i := 47) rfl))) Via.refl e0 S91 (g := (mkF m 103 #[.val (.int i0), .val (.int (i0 &&& (7 : Int32))), .unset, .unset, .unset, .unset] [])) rfl (hb hby at_103)
                refine own_step st76 ?_
                show own_Ends p e below s _ _ _ T76 (mkF m 106 #[.val (.int i0), .val (.int (i0 &&& (7 : Int32))), .unset, .unset, .unset, .unset] [(.ref w89)])
                refine own_step (fun _ => XS.astoreN X76.here hx rfl (hb hby at_106) rfl rfl (l' := #[.val (.int i0), .val (.int (i0 &&& (7 : Int32))), .val (.ref w89), .unset, .unset, .unset]) rfl) ?_
                show own_Ends p e below s _ _ _ T76 (mkF m 107 #[.val (.int i0), .val (.int (i0 &&& (7 : Int32))), .val (.ref w89), .unset, .unset, .unset] [])
                refine own_step (fun _ => XS.iconst X76.here hx rfl (hb hby at_107)) ?_
                show own_Ends p e below s _ _ _ T76 (mkF m 108 #[.val (.int i0), .val (.int (i0 &&& (7 : Int32))), .val (.ref w89), .unset, .unset, .unset] [(.int (0 : Int32))])
                refine own_step (fun _ => XS.istoreN X76.here hx rfl (hb hby at_108) rfl (l' := #[.val (.int i0), .val (.int (i0 &&& (7 : Int32))), .val (.ref w89), .val (.int (0 : Int32)), .unset, .unset]) rfl) ?_
                show own_Ends p e below s _ _ _ T76 (mkF m 109 #[.val (.int i0), .val (.int (i0 &&& (7 : Int32))), .val (.ref w89), .val (.int (0 : Int32)), .unset, .unset] [])
                refine own_step (fun _ => XS.aloadN X76.here hx rfl (hb hby at_109) rfl rfl) ?_
                show own_Ends p e below s _ _ _ T76 (mkF m 110 #[.val (.int i0), .val (.int (i0 &&& (7 : Int32))), .val (.ref w89), .val (.int (0 : Int32)), .unset, .unset] [(.ref w89)])
                obtain ⟨cq77, kq77, q77a, q77b, q77c⟩ := isOf hZ e76 E92
                obtain ⟨_, _, ⟨T77, L77, k77, n77⟩, -, X77, ⟨Lc77, hQ77, l77, y77, z77⟩, st77⟩ := X76.virtualBack hx (y := (⟨"lomwright/lom/Datatype", "holdsText", "()Z"⟩ : MethodName)) (z := (⟨"lomwright/lom/Datatype", "holdsText", "()Z"⟩ : MethodName)) hown (mvT hZ (hw _ (List.mem_of_getElem? (i := 3) rfl))) (mvT hZ (hw _ (List.mem_of_getElem? (i := 4) rfl))) (notFace_of_selects (args := #[]) (mvT hZ (hw _ (List.mem_of_getElem? (i := 6) rfl)))) (mvT hZ (hw _ (List.mem_of_getElem? (i := 6) rfl))) (mvT hZ (hw _ (List.mem_of_getElem? (i := 5) rfl))) (by decide) (backOf (W := 0) (rm1 l Z a0 hw [] w89 w13 w27 w37 h0 n0 Z0 S15 S29 S39) hZ (hw _ (List.mem_of_getElem? (i := 7) rfl)) (hw _ (List.mem_of_getElem? (i := 1) rfl)) (by decide) (by decide)) q77a q77c (g := (mkF m 110 #[.val (.int i0), .val (.int (i0 &&& (7 : Int32))), .val (.ref w89), .val (.int (0 : Int32)), .unset, .unset] [(.ref w89)])) rfl (by rw [hml]; rfl) (Steps.refl _) (argsL := []) (rest := []) (lenOf pd_0 rfl) rfl (by show 2 * 0 + _ ≤ _; exact Nat.le_of_eq rfl) (hb hby at_110) (fun _ _ => ⟨rfl, e76, (by decide : 0 + 0 ≤ _), (by decide : 0 + 0 ≤ _)⟩)
                dsimp only [Pt.U, Pt.locs, Pt.cells, Pt.slots] at X77 l77 y77 z77 st77 hQ77
                subst l77 y77 z77
                obtain ⟨rfl, N77q, hh77⟩ := hQ77
                have N77 := Fr.app N0 N77q
                refine own_step (fun _ => st77.trans) ?_
                show own_Ends p e below s _ _ _ T77 (mkF m 113 #[.val (.int i0), .val (.int (i0 &&& (7 : Int32))), .val (.ref w89), .val (.int (0 : Int32)), .unset, .unset] [(.int (f1_0 w89 w13 w27 w37))])
                refine own_step (fun _ => XS.istore X77.here hx rfl (hb hby at_113) rfl (l' := #[.val (.int i0), .val (.int (i0 &&& (7 : Int32))), .val (.ref w89), .val (.int (0 : Int32)), .val (.int (f1_0 w89 w13 w27 w37)), .unset]) rfl) ?_
                show own_Ends p e below s _ _ _ T77 (mkF m 115 #[.val (.int i0), .val (.int (i0 &&& (7 : Int32))), .val (.ref w89), .val (.int (0 : Int32)), .val (.int (f1_0 w89 w13 w27 w37)), .unset] [])
                refine own_step (fun _ => XS.aloadN X77.here hx rfl (hb hby at_115) rfl rfl) ?_
                show own_Ends p e below s _ _ _ T77 (mkF m 116 #[.val (.int i0), .val (.int (i0 &&& (7 : Int32))), .val (.ref w89), .val (.int (0 : Int32)), .val (.int (f1_0 w89 w13 w27 w37)), .unset] [(.ref w89)])
                obtain ⟨cq78, kq78, q78a, q78b, q78c⟩ := isOf hZ hh77 E92
                obtain ⟨_, _, ⟨T78, L78, k78, n78⟩, -, X78, ⟨Lc78, hQ78, l78, y78, z78⟩, st78⟩ := X77.virtualBack hx (y := (⟨"lomwright/lom/Datatype", "components", "()Ljava/util/List;"⟩ : MethodName)) (z := (⟨"lomwright/lom/Datatype", "components", "()Ljava/util/List;"⟩ : MethodName)) hown (mvT hZ (hw _ (List.mem_of_getElem? (i := 14) rfl))) (mvT hZ (hw _ (List.mem_of_getElem? (i := 15) rfl))) (notFace_of_selects (args := #[]) (mvT hZ (hw _ (List.mem_of_getElem? (i := 17) rfl)))) (mvT hZ (hw _ (List.mem_of_getElem? (i := 17) rfl))) (mvT hZ (hw _ (List.mem_of_getElem? (i := 16) rfl))) (by decide) (backOf (W := 0) (rm2 l Z a0 hw [] w89 w99 h0 n0 Z0 F101) hZ (hw _ (List.mem_of_getElem? (i := 18) rfl)) (hw _ (List.mem_of_getElem? (i := 1) rfl)) (by decide) (by decide)) q78a q78c (g := (mkF m 116 #[.val (.int i0), .val (.int (i0 &&& (7 : Int32))), .val (.ref w89), .val (.int (0 : Int32)), .val (.int (f1_0 w89 w13 w27 w37)), .unset] [(.ref w89)])) rfl (by rw [hml]; rfl) (Steps.refl _) (argsL := []) (rest := []) (lenOf pd_1 rfl) rfl (by show 2 * 0 + _ ≤ _; exact Nat.le_of_eq rfl) (hb hby at_116) (fun _ _ => ⟨rfl, hh77, (by decide : 0 + 0 ≤ _), (by decide : 0 + 0 ≤ _)⟩)
                dsimp only [Pt.U, Pt.locs, Pt.cells, Pt.slots] at X78 l78 y78 z78 st78 hQ78
                subst l78 y78 z78
                obtain ⟨rfl, N78q, hh78⟩ := hQ78
                have N78 := Fr.app N77 N78q
                refine own_step (fun _ => st78.trans) ?_
                show own_Ends p e below s _ _ _ T78 (mkF m 119 #[.val (.int i0), .val (.int (i0 &&& (7 : Int32))), .val (.ref w89), .val (.int (0 : Int32)), .val (.int (f1_0 w89 w13 w27 w37)), .unset] [(.ref w99)])
                obtain ⟨cq79, kq79, q79a, q79b, q79c⟩ := isOf hZ hh78 E102
                obtain ⟨_, _, ⟨T79, L79, k79, n79⟩, -, X79, ⟨Lc79, hQ79, l79, y79, z79⟩, st79⟩ := X78.interfaceBack hx (xi := (⟨"java/util/List", "size", "()I"⟩ : MethodName)) (y := (⟨"java/util/ImmutableCollections$List12", "size", "()I"⟩ : MethodName)) hown (mvT hZ (hw _ (List.mem_of_getElem? (i := 21) rfl))) (mvT hZ (hw _ (List.mem_of_getElem? (i := 22) rfl))) (mvT hZ (hw _ (List.mem_of_getElem? (i := 23) rfl))) (mvT hZ (hw _ (List.mem_of_getElem? (i := 36) rfl))) (mvT hZ (hw _ (List.mem_of_getElem? (i := 37) rfl))) (mvT hZ (hw _ (List.mem_of_getElem? (i := 38) rfl))) (mvT hZ (hw _ (List.mem_of_getElem? (i := 39) rfl))) (mvT hZ (hw _ (List.mem_of_getElem? (i := 40) rfl))) (by decide) (backOf (W := 0) (rm4 l Z a0 hw [] w99 w83 w1 h0 n0 Z0 F106 S3) hZ (hw _ (List.mem_of_getElem? (i := 42) rfl)) (hw _ (List.mem_of_getElem? (i := 41) rfl)) (by decide) (by decide)) q79a q79b q79c (g := (mkF m 119 #[.val (.int i0), .val (.int (i0 &&& (7 : Int32))), .val (.ref w89), .val (.int (0 : Int32)), .val (.int (f1_0 w89 w13 w27 w37)), .unset] [(.ref w99)])) rfl (by rw [hml]; rfl) (Steps.refl _) (argsL := []) (rest := []) (lenOf pd_2 rfl) rfl (by show 2 * 0 + _ ≤ _; exact Nat.le_of_eq rfl) (hb hby at_119) (fun _ _ => ⟨rfl, hh78, (by decide : 0 + 0 ≤ _), (by decide : 0 + 0 ≤ _)⟩)
                dsimp only [Pt.U, Pt.locs, Pt.cells, Pt.slots] at X79 l79 y79 z79 st79 hQ79
                subst l79 y79 z79
                obtain ⟨rfl, N79q, hh79⟩ := hQ79
                have N79 := Fr.app N78 N79q
                refine own_step (fun _ => st79.trans) ?_
                show own_Ends p e below s _ _ _ T79 (mkF m 124 #[.val (.int i0), .val (.int (i0 &&& (7 : Int32))), .val (.ref w89), .val (.int (0 : Int32)), .val (.int (f1_0 w89 w13 w27 w37)), .unset] [(.int (f4_0 w99 w83 w1))])
                by_cases hc124 : (f4_0 w99 w83 w1) = (0 : Int32)
                · have hv_f_f_f_f_f_f_f_t := hv_f_f_f_f_f_f_f.trans (if_pos hc124)
                  refine own_step (fun _ => XS.ifNo X79.here hx rfl (hb hby at_124) rfl ((if0 _ _).trans (teq hc124).2)) ?_
                  show own_Ends p e below s _ _ _ T79 (mkF m 127 #[.val (.int i0), .val (.int (i0 &&& (7 : Int32))), .val (.ref w89), .val (.int (0 : Int32)), .val (.int (f1_0 w89 w13 w27 w37)), .unset] [])
                  refine own_step (fun _ => XS.aloadN X79.here hx rfl (hb hby at_127) rfl rfl) ?_
                  show own_Ends p e below s _ _ _ T79 (mkF m 128 #[.val (.int i0), .val (.int (i0 &&& (7 : Int32))), .val (.ref w89), .val (.int (0 : Int32)), .val (.int (f1_0 w89 w13 w27 w37)), .unset] [(.ref w89)])
                  obtain ⟨T80, X80, e80, st80⟩ := getS2 X79 hx hZ hown (host := "") (Or.inl (hw _ (List.mem_of_getElem? (i := 0) rfl))) Via.refl hh79 S9 (g := (mkF m 128 #[.val (.int i0), .val (.int (i0 &&& (7 : Int32))), .val (.ref w89), .val (.int (0 : Int32)), .val (.int (f1_0 w89 w13 w27 w37)), .unset] [(.ref w89)])) rfl (hb hby at_128)
                  refine own_step st80 ?_
                  show own_Ends p e below s _ _ _ T80 (mkF m 131 #[.val (.int i0), .val (.int (i0 &&& (7 : Int32))), .val (.ref w89), .val (.int (0 : Int32)), .val (.int (f1_0 w89 w13 w27 w37)), .unset] [(.ref w7), (.ref w89)])
                  by_cases hc131 : w89 = w7
                  · have hv_f_f_f_f_f_f_f_t_t := hv_f_f_f_f_f_f_f_t.trans (if_pos hc131)
                    refine own_step (fun _ => Jvm.RoadKit.acmp (g := (mkF m 131 #[.val (.int i0), .val (.int (i0 &&& (7 : Int32))), .val (.ref w89), .val (.int (0 : Int32)), .val (.int (f1_0 w89 w13 w27 w37)), .unset] [(.ref w7), (.ref w89)])) X80 hx rfl rfl rfl (pc0 := 131) (pc' := 138) (same := true) rfl (hb hby at_131) rfl (decide_eq_true (congrArg Value.ref hc131)) (by decide) (by decide)) ?_
                    show own_Ends p e below s _ _ _ T80 (mkF m 138 #[.val (.int i0), .val (.int (i0 &&& (7 : Int32))), .val (.ref w89), .val (.int (0 : Int32)), .val (.int (f1_0 w89 w13 w27 w37)), .unset] [])
                    refine own_step (fun _ => XS.iconst X80.here hx rfl (hb hby at_138)) ?_
                    show own_Ends p e below s _ _ _ T80 (mkF m 139 #[.val (.int i0), .val (.int (i0 &&& (7 : Int32))), .val (.ref w89), .val (.int (0 : Int32)), .val (.int (f1_0 w89 w13 w27 w37)), .unset] [(.int (0 : Int32))])
                    refine own_step (fun _ => XS.istore X80.here hx rfl (hb hby at_139) rfl (l' := #[.val (.int i0), .val (.int (i0 &&& (7 : Int32))), .val (.ref w89), .val (.int (0 : Int32)), .val (.int (f1_0 w89 w13 w27 w37)), .val (.int (0 : Int32))]) rfl) ?_
                    show own_Ends p e below s _ _ _ T80 (mkF m 141 #[.val (.int i0), .val (.int (i0 &&& (7 : Int32))), .val (.ref w89), .val (.int (0 : Int32)), .val (.int (f1_0 w89 w13 w27 w37)), .val (.int (0 : Int32))] [])
                    refine own_step (fun _ => XS.iload X80.here hx rfl (hb hby at_141) rfl) ?_
                    show own_Ends p e below s _ _ _ T80 (mkF m 143 #[.val (.int i0), .val (.int (i0 &&& (7 : Int32))), .val (.ref w89), .val (.int (0 : Int32)), .val (.int (f1_0 w89 w13 w27 w37)), .val (.int (0 : Int32))] [(.int (f1_0 w89 w13 w27 w37))])
                    refine own_step (fun _ => XS.iloadN X80.here hx rfl (hb hby at_143) rfl) ?_
                    show own_Ends p e below s _ _ _ T80 (mkF m 144 #[.val (.int i0), .val (.int (i0 &&& (7 : Int32))), .val (.ref w89), .val (.int (0 : Int32)), .val (.int (f1_0 w89 w13 w27 w37)), .val (.int (0 : Int32))] [(.int (0 : Int32)), (.int (f1_0 w89 w13 w27 w37))])
                    by_cases hc144 : (f1_0 w89 w13 w27 w37) = (0 : Int32)
                    · have hv_f_f_f_f_f_f_f_t_t_t := hv_f_f_f_f_f_f_f_t_t.trans (if_pos hc144)
                      refine own_step (fun _ => XS.icmpNo X80.here hx rfl (hb hby at_144) rfl (teq hc144).2) ?_
                      show own_Ends p e below s _ _ _ T80 (mkF m 147 #[.val (.int i0), .val (.int (i0 &&& (7 : Int32))), .val (.ref w89), .val (.int (0 : Int32)), .val (.int (f1_0 w89 w13 w27 w37)), .val (.int (0 : Int32))] [])
                      refine own_step (fun _ => XS.iload X80.here hx rfl (hb hby at_147) rfl) ?_
                      show own_Ends p e below s _ _ _ T80 (mkF m 149 #[.val (.int i0), .val (.int (i0 &&& (7 : Int32))), .val (.ref w89), .val (.int (0 : Int32)), .val (.int (f1_0 w89 w13 w27 w37)), .val (.int (0 : Int32))] [(.int (f1_0 w89 w13 w27 w37))])
                      refine own_step (fun _ => XS.iload X80.here hx rfl (hb hby at_149) rfl) ?_
                      show own_Ends p e below s _ _ _ T80 (mkF m 151 #[.val (.int i0), .val (.int (i0 &&& (7 : Int32))), .val (.ref w89), .val (.int (0 : Int32)), .val (.int (f1_0 w89 w13 w27 w37)), .val (.int (0 : Int32))] [(.int (0 : Int32)), (.int (f1_0 w89 w13 w27 w37))])
                      by_cases hc151 : (f1_0 w89 w13 w27 w37) = (0 : Int32)
                      · have hv_f_f_f_f_f_f_f_t_t_t_t := hv_f_f_f_f_f_f_f_t_t_t.trans (if_pos hc151)
                        refine own_step (fun _ => XS.icmpNo X80.here hx rfl (hb hby at_151) rfl (teq hc151).2) ?_
                        show own_Ends p e below s _ _ _ T80 (mkF m 154 #[.val (.int i0), .val (.int (i0 &&& (7 : Int32))), .val (.ref w89), .val (.int (0 : Int32)), .val (.int (f1_0 w89 w13 w27 w37)), .val (.int (0 : Int32))] [])
                        refine own_step (fun _ => XS.iconst X80.here hx rfl (hb hby at_154)) ?_
                        show own_Ends p e below s _ _ _ T80 (mkF m 155 #[.val (.int i0), .val (.int (i0 &&& (7 : Int32))), .val (.ref w89), .val (.int (0 : Int32)), .val (.int (f1_0 w89 w13 w27 w37)), .val (.int (0 : Int32))] [(.int (1 : Int32))])
                        refine own_step (fun _ => XS.goto X80.here hx rfl (pc0 := 155) (pc' := 159) rfl (hb hby at_155) (by decide) (by decide)) ?_
                        show own_Ends p e below s _ _ _ T80 (mkF m 159 #[.val (.int i0), .val (.int (i0 &&& (7 : Int32))), .val (.ref w89), .val (.int (0 : Int32)), .val (.int (f1_0 w89 w13 w27 w37)), .val (.int (0 : Int32))] [(.int (1 : Int32))])
                        exact own_retN X80 (t := .boolean) hx hret hlk (hb hby at_159) (by decide) (by decide) (by simp) ⟨congrArg (fun z => some (Value.int z)) hv_f_f_f_f_f_f_f_t_t_t_t.symm, N79, e80⟩
                      · have hv_f_f_f_f_f_f_f_t_t_t_f := hv_f_f_f_f_f_f_f_t_t_t.trans (if_neg hc151)
                        refine own_step (fun _ => XS.icmpYes X80.here hx rfl (pc0 := 151) (pc' := 158) rfl (hb hby at_151) rfl (feq hc151).2 (by decide) (by decide)) ?_
                        show own_Ends p e below s _ _ _ T80 (mkF m 158 #[.val (.int i0), .val (.int (i0 &&& (7 : Int32))), .val (.ref w89), .val (.int (0 : Int32)), .val (.int (f1_0 w89 w13 w27 w37)), .val (.int (0 : Int32))] [])
                        refine own_step (fun _ => XS.iconst X80.here hx rfl (hb hby at_158)) ?_
                        show own_Ends p e below s _ _ _ T80 (mkF m 159 #[.val (.int i0), .val (.int (i0 &&& (7 : Int32))), .val (.ref w89), .val (.int (0 : Int32)), .val (.int (f1_0 w89 w13 w27 w37)), .val (.int (0 : Int32))] [(.int (0 : Int32))])
                        exact own_retN X80 (t := .boolean) hx hret hlk (hb hby at_159) (by decide) (by decide) (by simp) ⟨congrArg (fun z => some (Value.int z)) hv_f_f_f_f_f_f_f_t_t_t_f.symm, N79, e80⟩
                    · have hv_f_f_f_f_f_f_f_t_t_f := hv_f_f_f_f_f_f_f_t_t.trans (if_neg hc144)
                      refine own_step (fun _ => XS.icmpYes X80.here hx rfl (pc0 := 144) (pc' := 158) rfl (hb hby at_144) rfl (feq hc144).2 (by decide) (by decide)) ?_
                      show own_Ends p e below s _ _ _ T80 (mkF m 158 #[.val (.int i0), .val (.int (i0 &&& (7 : Int32))), .val (.ref w89), .val (.int (0 : Int32)), .val (.int (f1_0 w89 w13 w27 w37)), .val (.int (0 : Int32))] [])
                      refine own_step (fun _ => XS.iconst X80.here hx rfl (hb hby at_158)) ?_
                      show own_Ends p e below s _ _ _ T80 (mkF m 159 #[.val (.int i0), .val (.int (i0 &&& (7 : Int32))), .val (.ref w89), .val (.int (0 : Int32)), .val (.int (f1_0 w89 w13 w27 w37)), .val (.int (0 : Int32))] [(.int (0 : Int32))])
                      exact own_retN X80 (t := .boolean) hx hret hlk (hb hby at_159) (by decide) (by decide) (by simp) ⟨congrArg (fun z => some (Value.int z)) hv_f_f_f_f_f_f_f_t_t_f.symm, N79, e80⟩
                  · have hv_f_f_f_f_f_f_f_t_f := hv_f_f_f_f_f_f_f_t.trans (if_neg hc131)
                    refine own_step (fun _ => Jvm.RoadKit.acmp (g := (mkF m 131 #[.val (.int i0), .val (.int (i0 &&& (7 : Int32))), .val (.ref w89), .val (.int (0 : Int32)), .val (.int (f1_0 w89 w13 w27 w37)), .unset] [(.ref w7), (.ref w89)])) X80 hx rfl rfl rfl (pc0 := 131) (pc' := 134) (same := false) rfl (hb hby at_131) rfl (decide_eq_false fun q => hc131 (Value.ref.inj q)) (by decide) (by decide)) ?_
                    show own_Ends p e below s _ _ _ T80 (mkF m 134 #[.val (.int i0), .val (.int (i0 &&& (7 : Int32))), .val (.ref w89), .val (.int (0 : Int32)), .val (.int (f1_0 w89 w13 w27 w37)), .unset] [])
                    refine own_step (fun _ => XS.iconst X80.here hx rfl (hb hby at_134)) ?_
                    show own_Ends p e below s _ _ _ T80 (mkF m 135 #[.val (.int i0), .val (.int (i0 &&& (7 : Int32))), .val (.ref w89), .val (.int (0 : Int32)), .val (.int (f1_0 w89 w13 w27 w37)), .unset] [(.int (1 : Int32))])
                    refine own_step (fun _ => XS.goto X80.here hx rfl (pc0 := 135) (pc' := 139) rfl (hb hby at_135) (by decide) (by decide)) ?_
                    show own_Ends p e below s _ _ _ T80 (mkF m 139 #[.val (.int i0), .val (.int (i0 &&& (7 : Int32))), .val (.ref w89), .val (.int (0 : Int32)), .val (.int (f1_0 w89 w13 w27 w37)), .unset] [(.int (1 : Int32))])
                    refine own_step (fun _ => XS.istore X80.here hx rfl (hb hby at_139) rfl (l' := #[.val (.int i0), .val (.int (i0 &&& (7 : Int32))), .val (.ref w89), .val (.int (0 : Int32)), .val (.int (f1_0 w89 w13 w27 w37)), .val (.int (1 : Int32))]) rfl) ?_
                    show own_Ends p e below s _ _ _ T80 (mkF m 141 #[.val (.int i0), .val (.int (i0 &&& (7 : Int32))), .val (.ref w89), .val (.int (0 : Int32)), .val (.int (f1_0 w89 w13 w27 w37)), .val (.int (1 : Int32))] [])
                    refine own_step (fun _ => XS.iload X80.here hx rfl (hb hby at_141) rfl) ?_
                    show own_Ends p e below s _ _ _ T80 (mkF m 143 #[.val (.int i0), .val (.int (i0 &&& (7 : Int32))), .val (.ref w89), .val (.int (0 : Int32)), .val (.int (f1_0 w89 w13 w27 w37)), .val (.int (1 : Int32))] [(.int (f1_0 w89 w13 w27 w37))])
                    refine own_step (fun _ => XS.iloadN X80.here hx rfl (hb hby at_143) rfl) ?_
                    show own_Ends p e below s _ _ _ T80 (mkF m 144 #[.val (.int i0), .val (.int (i0 &&& (7 : Int32))), .val (.ref w89), .val (.int (0 : Int32)), .val (.int (f1_0 w89 w13 w27 w37)), .val (.int (1 : Int32))] [(.int (0 : Int32)), (.int (f1_0 w89 w13 w27 w37))])
                    by_cases hc144 : (f1_0 w89 w13 w27 w37) = (0 : Int32)
                    · have hv_f_f_f_f_f_f_f_t_f_t := hv_f_f_f_f_f_f_f_t_f.trans (if_pos hc144)
                      refine own_step (fun _ => XS.icmpNo X80.here hx rfl (hb hby at_144) rfl (teq hc144).2) ?_
                      show own_Ends p e below s _ _ _ T80 (mkF m 147 #[.val (.int i0), .val (.int (i0 &&& (7 : Int32))), .val (.ref w89), .val (.int (0 : Int32)), .val (.int (f1_0 w89 w13 w27 w37)), .val (.int (1 : Int32))] [])
                      refine own_step (fun _ => XS.iload X80.here hx rfl (hb hby at_147) rfl) ?_
                      show own_Ends p e below s _ _ _ T80 (mkF m 149 #[.val (.int i0), .val (.int (i0 &&& (7 : Int32))), .val (.ref w89), .val (.int (0 : Int32)), .val (.int (f1_0 w89 w13 w27 w37)), .val (.int (1 : Int32))] [(.int (f1_0 w89 w13 w27 w37))])
                      refine own_step (fun _ => XS.iload X80.here hx rfl (hb hby at_149) rfl) ?_
                      show own_Ends p e below s _ _ _ T80 (mkF m 151 #[.val (.int i0), .val (.int (i0 &&& (7 : Int32))), .val (.ref w89), .val (.int (0 : Int32)), .val (.int (f1_0 w89 w13 w27 w37)), .val (.int (1 : Int32))] [(.int (1 : Int32)), (.int (f1_0 w89 w13 w27 w37))])
                      by_cases hc151 : (f1_0 w89 w13 w27 w37) = (1 : Int32)
                      · have hv_f_f_f_f_f_f_f_t_f_t_t := hv_f_f_f_f_f_f_f_t_f_t.trans (if_pos hc151)
                        refine own_step (fun _ => XS.icmpNo X80.here hx rfl (hb hby at_151) rfl (teq hc151).2) ?_
                        show own_Ends p e below s _ _ _ T80 (mkF m 154 #[.val (.int i0), .val (.int (i0 &&& (7 : Int32))), .val (.ref w89), .val (.int (0 : Int32)), .val (.int (f1_0 w89 w13 w27 w37)), .val (.int (1 : Int32))] [])
                        refine own_step (fun _ => XS.iconst X80.here hx rfl (hb hby at_154)) ?_
                        show own_Ends p e below s _ _ _ T80 (mkF m 155 #[.val (.int i0), .val (.int (i0 &&& (7 : Int32))), .val (.ref w89), .val (.int (0 : Int32)), .val (.int (f1_0 w89 w13 w27 w37)), .val (.int (1 : Int32))] [(.int (1 : Int32))])
                        refine own_step (fun _ => XS.goto X80.here hx rfl (pc0 := 155) (pc' := 159) rfl (hb hby at_155) (by decide) (by decide)) ?_
                        show own_Ends p e below s _ _ _ T80 (mkF m 159 #[.val (.int i0), .val (.int (i0 &&& (7 : Int32))), .val (.ref w89), .val (.int (0 : Int32)), .val (.int (f1_0 w89 w13 w27 w37)), .val (.int (1 : Int32))] [(.int (1 : Int32))])
                        exact own_retN X80 (t := .boolean) hx hret hlk (hb hby at_159) (by decide) (by decide) (by simp) ⟨congrArg (fun z => some (Value.int z)) hv_f_f_f_f_f_f_f_t_f_t_t.symm, N79, e80⟩
                      · have hv_f_f_f_f_f_f_f_t_f_t_f := hv_f_f_f_f_f_f_f_t_f_t.trans (if_neg hc151)
                        refine own_step (fun _ => XS.icmpYes X80.here hx rfl (pc0 := 151) (pc' := 158) rfl (hb hby at_151) rfl (feq hc151).2 (by decide) (by decide)) ?_
                        show own_Ends p e below s _ _ _ T80 (mkF m 158 #[.val (.int i0), .val (.int (i0 &&& (7 : Int32))), .val (.ref w89), .val (.int (0 : Int32)), .val (.int (f1_0 w89 w13 w27 w37)), .val (.int (1 : Int32))] [])
                        refine own_step (fun _ => XS.iconst X80.here hx rfl (hb hby at_158)) ?_
                        show own_Ends p e below s _ _ _ T80 (mkF m 159 #[.val (.int i0), .val (.int (i0 &&& (7 : Int32))), .val (.ref w89), .val (.int (0 : Int32)), .val (.int (f1_0 w89 w13 w27 w37)), .val (.int (1 : Int32))] [(.int (0 : Int32))])
                        exact own_retN X80 (t := .boolean) hx hret hlk (hb hby at_159) (by decide) (by decide) (by simp) ⟨congrArg (fun z => some (Value.int z)) hv_f_f_f_f_f_f_f_t_f_t_f.symm, N79, e80⟩
                    · have hv_f_f_f_f_f_f_f_t_f_f := hv_f_f_f_f_f_f_f_t_f.trans (if_neg hc144)
                      refine own_step (fun _ => XS.icmpYes X80.here hx rfl (pc0 := 144) (pc' := 158) rfl (hb hby at_144) rfl (feq hc144).2 (by decide) (by decide)) ?_
                      show own_Ends p e below s _ _ _ T80 (mkF m 158 #[.val (.int i0), .val (.int (i0 &&& (7 : Int32))), .val (.ref w89), .val (.int (0 : Int32)), .val (.int (f1_0 w89 w13 w27 w37)), .val (.int (1 : Int32))] [])
                      refine own_step (fun _ => XS.iconst X80.here hx rfl (hb hby at_158)) ?_
                      show own_Ends p e below s _ _ _ T80 (mkF m 159 #[.val (.int i0), .val (.int (i0 &&& (7 : Int32))), .val (.ref w89), .val (.int (0 : Int32)), .val (.int (f1_0 w89 w13 w27 w37)), .val (.int (1 : Int32))] [(.int (0 : Int32))])
                      exact own_retN X80 (t := .boolean) hx hret hlk (hb hby at_159) (by decide) (by decide) (by simp) ⟨congrArg (fun z => some (Value.int z)) hv_f_f_f_f_f_f_f_t_f_f.symm, N79, e80⟩
                · have hv_f_f_f_f_f_f_f_f := hv_f_f_f_f_f_f_f.trans (if_neg hc124)
                  refine own_step (fun _ => XS.ifYes X79.here hx rfl (pc0 := 124) (pc' := 138) rfl (hb hby at_124) rfl ((if0 _ _).trans (feq hc124).2) (by decide) (by decide)) ?_
                  show own_Ends p e below s _ _ _ T79 (mkF m 138 #[.val (.int i0), .val (.int (i0 &&& (7 : Int32))), .val (.ref w89), .val (.int (0 : Int32)), .val (.int (f1_0 w89 w13 w27 w37)), .unset] [])
                  refine own_step (fun _ => XS.iconst X79.here hx rfl (hb hby at_138)) ?_
                  show own_Ends p e below s _ _ _ T79 (mkF m 139 #[.val (.int i0), .val (.int (i0 &&& (7 : Int32))), .val (.ref w89), .val (.int (0 : Int32)), .val (.int (f1_0 w89 w13 w27 w37)), .unset] [(.int (0 : Int32))])
                  refine own_step (fun _ => XS.istore X79.here hx rfl (hb hby at_139) rfl (l' := #[.val (.int i0), .val (.int (i0 &&& (7 : Int32))), .val (.ref w89), .val (.int (0 : Int32)), .val (.int (f1_0 w89 w13 w27 w37)), .val (.int (0 : Int32))]) rfl) ?_
                  show own_Ends p e below s _ _ _ T79 (mkF m 141 #[.val (.int i0), .val (.int (i0 &&& (7 : Int32))), .val (.ref w89), .val (.int (0 : Int32)), .val (.int (f1_0 w89 w13 w27 w37)), .val (.int (0 : Int32))] [])
                  refine own_step (fun _ => XS.iload X79.here hx rfl (hb hby at_141) rfl) ?_
                  show own_Ends p e below s _ _ _ T79 (mkF m 143 #[.val (.int i0), .val (.int (i0 &&& (7 : Int32))), .val (.ref w89), .val (.int (0 : Int32)), .val (.int (f1_0 w89 w13 w27 w37)), .val (.int (0 : Int32))] [(.int (f1_0 w89 w13 w27 w37))])
                  refine own_step (fun _ => XS.iloadN X79.here hx rfl (hb hby at_143) rfl) ?_
                  show own_Ends p e below s _ _ _ T79 (mkF m 144 #[.val (.int i0), .val (.int (i0 &&& (7 : Int32))), .val (.ref w89), .val (.int (0 : Int32)), .val (.int (f1_0 w89 w13 w27 w37)), .val (.int (0 : Int32))] [(.int (0 : Int32)), (.int (f1_0 w89 w13 w27 w37))])
                  by_cases hc144 : (f1_0 w89 w13 w27 w37) = (0 : Int32)
                  · have hv_f_f_f_f_f_f_f_f_t := hv_f_f_f_f_f_f_f_f.trans (if_pos hc144)
                    refine own_step (fun _ => XS.icmpNo X79.here hx rfl (hb hby at_144) rfl (teq hc144).2) ?_
                    show own_Ends p e below s _ _ _ T79 (mkF m 147 #[.val (.int i0), .val (.int (i0 &&& (7 : Int32))), .val (.ref w89), .val (.int (0 : Int32)), .val (.int (f1_0 w89 w13 w27 w37)), .val (.int (0 : Int32))] [])
                    refine own_step (fun _ => XS.iload X79.here hx rfl (hb hby at_147) rfl) ?_
                    show own_Ends p e below s _ _ _ T79 (mkF m 149 #[.val (.int i0), .val (.int (i0 &&& (7 : Int32))), .val (.ref w89), .val (.int (0 : Int32)), .val (.int (f1_0 w89 w13 w27 w37)), .val (.int (0 : Int32))] [(.int (f1_0 w89 w13 w27 w37))])
                    refine own_step (fun _ => XS.iload X79.here hx rfl (hb hby at_149) rfl) ?_
                    show own_Ends p e below s _ _ _ T79 (mkF m 151 #[.val (.int i0), .val (.int (i0 &&& (7 : Int32))), .val (.ref w89), .val (.int (0 : Int32)), .val (.int (f1_0 w89 w13 w27 w37)), .val (.int (0 : Int32))] [(.int (0 : Int32)), (.int (f1_0 w89 w13 w27 w37))])
                    by_cases hc151 : (f1_0 w89 w13 w27 w37) = (0 : Int32)
                    · have hv_f_f_f_f_f_f_f_f_t_t := hv_f_f_f_f_f_f_f_f_t.trans (if_pos hc151)
                      refine own_step (fun _ => XS.icmpNo X79.here hx rfl (hb hby at_151) rfl (teq hc151).2) ?_
                      show own_Ends p e below s _ _ _ T79 (mkF m 154 #[.val (.int i0), .val (.int (i0 &&& (7 : Int32))), .val (.ref w89), .val (.int (0 : Int32)), .val (.int (f1_0 w89 w13 w27 w37)), .val (.int (0 : Int32))] [])
                      refine own_step (fun _ => XS.iconst X79.here hx rfl (hb hby at_154)) ?_
                      show own_Ends p e below s _ _ _ T79 (mkF m 155 #[.val (.int i0), .val (.int (i0 &&& (7 : Int32))), .val (.ref w89), .val (.int (0 : Int32)), .val (.int (f1_0 w89 w13 w27 w37)), .val (.int (0 : Int32))] [(.int (1 : Int32))])
                      refine own_step (fun _ => XS.goto X79.here hx rfl (pc0 := 155) (pc' := 159) rfl (hb hby at_155) (by decide) (by decide)) ?_
                      show own_Ends p e below s _ _ _ T79 (mkF m 159 #[.val (.int i0), .val (.int (i0 &&& (7 : Int32))), .val (.ref w89), .val (.int (0 : Int32)), .val (.int (f1_0 w89 w13 w27 w37)), .val (.int (0 : Int32))] [(.int (1 : Int32))])
                      exact own_retN X79 (t := .boolean) hx hret hlk (hb hby at_159) (by decide) (by decide) (by simp) ⟨congrArg (fun z => some (Value.int z)) hv_f_f_f_f_f_f_f_f_t_t.symm, N79, hh79⟩
                    · have hv_f_f_f_f_f_f_f_f_t_f := hv_f_f_f_f_f_f_f_f_t.trans (if_neg hc151)
                      refine own_step (fun _ => XS.icmpYes X79.here hx rfl (pc0 := 151) (pc' := 158) rfl (hb hby at_151) rfl (feq hc151).2 (by decide) (by decide)) ?_
                      show own_Ends p e below s _ _ _ T79 (mkF m 158 #[.val (.int i0), .val (.int (i0 &&& (7 : Int32))), .val (.ref w89), .val (.int (0 : Int32)), .val (.int (f1_0 w89 w13 w27 w37)), .val (.int (0 : Int32))] [])
                      refine own_step (fun _ => XS.iconst X79.here hx rfl (hb hby at_158)) ?_
                      show own_Ends p e below s _ _ _ T79 (mkF m 159 #[.val (.int i0), .val (.int (i0 &&& (7 : Int32))), .val (.ref w89), .val (.int (0 : Int32)), .val (.int (f1_0 w89 w13 w27 w37)), .val (.int (0 : Int32))] [(.int (0 : Int32))])
                      exact own_retN X79 (t := .boolean) hx hret hlk (hb hby at_159) (by decide) (by decide) (by simp) ⟨congrArg (fun z => some (Value.int z)) hv_f_f_f_f_f_f_f_f_t_f.symm, N79, hh79⟩
                  · have hv_f_f_f_f_f_f_f_f_f := hv_f_f_f_f_f_f_f_f.trans (if_neg hc144)
                    refine own_step (fun _ => XS.icmpYes X79.here hx rfl (pc0 := 144) (pc' := 158) rfl (hb hby at_144) rfl (feq hc144).2 (by decide) (by decide)) ?_
                    show own_Ends p e below s _ _ _ T79 (mkF m 158 #[.val (.int i0), .val (.int (i0 &&& (7 : Int32))), .val (.ref w89), .val (.int (0 : Int32)), .val (.int (f1_0 w89 w13 w27 w37)), .val (.int (0 : Int32))] [])
                    refine own_step (fun _ => XS.iconst X79.here hx rfl (hb hby at_158)) ?_
                    show own_Ends p e below s _ _ _ T79 (mkF m 159 #[.val (.int i0), .val (.int (i0 &&& (7 : Int32))), .val (.ref w89), .val (.int (0 : Int32)), .val (.int (f1_0 w89 w13 w27 w37)), .val (.int (0 : Int32))] [(.int (0 : Int32))])
                    exact own_retN X79 (t := .boolean) hx hret hlk (hb hby at_159) (by decide) (by decide) (by simp) ⟨congrArg (fun z => some (Value.int z)) hv_f_f_f_f_f_f_f_f_f.symm, N79, hh79⟩
theorem ef_rm0 (m : MethodId) (i0 : Int32) : entryFrame m #[(.int i0)] maxLocals = mkF m 0 #[.val (.int i0), .unset, .unset, .unset, .unset, .unset] [] := by first | (simp [entryFrame, mkF, argsToLocals, Value.category, maxLocals]; done) | rfl
set_option maxRecDepth 65536 in
set_option maxHeartbeats 40000000 in
theorem rm0 (l : Launch) (Z : State) (a0 : Array Value) (hw : ∀ d ∈ tables_1, d.before a0 Z = true) (ws : List Jvm.Cond) (i0 : Int32) (w1 : Addr) (w7 : Addr) (w13 : Addr) (w27 : Addr) (w37 : Addr) (w67 : Addr) (w89 : Addr) (w117 : Addr) (w137 : Addr) (w47 : Addr) (w53 : Addr) (w77 : Addr) (w83 : Addr) (w99 : Addr) (w127 : Addr) (w147 : Addr) (w151 : Addr) (c57 : Cell) (h0 : Heap) (n0 : Nat) (Z0 : n0 ≤ h0.size) (S3 : Sta Z h0 "java/util/ImmutableCollections" "EMPTY" "Ljava/lang/Object;" (.ref w1)) (E4 : Exa Z h0 w1 "java/lang/Object") (S9 : Sta Z h0 "lomwright/lom/Datatype" "AGGREGATE" "Llomwright/lom/Datatype;" (.ref w7)) (E10 : Exa Z h0 w7 "lomwright/lom/Datatype") (S15 : Sta Z h0 "lomwright/lom/Datatype" "CHARACTER_STRING" "Llomwright/lom/Datatype;" (.ref w13)) (E16 : Exa Z h0 w13 "lomwright/lom/Datatype") (F20 : Fld Z h0 w7 "java/lang/Enum" "ordinal" "I" (.int (0 : Int32))) (F24 : Fld Z h0 w13 "java/lang/Enum" "ordinal" "I" (.int (1 : Int32))) (S29 : Sta Z h0 "lomwright/lom/Datatype" "LANGUAGE_ID" "Llomwright/lom/Datatype;" (.ref w27)) (E30 : Exa Z h0 w27 "lomwright/lom/Datatype") (F34 : Fld Z h0 w27 "java/lang/Enum" "ordinal" "I" (.int (2 : Int32))) (S39 : Sta Z h0 "lomwright/lom/Datatype" "VCARD" "Llomwright/lom/Datatype;" (.ref w37)) (E40 : Exa Z h0 w37 "lomwright/lom/Datatype") (F44 : Fld Z h0 w37 "java/lang/Enum" "ordinal" "I" (.int (3 : Int32))) (F49 : Fld Z h0 w7 "lomwright/lom/Datatype" "components" "Ljava/util/List;" (.ref w47)) (E50 : Exa Z h0 w47 "java/util/ImmutableCollections$ListN") (F55 : Fld Z h0 w47 "java/util/ImmutableCollections$ListN" "elements" "[Ljava/lang/Object;" (.ref w53)) (F64 : Fld Z h0 w37 "lomwright/lom/Datatype" "components" "Ljava/util/List;" (.ref w47)) (S69 : Sta Z h0 "lomwright/lom/Datatype" "DATE_TIME" "Llomwright/lom/Datatype;" (.ref w67)) (E70 : Exa Z h0 w67 "lomwright/lom/Datatype") (F74 : Fld Z h0 w67 "java/lang/Enum" "ordinal" "I" (.int (6 : Int32))) (F79 : Fld Z h0 w67 "lomwright/lom/Datatype" "components" "Ljava/util/List;" (.ref w77)) (E80 : Exa Z h0 w77 "java/util/ImmutableCollections$List12") (F85 : Fld Z h0 w77 "java/util/ImmutableCollections$List12" "e1" "Ljava/lang/Object;" (.ref w83)) (E86 : Exa Z h0 w83 "java/lang/String") (S91 : Sta Z h0 "lomwright/lom/Datatype" "DURATION" "Llomwright/lom/Datatype;" (.ref w89)) (E92 : Exa Z h0 w89 "lomwright/lom/Datatype") (F96 : Fld Z h0 w89 "java/lang/Enum" "ordinal" "I" (.int (7 : Int32))) (F101 : Fld Z h0 w89 "lomwright/lom/Datatype" "components" "Ljava/util/List;" (.ref w99)) (E102 : Exa Z h0 w99 "java/util/ImmutableCollections$List12") (F106 : Fld Z h0 w99 "java/util/ImmutableCollections$List12" "e1" "Ljava/lang/Object;" (.ref w83)) (F110 : Fld Z h0 w27 "lomwright/lom/Datatype" "components" "Ljava/util/List;" (.ref w47)) (F114 : Fld Z h0 w13 "lomwright/lom/Datatype" "components" "Ljava/util/List;" (.ref w47)) (S119 : Sta Z h0 "lomwright/lom/Datatype" "LANG_STRING" "Llomwright/lom/Datatype;" (.ref w117)) (E120 : Exa Z h0 w117 "lomwright/lom/Datatype") (F124 : Fld Z h0 w117 "java/lang/Enum" "ordinal" "I" (.int (4 : Int32))) (F129 : Fld Z h0 w117 "lomwright/lom/Datatype" "components" "Ljava/util/List;" (.ref w127)) (E130 : Exa Z h0 w127 "java/util/ImmutableCollections$List12") (F134 : Fld Z h0 w127 "java/util/ImmutableCollections$List12" "e1" "Ljava/lang/Object;" (.ref w1)) (S139 : Sta Z h0 "lomwright/lom/Datatype" "VOCABULARY" "Llomwright/lom/Datatype;" (.ref w137)) (E140 : Exa Z h0 w137 "lomwright/lom/Datatype") (F144 : Fld Z h0 w137 "java/lang/Enum" "ordinal" "I" (.int (5 : Int32))) (F149 : Fld Z h0 w137 "lomwright/lom/Datatype" "components" "Ljava/util/List;" (.ref w147)) (E150 : Exa Z h0 w147 "java/util/ImmutableCollections$List12") (F153 : Fld Z h0 w147 "java/util/ImmutableCollections$List12" "e1" "Ljava/lang/Object;" (.ref w151)) (E154 : Exa Z h0 w151 "java/lang/String") (A56 : Arr Z h0 w53 c57 (.object "java/lang/Object")) (Sz : c57.slots.size = (0 : Int32).toNatClampNeg) :
    MetFree l x (head1 (Jvm.Cond.code x code maxLocals ret :: ws) room_1) (fun a U => a = #[(.int i0)] ∧ Z.Warmed39 U.vm ∧ U.heap = h0) (fun _ _ _ _ _ => True) (fun _ U o U' => ∃ v L, o = .returned v ∧ (own_Q n0 h0 (some (.int (f0_0 i0 w1 w7 w13 w27 w37 w67 w89 w117 w137 w47 w53 w77 w83 w99 w127 w147 w151 c57)))) v U'.heap L ∧ FrameEnd U o U' L room_1.cells room_1.slots) := by
  refine MetFree.of_bodySF (plainFor_of_name pn_3) hisR ?_
  intro p e s m args below meth c s₁ Bd hml0 hP hK
  obtain ⟨rfl, hZ, hh⟩ := hP
  have X0 : Stand p l e room_1 s m #[(.int i0)] below meth c s₁ [] 0 0 := Stand.of_body Bd
  have e0 : s₁.heap = h0 := by rw [← hh, Bd.state]; rfl
  have C : own_C "lomwright/lom/DatatypeHoldsTextPinLaw" code maxLocals ret x.name p s m meth c Z a0 := ⟨Bd.exec, hZ, hw, Bd.bytes, hml0, findClass_of_methodNamed Bd.named, Bd.returns, Bd.notSynchronized, (name_of_methodNamed Bd.named Bd.method).1⟩
  have r := b0_0 C Z0 X0 e0 (Fr.nil n0) i0 w1 w7 w13 w27 w37 w67 w89 w117 w137 w47 w53 w77 w83 w99 w127 w147 w151 c57 S3 E4 S9 E10 S15 E16 F20 F24 S29 E30 F34 S39 E40 F44 F49 E50 F55 F64 S69 E70 F74 F79 E80 F85 E86 S91 E92 F96 F101 E102 F106 F110 F114 S119 E120 F124 F129 E130 F134 S139 E140 F144 F149 E150 F153 E154 A56 Sz _ rfl
  rw [ef_rm0 m i0]
  exact r
theorem own_f4 (o x w : Addr) : f4_0 o x w ≠ 0 := by unfold f4_0; split <;> decide
set_option maxHeartbeats 4000000 in
theorem own_law (i0 : Int32) (w1 w7 w13 w27 w37 w67 w89 w117 w137 w47 w53 w77 w83 w99 w127 w147 w151 : Addr) (c57 : Cell) (h0 : w7 ≠ w13) (h1 : w7 ≠ w27) (h2 : w7 ≠ w37) (h3 : w7 ≠ w117) (h4 : w7 ≠ w137) (h5 : w7 ≠ w67) (h6 : w7 ≠ w89) (h7 : w13 ≠ w27) (h8 : w13 ≠ w37) (h9 : w13 ≠ w117) (h10 : w13 ≠ w137) (h11 : w13 ≠ w67) (h12 : w13 ≠ w89) (h13 : w27 ≠ w37) (h14 : w27 ≠ w117) (h15 : w27 ≠ w137) (h16 : w27 ≠ w67) (h17 : w27 ≠ w89) (h18 : w37 ≠ w117) (h19 : w37 ≠ w137) (h20 : w37 ≠ w67) (h21 : w37 ≠ w89) : f0_0 i0 w1 w7 w13 w27 w37 w67 w89 w117 w137 w47 w53 w77 w83 w99 w127 w147 w151 c57 = 1 := by
  unfold f0_0 f1_0
  simp [own_f4, h0, Ne.symm h0, h1, Ne.symm h1, h2, Ne.symm h2, h3, Ne.symm h3, h4, Ne.symm h4, h5, Ne.symm h5, h6, Ne.symm h6, h7, Ne.symm h7, h8, Ne.symm h8, h9, Ne.symm h9, h10, Ne.symm h10, h11, Ne.symm h11, h12, Ne.symm h12, h13, Ne.symm h13, h14, Ne.symm h14, h15, Ne.symm h15, h16, Ne.symm h16, h17, Ne.symm h17, h18, Ne.symm h18, h19, Ne.symm h19, h20, Ne.symm h20, h21, Ne.symm h21]
set_option maxRecDepth 65536 in
set_option maxHeartbeats 40000000 in
theorem comes_1 {Post : Tables → Env → Array Value → State → Outcome → State → Prop} (hpost : ∀ tb e args s v u, (limb_1_1.after args s (.returned v) u = true ∧ limb_1_2.after args s (.returned v) u = true ∧ True) → FrameEnd s (.returned v) u (Jvm.fieldLocs frame_1_writes args s ++ Jvm.arrayLocs frame_1_arrays args s ++ Jvm.staticLocs frame_1_statics s) 0 0 → Post tb e args s (.returned v) u) :
    ArmFor flags0 classFile x code maxLocals ret World_1 tables_1 room_1 Calls_1 rest_1 Pre_1 Post := by
  intro l hfl _ _ p e ha hc hk s m args below hf hA hF happ hP
  obtain ⟨hcalls, hrest, hpre⟩ := hP
  obtain ⟨-, -, -, hnamed, -, -, -, hat⟩ := (Spec.applies_iff hf).mp happ
  obtain ⟨hg, hn⟩ := and_e (Cond.before_iff.mp (show (Jvm.Cond.and given_1 narrow_1).before args s = true from hpre))
  obtain ⟨g1, g2⟩ := and_e hg
  obtain ⟨w0, rfl⟩ : ∃ w0 : Value, args = #[w0] := by
    have hs : args.size = 1 := by simpa [Cond.value, given_1] using g1
    obtain ⟨L⟩ := args
    match L, hs with
    | [w0], _ => exact ⟨w0, rfl⟩
  have hw := fun d (hd : d ∈ tables_1) => atoms_spec (ws := Jvm.Cond.code x code maxLocals ret :: tables_1) hat d (List.mem_cons_of_mem _ hd)
  have hfit : Fit s := fun {y c} hc i hi => by
    obtain ⟨ha, rfl⟩ := Array.getElem?_eq_some_iff.mp hc
    have q := List.all_eq_true.mp ((Array.all_eq_true_iff_forall_mem.mp hF) _ (Array.getElem_mem ha)) i (List.mem_range.mpr hi)
    simpa [Array.getElem?_eq_getElem hi] using q
  obtain ⟨hS, hown0⟩ := atoms_of _ (rest_1_c_eq ▸ (show rest_1_c.before _ s = true from hrest))
  obtain ⟨i0, ei0⟩ := is_v g2
  obtain rfl : w0 = (.int i0) := Option.some.inj ei0
  have nE := Cond.before_iff.mp (hS _ (List.mem_of_getElem? (i := 2) rfl))
  obtain ⟨w1, e2⟩ := exa_v nE
  have S3 : Sta s s.heap "java/util/ImmutableCollections" "EMPTY" "Ljava/lang/Object;" (.ref w1) := Sta.start e2 (Or.inl (hS _ (List.mem_of_getElem? (i := 1) rfl)))
  have E4 : Exa s s.heap w1 "java/lang/Object" := Exa.start e2 nE
  obtain ⟨n5, n6⟩ := and_e hn
  obtain ⟨w7, e8⟩ := exa_v n5
  have S9 : Sta s s.heap "lomwright/lom/Datatype" "AGGREGATE" "Llomwright/lom/Datatype;" (.ref w7) := Sta.start e8 (Or.inr ⟨(hw _ (List.mem_of_getElem? (i := 1) rfl)), (hw _ (List.mem_of_getElem? (i := 2) rfl))⟩)
  have E10 : Exa s s.heap w7 "lomwright/lom/Datatype" := Exa.start e8 n5
  obtain ⟨n11, n12⟩ := and_e n6
  obtain ⟨w13, e14⟩ := exa_v n11
  have S15 : Sta s s.heap "lomwright/lom/Datatype" "CHARACTER_STRING" "Llomwright/lom/Datatype;" (.ref w13) := Sta.start e14 (Or.inr ⟨(hw _ (List.mem_of_getElem? (i := 1) rfl)), (hw _ (List.mem_of_getElem? (i := 9) rfl))⟩)
  have E16 : Exa s s.heap w13 "lomwright/lom/Datatype" := Exa.start e14 n11
  obtain ⟨n17, n18⟩ := and_e n12
  have e19 := eqv_i (Term.int_eval (0 : Int32)) n17
  have F20 : Fld s s.heap w7 "java/lang/Enum" "ordinal" "I" (.int (0 : Int32)) := Fld.start ((fld_at e8).symm.trans e19)
  obtain ⟨n21, n22⟩ := and_e n18
  have e23 := eqv_i (Term.int_eval (1 : Int32)) n21
  have F24 : Fld s s.heap w13 "java/lang/Enum" "ordinal" "I" (.int (1 : Int32)) := Fld.start ((fld_at e14).symm.trans e23)
  obtain ⟨n25, n26⟩ := and_e n22
  obtain ⟨w27, e28⟩ := exa_v n25
  have S29 : Sta s s.heap "lomwright/lom/Datatype" "LANGUAGE_ID" "Llomwright/lom/Datatype;" (.ref w27) := Sta.start e28 (Or.inr ⟨(hw _ (List.mem_of_getElem? (i := 1) rfl)), (hw _ (List.mem_of_getElem? (i := 11) rfl))⟩)
  have E30 : Exa s s.heap w27 "lomwright/lom/Datatype" := Exa.start e28 n25
  obtain ⟨n31, n32⟩ := and_e n26
  have e33 := eqv_i (Term.int_eval (2 : Int32)) n31
  have F34 : Fld s s.heap w27 "java/lang/Enum" "ordinal" "I" (.int (2 : Int32)) := Fld.start ((fld_at e28).symm.trans e33)
  obtain ⟨n35, n36⟩ := and_e n32
  obtain ⟨w37, e38⟩ := exa_v n35
  have S39 : Sta s s.heap "lomwright/lom/Datatype" "VCARD" "Llomwright/lom/Datatype;" (.ref w37) := Sta.start e38 (Or.inr ⟨(hw _ (List.mem_of_getElem? (i := 1) rfl)), (hw _ (List.mem_of_getElem? (i := 13) rfl))⟩)
  have E40 : Exa s s.heap w37 "lomwright/lom/Datatype" := Exa.start e38 n35
  obtain ⟨n41, n42⟩ := and_e n36
  have e43 := eqv_i (Term.int_eval (3 : Int32)) n41
  have F44 : Fld s s.heap w37 "java/lang/Enum" "ordinal" "I" (.int (3 : Int32)) := Fld.start ((fld_at e38).symm.trans e43)
  obtain ⟨n45, n46⟩ := and_e n42
  obtain ⟨w47, e48⟩ := exa_v n45
  have F49 : Fld s s.heap w7 "lomwright/lom/Datatype" "components" "Ljava/util/List;" (.ref w47) := Fld.start ((fld_at e8).symm.trans e48)
  have E50 : Exa s s.heap w47 "java/util/ImmutableCollections$ListN" := Exa.start e48 n45
  obtain ⟨n51, n52⟩ := and_e n46
  obtain ⟨w53, e54⟩ := arr_v n51
  have F55 : Fld s s.heap w47 "java/util/ImmutableCollections$ListN" "elements" "[Ljava/lang/Object;" (.ref w53) := Fld.start ((fld_at e48).symm.trans e54)
  obtain ⟨c57, A56⟩ := Arr.start e54 n51
  obtain ⟨n58, n59⟩ := and_e n52
  have e60 := eqv_i (Term.int_eval (0 : Int32)) n58
  obtain ⟨n61, n62⟩ := and_e n59
  have e63 := own_eqR e48 n61
  have F64 : Fld s s.heap w37 "lomwright/lom/Datatype" "components" "Ljava/util/List;" (.ref w47) := Fld.start ((fld_at e38).symm.trans e63)
  obtain ⟨n65, n66⟩ := and_e n62
  obtain ⟨w67, e68⟩ := exa_v n65
  have S69 : Sta s s.heap "lomwright/lom/Datatype" "DATE_TIME" "Llomwright/lom/Datatype;" (.ref w67) := Sta.start e68 (Or.inr ⟨(hw _ (List.mem_of_getElem? (i := 1) rfl)), (hw _ (List.mem_of_getElem? (i := 35) rfl))⟩)
  have E70 : Exa s s.heap w67 "lomwright/lom/Datatype" := Exa.start e68 n65
  obtain ⟨n71, n72⟩ := and_e n66
  have e73 := eqv_i (Term.int_eval (6 : Int32)) n71
  have F74 : Fld s s.heap w67 "java/lang/Enum" "ordinal" "I" (.int (6 : Int32)) := Fld.start ((fld_at e68).symm.trans e73)
  obtain ⟨n75, n76⟩ := and_e n72
  obtain ⟨w77, e78⟩ := exa_v n75
  have F79 : Fld s s.heap w67 "lomwright/lom/Datatype" "components" "Ljava/util/List;" (.ref w77) := Fld.start ((fld_at e68).symm.trans e78)
  have E80 : Exa s s.heap w77 "java/util/ImmutableCollections$List12" := Exa.start e78 n75
  obtain ⟨n81, n82⟩ := and_e n76
  obtain ⟨w83, e84⟩ := exa_v n81
  have F85 : Fld s s.heap w77 "java/util/ImmutableCollections$List12" "e1" "Ljava/lang/Object;" (.ref w83) := Fld.start ((fld_at e78).symm.trans e84)
  have E86 : Exa s s.heap w83 "java/lang/String" := Exa.start e84 n81
  obtain ⟨n87, n88⟩ := and_e n82
  obtain ⟨w89, e90⟩ := exa_v n87
  have S91 : Sta s s.heap "lomwright/lom/Datatype" "DURATION" "Llomwright/lom/Datatype;" (.ref w89) := Sta.start e90 (Or.inr ⟨(hw _ (List.mem_of_getElem? (i := 1) rfl)), (hw _ (List.mem_of_getElem? (i := 48) rfl))⟩)
  have E92 : Exa s s.heap w89 "lomwright/lom/Datatype" := Exa.start e90 n87
  obtain ⟨n93, n94⟩ := and_e n88
  have e95 := eqv_i (Term.int_eval (7 : Int32)) n93
  have F96 : Fld s s.heap w89 "java/lang/Enum" "ordinal" "I" (.int (7 : Int32)) := Fld.start ((fld_at e90).symm.trans e95)
  obtain ⟨n97, n98⟩ := and_e n94
  obtain ⟨w99, e100⟩ := exa_v n97
  have F101 : Fld s s.heap w89 "lomwright/lom/Datatype" "components" "Ljava/util/List;" (.ref w99) := Fld.start ((fld_at e90).symm.trans e100)
  have E102 : Exa s s.heap w99 "java/util/ImmutableCollections$List12" := Exa.start e100 n97
  obtain ⟨n103, n104⟩ := and_e n98
  have e105 := own_eqR e84 n103
  have F106 : Fld s s.heap w99 "java/util/ImmutableCollections$List12" "e1" "Ljava/lang/Object;" (.ref w83) := Fld.start ((fld_at e100).symm.trans e105)
  obtain ⟨n107, n108⟩ := and_e n104
  have e109 := own_eqR e48 n107
  have F110 : Fld s s.heap w27 "lomwright/lom/Datatype" "components" "Ljava/util/List;" (.ref w47) := Fld.start ((fld_at e28).symm.trans e109)
  obtain ⟨n111, n112⟩ := and_e n108
  have e113 := own_eqR e48 n111
  have F114 : Fld s s.heap w13 "lomwright/lom/Datatype" "components" "Ljava/util/List;" (.ref w47) := Fld.start ((fld_at e14).symm.trans e113)
  obtain ⟨n115, n116⟩ := and_e n112
  obtain ⟨w117, e118⟩ := exa_v n115
  have S119 : Sta s s.heap "lomwright/lom/Datatype" "LANG_STRING" "Llomwright/lom/Datatype;" (.ref w117) := Sta.start e118 (Or.inr ⟨(hw _ (List.mem_of_getElem? (i := 1) rfl)), (hw _ (List.mem_of_getElem? (i := 52) rfl))⟩)
  have E120 : Exa s s.heap w117 "lomwright/lom/Datatype" := Exa.start e118 n115
  obtain ⟨n121, n122⟩ := and_e n116
  have e123 := eqv_i (Term.int_eval (4 : Int32)) n121
  have F124 : Fld s s.heap w117 "java/lang/Enum" "ordinal" "I" (.int (4 : Int32)) := Fld.start ((fld_at e118).symm.trans e123)
  obtain ⟨n125, n126⟩ := and_e n122
  obtain ⟨w127, e128⟩ := exa_v n125
  have F129 : Fld s s.heap w117 "lomwright/lom/Datatype" "components" "Ljava/util/List;" (.ref w127) := Fld.start ((fld_at e118).symm.trans e128)
  have E130 : Exa s s.heap w127 "java/util/ImmutableCollections$List12" := Exa.start e128 n125
  obtain ⟨n131, n132⟩ := and_e n126
  have e133 := own_eqR e2 n131
  have F134 : Fld s s.heap w127 "java/util/ImmutableCollections$List12" "e1" "Ljava/lang/Object;" (.ref w1) := Fld.start ((fld_at e128).symm.trans e133)
  obtain ⟨n135, n136⟩ := and_e n132
  obtain ⟨w137, e138⟩ := exa_v n135
  have S139 : Sta s s.heap "lomwright/lom/Datatype" "VOCABULARY" "Llomwright/lom/Datatype;" (.ref w137) := Sta.start e138 (Or.inr ⟨(hw _ (List.mem_of_getElem? (i := 1) rfl)), (hw _ (List.mem_of_getElem? (i := 54) rfl))⟩)
  have E140 : Exa s s.heap w137 "lomwright/lom/Datatype" := Exa.start e138 n135
  obtain ⟨n141, n142⟩ := and_e n136
  have e143 := eqv_i (Term.int_eval (5 : Int32)) n141
  have F144 : Fld s s.heap w137 "java/lang/Enum" "ordinal" "I" (.int (5 : Int32)) := Fld.start ((fld_at e138).symm.trans e143)
  obtain ⟨n145, n146⟩ := and_e n142
  obtain ⟨w147, e148⟩ := exa_v n145
  have F149 : Fld s s.heap w137 "lomwright/lom/Datatype" "components" "Ljava/util/List;" (.ref w147) := Fld.start ((fld_at e138).symm.trans e148)
  have E150 : Exa s s.heap w147 "java/util/ImmutableCollections$List12" := Exa.start e148 n145
  obtain ⟨w151, e152⟩ := exa_v n146
  have F153 : Fld s s.heap w147 "java/util/ImmutableCollections$List12" "e1" "Ljava/lang/Object;" (.ref w151) := Fld.start ((fld_at e148).symm.trans e152)
  have E154 : Exa s s.heap w151 "java/lang/String" := Exa.start e152 n146
  have Sz : c57.slots.size = (0 : Int32).toNatClampNeg := own_len e54 A56 e60
  obtain ⟨n, o, h1, h2, h3, _, L, rfl, ⟨rfl, N, -⟩, hq⟩ := rm0 l s _ hw tables_1 i0 w1 w7 w13 w27 w37 w67 w89 w117 w137 w47 w53 w77 w83 w99 w127 w147 w151 c57 s.heap s.heap.size (Nat.le_refl _) S3 E4 S9 E10 S15 E16 F20 F24 S29 E30 F34 S39 E40 F44 F49 E50 F55 F64 S69 E70 F74 F79 E80 F85 E86 S91 E92 F96 F101 E102 F106 F110 F114 S119 E120 F124 F129 E130 F134 S139 E140 F144 F149 E150 F153 E154 A56 Sz p e ha hc hk s m _ below hf ((Spec.applies_iff_loose hf).mp happ).1 ⟨rfl, State.Warmed39.refl s, rfl⟩ trivial
  refine ⟨n, _, h1, h2, h3, hpost _ _ _ _ _ _ ⟨Cond.after_iff.mpr rfl, Cond.after_iff.mpr (eq_i res_at (Term.int_eval (1)) (congrArg Value.int (own_law i0 w1 w7 w13 w27 w37 w67 w89 w117 w137 w47 w53 w77 w83 w99 w127 w147 w151 c57 (Fld.ne F20 F24 (by decide)) (Fld.ne F20 F34 (by decide)) (Fld.ne F20 F44 (by decide)) (Fld.ne F20 F124 (by decide)) (Fld.ne F20 F144 (by decide)) (Fld.ne F20 F74 (by decide)) (Fld.ne F20 F96 (by decide)) (Fld.ne F24 F34 (by decide)) (Fld.ne F24 F44 (by decide)) (Fld.ne F24 F124 (by decide)) (Fld.ne F24 F144 (by decide)) (Fld.ne F24 F74 (by decide)) (Fld.ne F24 F96 (by decide)) (Fld.ne F34 F44 (by decide)) (Fld.ne F34 F124 (by decide)) (Fld.ne F34 F144 (by decide)) (Fld.ne F34 F74 (by decide)) (Fld.ne F34 F96 (by decide)) (Fld.ne F44 F124 (by decide)) (Fld.ne F44 F144 (by decide)) (Fld.ne F44 F74 (by decide)) (Fld.ne F44 F96 (by decide))))), trivial⟩ ⟨hq.1, hq.2.1, (hq.2.2.sift fun y hy => Or.inr (N y hy)).mono (by decide) (by decide)⟩⟩
theorem main_1_1 : Claimed_1_1 := comes_1 fun _ _ _ _ _ _ h hF => ⟨h.1, hF⟩
theorem main_1_2 : Claimed_1_2 := comes_1 fun _ _ _ _ _ _ h hF => ⟨h.2.1, hF⟩
end Jvm.Pilot.@@N@@
namespace Jvm.Pilot.@@N@@
open Jvm Jvm.ClassFile Sem Op Lib Jvm.Free Jvm.Stand Jvm.Pilot.@@N@@.Jvm.D
/-! MADE BY PROGRAM (witnessworld.py) out of the Statement's table words and the real class files: 27 classes; the members and pool entries that the words name. The judged class is class 1, her method 1. -/
namespace start1
open Jvm.ClassFile
def u (s : String) : CpInfo := .utf8 (stringToUtf16 s)
/-- a pool by its gaps: so many unusable entries, then the entry; so many at the end -/
def gap : Nat → List CpInfo → List CpInfo
  | 0, r => r
  | n + 1, r => .unusable :: gap n r
def poolList (es : List (Nat × CpInfo)) (last : Nat) : List CpInfo := es.foldr (fun e r => gap e.1 (e.2 :: r)) (gap last [])
def pool (es : List (Nat × CpInfo)) (last : Nat) : Array CpInfo := ⟨poolList es last⟩
def fileOf (pool : Array CpInfo) (this : Nat) (attrs : Array Attribute := #[]) (ms : Array MethodInfo := #[]) (fl : Nat := 33) (sup : Nat := 0) (ifs : Array Nat := #[]) (fds : Array FieldInfo := #[]) : ClassFile where
  minorVersion := 0
  majorVersion := 65
  constantPool := pool
  accessFlags := fl
  thisClass := this
  superClass := sup
  interfaces := ifs
  fields := fds
  methods := ms
  attributes := attrs
def plain (name : String) (sup : Option ClassId) : Class where
  name := name
  kind := .ordinary
  loader := none
  accessFlags := 33
  super := sup
  interfaces := #[]
  cf := none
  fields := #[]
  methods := #[]
  instanceTypes := #[]
  staticTypes := #[]
  resolved := #[]
  callSites := []
  init := .initialized
  statics := none
  mirror := none

def pool0 : Array CpInfo := pool [(5, u "<init>"), (0, u "()V"), (1, .class_ 10), (1, u "java/lang/Object")] 113

def k0m0 : Method := { name := "<init>", desc := "()V", sig := { parameters := [], returnType := none }, accessFlags := 1, code := none }
/-- java/lang/Object -/
def k0 : Class := { plain "java/lang/Object" none with
  accessFlags := 33
  interfaces := #[]
  cf := some (fileOf pool0 8 #[] #[{ accessFlags := 1, nameIndex := 5, descriptorIndex := 6, attributes := #[] }] 33 0 #[] #[])
  fields := #[]
  methods := #[k0m0]
  instanceTypes := #[]
  staticTypes := #[]
  resolved := Array.replicate 124 none
  statics := none }

def pool1 : Array CpInfo := pool [(2, .class_ 4), (1, u "java/lang/Object"), (0, u "<init>"), (0, u "()V"), (0, .fieldref 8 9), (0, .class_ 10), (0, .nameAndType 11 12), (0, u "lomwright/lom/Datatype"), (0, u "AGGREGATE"), (0, u "Llomwright/lom/Datatype;"), (0, .fieldref 8 14), (0, .nameAndType 15 12), (0, u "CHARACTER_STRING"), (0, .fieldref 8 17), (0, .nameAndType 18 12), (0, u "LANGUAGE_ID"), (0, .fieldref 8 20), (0, .nameAndType 21 12), (0, u "VCARD"), (0, .fieldref 8 23), (0, .nameAndType 24 12), (0, u "LANG_STRING"), (0, .fieldref 8 26), (0, .nameAndType 27 12), (0, u "VOCABULARY"), (0, .fieldref 8 29), (0, .nameAndType 30 12), (0, u "DATE_TIME"), (0, .fieldref 8 32), (0, .nameAndType 33 12), (0, u "DURATION"), (0, .methodref 8 35), (0, .nameAndType 36 37), (0, u "holdsText"), (0, u "()Z"), (0, .methodref 8 39), (0, .nameAndType 40 41), (0, u "components"), (0, u "()Ljava/util/List;"), (0, .interfaceMethodref 43 44), (0, .class_ 45), (0, .nameAndType 46 47), (0, u "java/util/List"), (0, u "size"), (0, u "()I"), (0, .class_ 49), (0, u "lomwright/lom/DatatypeHoldsTextPinLaw"), (2, u "law"), (0, u "(I)Z")] 3

def k1m0 : Method := { name := "<init>", desc := "()V", sig := { parameters := [], returnType := none }, accessFlags := 1, code := none }
def k1c1 : Code := { maxStack := 2, maxLocals := 6, code := code, exceptionTable := #[], attributes := #[] }
def k1m1 : Method := { name := "law", desc := "(I)Z", sig := { parameters := [.int], returnType := some .boolean }, accessFlags := 9, code := some k1c1 }
/-- lomwright/lom/DatatypeHoldsTextPinLaw -/
def k1 : Class := { plain "lomwright/lom/DatatypeHoldsTextPinLaw" (some 0) with
  accessFlags := 49
  interfaces := #[]
  cf := some (fileOf pool1 48 #[] #[{ accessFlags := 1, nameIndex := 5, descriptorIndex := 6, attributes := #[] }, { accessFlags := 9, nameIndex := 52, descriptorIndex := 53, attributes := #[] }] 49 2 #[] #[])
  fields := #[]
  methods := #[k1m0, k1m1]
  instanceTypes := #[]
  staticTypes := #[]
  resolved := Array.replicate 57 none
  statics := none }

def pool2 : Array CpInfo := pool [(1, .class_ 2), (0, u "java/lang/constant/Constable"), (0, .class_ 4), (0, u "java/lang/Object")] 6

/-- java/lang/constant/Constable -/
def k2 : Class := { plain "java/lang/constant/Constable" (some 0) with
  accessFlags := 1537
  interfaces := #[]
  cf := some (fileOf pool2 1 #[] #[] 1537 3 #[] #[])
  fields := #[]
  methods := #[]
  instanceTypes := #[]
  staticTypes := #[]
  resolved := Array.replicate 11 none
  statics := none }

def pool3 : Array CpInfo := pool [(1, .class_ 2), (0, u "java/lang/Comparable"), (0, .class_ 4), (0, u "java/lang/Object")] 7

/-- java/lang/Comparable -/
def k3 : Class := { plain "java/lang/Comparable" (some 0) with
  accessFlags := 1537
  interfaces := #[]
  cf := some (fileOf pool3 1 #[] #[] 1537 3 #[] #[])
  fields := #[]
  methods := #[]
  instanceTypes := #[]
  staticTypes := #[]
  resolved := Array.replicate 12 none
  statics := none }

def pool4 : Array CpInfo := pool [(1, .class_ 2), (0, u "java/io/Serializable"), (0, .class_ 4), (0, u "java/lang/Object")] 2

/-- java/io/Serializable -/
def k4 : Class := { plain "java/io/Serializable" (some 0) with
  accessFlags := 1537
  interfaces := #[]
  cf := some (fileOf pool4 1 #[] #[] 1537 3 #[] #[])
  fields := #[]
  methods := #[]
  instanceTypes := #[]
  staticTypes := #[]
  resolved := Array.replicate 7 none
  statics := none }

def pool5 : Array CpInfo := pool [(2, .class_ 4), (1, u "java/lang/Enum"), (0, u "name"), (0, u "Ljava/lang/String;"), (2, u "ordinal"), (0, u "I"), (1, .class_ 14), (1, u "java/lang/Object"), (4, u "hash"), (86, .class_ 108), (1, u "java/lang/Enum$EnumDesc"), (2, .class_ 112), (0, u "java/lang/constant/Constable"), (0, .class_ 114), (0, u "java/lang/Comparable"), (0, .class_ 116), (0, u "java/io/Serializable")] 87

/-- java/lang/Enum -/
def k5 : Class := { plain "java/lang/Enum" (some 0) with
  accessFlags := 1057
  interfaces := #[2, 3, 4]
  cf := some (fileOf pool5 2 #[.nestMembers #[106]] #[] 1057 12 #[111, 113, 115] #[{ accessFlags := 18, nameIndex := 5, descriptorIndex := 6, attributes := #[] }, { accessFlags := 18, nameIndex := 9, descriptorIndex := 10, attributes := #[] }, { accessFlags := 2, nameIndex := 19, descriptorIndex := 10, attributes := #[] }])
  fields := #[{ name := "name", type := (.object "java/lang/String"), accessFlags := 18, slot := 0, constantValue := 0 }, { name := "ordinal", type := .int, accessFlags := 18, slot := 1, constantValue := 0 }, { name := "hash", type := .int, accessFlags := 2, slot := 2, constantValue := 0 }]
  methods := #[]
  instanceTypes := #[(.object "java/lang/String"), .int, .int]
  staticTypes := #[]
  resolved := Array.replicate 204 none
  statics := none }

def pool6 : Array CpInfo := pool [(1, .class_ 2), (0, u "lomwright/lom/Datatype"), (2, u "AGGREGATE"), (0, u "Llomwright/lom/Datatype;"), (0, .fieldref 1 8), (0, .nameAndType 9 6), (0, u "CHARACTER_STRING"), (0, .fieldref 1 11), (0, .nameAndType 12 6), (0, u "LANGUAGE_ID"), (0, .fieldref 1 14), (0, .nameAndType 15 6), (0, u "VCARD"), (2, u "LANG_STRING"), (2, u "VOCABULARY"), (2, u "DATE_TIME"), (2, u "DURATION"), (2, u "$VALUES"), (0, u "[Llomwright/lom/Datatype;"), (6, .class_ 40), (1, u "java/lang/Enum"), (12, .fieldref 1 54), (0, .nameAndType 55 56), (0, u "components"), (0, u "Ljava/util/List;"), (44, u "()Ljava/util/List;"), (1, u "holdsText"), (0, u "()Z")] 7

def k6c0 : Code := { maxStack := 1, maxLocals := 1, code := prog_41_method_4_code, exceptionTable := #[], attributes := #[] }
def k6m0 : Method := { name := "components", desc := "()Ljava/util/List;", sig := { parameters := [], returnType := some (.object "java/util/List") }, accessFlags := 1, code := some k6c0 }
def k6c1 : Code := { maxStack := 2, maxLocals := 1, code := prog_41_method_5_code, exceptionTable := #[], attributes := #[] }
def k6m1 : Method := { name := "holdsText", desc := "()Z", sig := { parameters := [], returnType := some .boolean }, accessFlags := 1, code := some k6c1 }
/-- lomwright/lom/Datatype -/
def k6 : Class := { plain "lomwright/lom/Datatype" (some 5) with
  accessFlags := 16433
  interfaces := #[]
  cf := some (fileOf pool6 1 #[] #[{ accessFlags := 1, nameIndex := 55, descriptorIndex := 101, attributes := #[] }, { accessFlags := 1, nameIndex := 103, descriptorIndex := 104, attributes := #[] }] 16433 38 #[] #[{ accessFlags := 16409, nameIndex := 5, descriptorIndex := 6, attributes := #[] }, { accessFlags := 16409, nameIndex := 9, descriptorIndex := 6, attributes := #[] }, { accessFlags := 16409, nameIndex := 12, descriptorIndex := 6, attributes := #[] }, { accessFlags := 16409, nameIndex := 15, descriptorIndex := 6, attributes := #[] }, { accessFlags := 16409, nameIndex := 18, descriptorIndex := 6, attributes := #[] }, { accessFlags := 16409, nameIndex := 21, descriptorIndex := 6, attributes := #[] }, { accessFlags := 16409, nameIndex := 24, descriptorIndex := 6, attributes := #[] }, { accessFlags := 16409, nameIndex := 27, descriptorIndex := 6, attributes := #[] }, { accessFlags := 18, nameIndex := 55, descriptorIndex := 56, attributes := #[] }, { accessFlags := 4122, nameIndex := 30, descriptorIndex := 31, attributes := #[] }])
  fields := #[{ name := "AGGREGATE", type := (.object "lomwright/lom/Datatype"), accessFlags := 16409, slot := 0, constantValue := 0 }, { name := "CHARACTER_STRING", type := (.object "lomwright/lom/Datatype"), accessFlags := 16409, slot := 1, constantValue := 0 }, { name := "LANGUAGE_ID", type := (.object "lomwright/lom/Datatype"), accessFlags := 16409, slot := 2, constantValue := 0 }, { name := "VCARD", type := (.object "lomwright/lom/Datatype"), accessFlags := 16409, slot := 3, constantValue := 0 }, { name := "LANG_STRING", type := (.object "lomwright/lom/Datatype"), accessFlags := 16409, slot := 4, constantValue := 0 }, { name := "VOCABULARY", type := (.object "lomwright/lom/Datatype"), accessFlags := 16409, slot := 5, constantValue := 0 }, { name := "DATE_TIME", type := (.object "lomwright/lom/Datatype"), accessFlags := 16409, slot := 6, constantValue := 0 }, { name := "DURATION", type := (.object "lomwright/lom/Datatype"), accessFlags := 16409, slot := 7, constantValue := 0 }, { name := "components", type := (.object "java/util/List"), accessFlags := 18, slot := 3, constantValue := 0 }, { name := "$VALUES", type := (.array (.object "lomwright/lom/Datatype")), accessFlags := 4122, slot := 8, constantValue := 0 }]
  methods := #[k6m0, k6m1]
  instanceTypes := #[(.object "java/lang/String"), .int, .int, (.object "java/util/List")]
  staticTypes := #[(.object "lomwright/lom/Datatype"), (.object "lomwright/lom/Datatype"), (.object "lomwright/lom/Datatype"), (.object "lomwright/lom/Datatype"), (.object "lomwright/lom/Datatype"), (.object "lomwright/lom/Datatype"), (.object "lomwright/lom/Datatype"), (.object "lomwright/lom/Datatype"), (.array (.object "lomwright/lom/Datatype"))]
  resolved := Array.replicate 112 none
  statics := some 0 }

def pool7 : Array CpInfo := pool [(8, .class_ 10), (1, u "java/lang/Iterable"), (24, .class_ 36), (0, u "java/lang/Object")] 25

/-- java/lang/Iterable -/
def k7 : Class := { plain "java/lang/Iterable" (some 0) with
  accessFlags := 1537
  interfaces := #[]
  cf := some (fileOf pool7 8 #[] #[] 1537 35 #[] #[])
  fields := #[]
  methods := #[]
  instanceTypes := #[]
  staticTypes := #[]
  resolved := Array.replicate 62 none
  statics := none }

def pool8 : Array CpInfo := pool [(10, .class_ 12), (1, u "java/util/Collection"), (47, .class_ 61), (0, u "java/lang/Object"), (0, .class_ 63), (0, u "java/lang/Iterable")] 51

/-- java/util/Collection -/
def k8 : Class := { plain "java/util/Collection" (some 0) with
  accessFlags := 1537
  interfaces := #[7]
  cf := some (fileOf pool8 10 #[] #[] 1537 60 #[62] #[])
  fields := #[]
  methods := #[]
  instanceTypes := #[]
  staticTypes := #[]
  resolved := Array.replicate 115 none
  statics := none }

def pool9 : Array CpInfo := pool [(8, .class_ 10), (1, u "java/util/SequencedCollection"), (15, .class_ 27), (0, u "java/lang/Object"), (0, .class_ 29), (0, u "java/util/Collection")] 27

/-- java/util/SequencedCollection -/
def k9 : Class := { plain "java/util/SequencedCollection" (some 0) with
  accessFlags := 1537
  interfaces := #[8]
  cf := some (fileOf pool9 8 #[] #[] 1537 26 #[28] #[])
  fields := #[]
  methods := #[]
  instanceTypes := #[]
  staticTypes := #[]
  resolved := Array.replicate 57 none
  statics := none }

def pool10 : Array CpInfo := pool [(8, .class_ 10), (1, u "java/util/List"), (68, u "size"), (0, u "()I"), (22, .class_ 104), (0, u "java/lang/Object"), (15, .class_ 121), (0, u "java/util/SequencedCollection")] 129

def k10m0 : Method := { name := "size", desc := "()I", sig := { parameters := [], returnType := some .int }, accessFlags := 1025, code := none }
/-- java/util/List -/
def k10 : Class := { plain "java/util/List" (some 0) with
  accessFlags := 1537
  interfaces := #[9]
  cf := some (fileOf pool10 8 #[] #[{ accessFlags := 1025, nameIndex := 79, descriptorIndex := 80, attributes := #[] }] 1537 103 #[120] #[])
  fields := #[]
  methods := #[k10m0]
  instanceTypes := #[]
  staticTypes := #[]
  resolved := Array.replicate 251 none
  statics := none }

def pool11 : Array CpInfo := pool [(2, .class_ 4), (1, u "java/lang/Object"), (0, u "<init>"), (0, u "()V"), (1, .class_ 10), (1, u "java/util/AbstractCollection"), (66, .class_ 78), (0, u "java/util/Collection")] 81

def k11m0 : Method := { name := "<init>", desc := "()V", sig := { parameters := [], returnType := none }, accessFlags := 4, code := none }
/-- java/util/AbstractCollection -/
def k11 : Class := { plain "java/util/AbstractCollection" (some 0) with
  accessFlags := 1057
  interfaces := #[8]
  cf := some (fileOf pool11 8 #[] #[{ accessFlags := 4, nameIndex := 5, descriptorIndex := 6, attributes := #[] }] 1057 2 #[77] #[])
  fields := #[]
  methods := #[k11m0]
  instanceTypes := #[]
  staticTypes := #[]
  resolved := Array.replicate 160 none
  statics := none }

def pool12 : Array CpInfo := pool [(2, .class_ 4), (1, u "java/util/AbstractCollection"), (0, u "<init>"), (0, u "()V"), (1, .class_ 10), (1, u "java/util/ImmutableCollections"), (2, .class_ 14), (0, u "java/util/ImmutableCollections$AbstractImmutableCollection")] 41

def k12m0 : Method := { name := "<init>", desc := "()V", sig := { parameters := [], returnType := none }, accessFlags := 0, code := none }
/-- java/util/ImmutableCollections$AbstractImmutableCollection -/
def k12 : Class := { plain "java/util/ImmutableCollections$AbstractImmutableCollection" (some 11) with
  accessFlags := 1056
  interfaces := #[]
  cf := some (fileOf pool12 13 #[.nestHost 8] #[{ accessFlags := 0, nameIndex := 5, descriptorIndex := 6, attributes := #[] }] 1056 2 #[] #[])
  fields := #[]
  methods := #[k12m0]
  instanceTypes := #[]
  staticTypes := #[]
  resolved := Array.replicate 56 none
  statics := none }

def pool13 : Array CpInfo := pool [(1, .class_ 2), (0, u "java/util/RandomAccess"), (0, .class_ 4), (0, u "java/lang/Object")] 2

/-- java/util/RandomAccess -/
def k13 : Class := { plain "java/util/RandomAccess" (some 0) with
  accessFlags := 1537
  interfaces := #[]
  cf := some (fileOf pool13 1 #[] #[] 1537 3 #[] #[])
  fields := #[]
  methods := #[]
  instanceTypes := #[]
  staticTypes := #[]
  resolved := Array.replicate 7 none
  statics := none }

def pool14 : Array CpInfo := pool [(2, .class_ 4), (1, u "java/util/ImmutableCollections$AbstractImmutableCollection"), (0, u "<init>"), (0, u "()V"), (1, .class_ 10), (1, u "java/util/ImmutableCollections"), (3, .class_ 16), (1, u "java/util/ImmutableCollections$AbstractImmutableList"), (60, .class_ 78), (0, u "java/util/List"), (45, .class_ 125), (0, u "java/util/RandomAccess")] 70

def k14m0 : Method := { name := "<init>", desc := "()V", sig := { parameters := [], returnType := none }, accessFlags := 0, code := none }
/-- java/util/ImmutableCollections$AbstractImmutableList -/
def k14 : Class := { plain "java/util/ImmutableCollections$AbstractImmutableList" (some 12) with
  accessFlags := 1056
  interfaces := #[10, 13]
  cf := some (fileOf pool14 14 #[.nestHost 8] #[{ accessFlags := 0, nameIndex := 5, descriptorIndex := 6, attributes := #[] }] 1056 2 #[77, 124] #[])
  fields := #[]
  methods := #[k14m0]
  instanceTypes := #[]
  staticTypes := #[]
  resolved := Array.replicate 196 none
  statics := none }

def pool15 : Array CpInfo := pool [(2, .class_ 4), (1, u "java/util/ImmutableCollections$AbstractImmutableList"), (2, .fieldref 8 9), (0, .class_ 10), (0, .nameAndType 11 12), (0, u "java/util/ImmutableCollections$ListN"), (0, u "elements"), (0, u "[Ljava/lang/Object;"), (2, u "allowNulls"), (0, u "Z"), (42, .class_ 60), (0, u "java/io/Serializable"), (16, u "size"), (0, u "()I"), (35, .class_ 115), (0, u "java/util/ImmutableCollections")] 3

def k15c0 : Code := { maxStack := 1, maxLocals := 1, code := jdk_45_method_3_code, exceptionTable := #[], attributes := #[] }
def k15m0 : Method := { name := "size", desc := "()I", sig := { parameters := [], returnType := some .int }, accessFlags := 1, code := some k15c0 }
/-- java/util/ImmutableCollections$ListN -/
def k15 : Class := { plain "java/util/ImmutableCollections$ListN" (some 14) with
  accessFlags := 48
  interfaces := #[4]
  cf := some (fileOf pool15 8 #[.nestHost 114] #[{ accessFlags := 1, nameIndex := 77, descriptorIndex := 78, attributes := #[] }] 48 2 #[59] #[{ accessFlags := 18, nameIndex := 11, descriptorIndex := 12, attributes := #[] }, { accessFlags := 18, nameIndex := 15, descriptorIndex := 16, attributes := #[] }])
  fields := #[{ name := "elements", type := (.array (.object "java/lang/Object")), accessFlags := 18, slot := 0, constantValue := 0 }, { name := "allowNulls", type := .boolean, accessFlags := 18, slot := 1, constantValue := 0 }]
  methods := #[k15m0]
  instanceTypes := #[(.array (.object "java/lang/Object")), .boolean]
  staticTypes := #[]
  resolved := Array.replicate 119 none
  statics := none }

def pool16 : Array CpInfo := pool [(2, .class_ 4), (1, u "java/util/ImmutableCollections$AbstractImmutableList"), (9, .class_ 16), (1, u "java/util/ImmutableCollections$List12"), (0, u "e0"), (0, u "Ljava/lang/Object;"), (0, .fieldref 20 21), (0, .class_ 22), (0, .nameAndType 23 18), (0, u "java/util/ImmutableCollections"), (0, u "EMPTY"), (0, .fieldref 14 25), (0, .nameAndType 26 18), (0, u "e1"), (24, u "size"), (0, u "()I"), (17, .class_ 71), (0, u "java/io/Serializable")] 53

def k16c0 : Code := { maxStack := 2, maxLocals := 1, code := jdk_44_method_3_code, exceptionTable := #[], attributes := #[] }
def k16m0 : Method := { name := "size", desc := "()I", sig := { parameters := [], returnType := some .int }, accessFlags := 1, code := some k16c0 }
/-- java/util/ImmutableCollections$List12 -/
def k16 : Class := { plain "java/util/ImmutableCollections$List12" (some 14) with
  accessFlags := 48
  interfaces := #[4]
  cf := some (fileOf pool16 14 #[.nestHost 20] #[{ accessFlags := 1, nameIndex := 51, descriptorIndex := 52, attributes := #[] }] 48 2 #[70] #[{ accessFlags := 18, nameIndex := 17, descriptorIndex := 18, attributes := #[] }, { accessFlags := 18, nameIndex := 26, descriptorIndex := 18, attributes := #[] }])
  fields := #[{ name := "e0", type := (.object "java/lang/Object"), accessFlags := 18, slot := 0, constantValue := 0 }, { name := "e1", type := (.object "java/lang/Object"), accessFlags := 18, slot := 1, constantValue := 0 }]
  methods := #[k16m0]
  instanceTypes := #[(.object "java/lang/Object"), (.object "java/lang/Object")]
  staticTypes := #[]
  resolved := Array.replicate 125 none
  statics := none }

def pool17 : Array CpInfo := pool [(2, .class_ 4), (1, u "java/lang/Object"), (0, u "<init>"), (0, u "()V"), (3, .class_ 11), (0, u "java/util/ImmutableCollections$List12"), (0, .class_ 13), (0, u "java/util/ImmutableCollections$ListN"), (3, u "Z"), (29, .class_ 49), (1, u "java/util/ImmutableCollections"), (0, u "$assertionsDisabled"), (5, u "[Ljava/lang/Object;"), (5, u "EMPTY_LIST"), (0, u "Ljava/util/ImmutableCollections$ListN;"), (8, u "EMPTY_LIST_NULLS"), (22, u "SALT32L"), (0, u "J"), (2, u "REVERSE"), (6, u "archivedObjects"), (2, u "EMPTY"), (0, u "Ljava/lang/Object;"), (0, .class_ 112), (0, u "java/util/ImmutableCollections$SetN"), (5, u "EMPTY_SET"), (0, u "Ljava/util/ImmutableCollections$SetN;"), (0, .class_ 121), (0, u "java/util/ImmutableCollections$MapN"), (3, u "EMPTY_MAP"), (0, u "Ljava/util/ImmutableCollections$MapN;"), (4, u "EXPAND_FACTOR"), (0, u "I"), (36, .class_ 170), (0, u "java/util/ImmutableCollections$MapN$MapNIterator"), (0, .class_ 172), (0, u "java/util/ImmutableCollections$MapN$1"), (0, .class_ 174), (0, u "java/util/ImmutableCollections$Map1"), (0, .class_ 176), (0, u "java/util/ImmutableCollections$AbstractImmutableMap"), (0, .class_ 178), (0, u "java/util/ImmutableCollections$SetN$SetNIterator"), (0, .class_ 180), (0, u "java/util/ImmutableCollections$Set12"), (0, .class_ 182), (0, u "java/util/ImmutableCollections$Set12$1"), (0, .class_ 184), (0, u "java/util/ImmutableCollections$AbstractImmutableSet"), (0, .class_ 186), (0, u "java/util/ImmutableCollections$SubList"), (0, .class_ 188), (0, u "java/util/ImmutableCollections$ListItr"), (0, .class_ 190), (0, u "java/util/ImmutableCollections$AbstractImmutableList"), (0, .class_ 192), (0, u "java/util/ImmutableCollections$AbstractImmutableCollection"), (0, .class_ 194), (0, u "java/util/ImmutableCollections$Access"), (0, .class_ 196), (0, u "java/util/ImmutableCollections$Access$1")] 16

def k17m0 : Method := { name := "<init>", desc := "()V", sig := { parameters := [], returnType := none }, accessFlags := 2, code := none }
/-- java/util/ImmutableCollections -/
def k17 : Class := { plain "java/util/ImmutableCollections" (some 0) with
  accessFlags := 32
  interfaces := #[]
  cf := some (fileOf pool17 47 #[.nestMembers #[120, 169, 171, 173, 175, 111, 177, 179, 181, 183, 12, 10, 185, 187, 189, 191, 193, 195]] #[{ accessFlags := 2, nameIndex := 5, descriptorIndex := 6, attributes := #[] }] 32 2 #[] #[{ accessFlags := 26, nameIndex := 95, descriptorIndex := 96, attributes := #[] }, { accessFlags := 26, nameIndex := 99, descriptorIndex := 17, attributes := #[] }, { accessFlags := 10, nameIndex := 106, descriptorIndex := 56, attributes := #[] }, { accessFlags := 26, nameIndex := 109, descriptorIndex := 110, attributes := #[] }, { accessFlags := 24, nameIndex := 62, descriptorIndex := 63, attributes := #[] }, { accessFlags := 24, nameIndex := 72, descriptorIndex := 63, attributes := #[] }, { accessFlags := 24, nameIndex := 118, descriptorIndex := 119, attributes := #[] }, { accessFlags := 24, nameIndex := 125, descriptorIndex := 126, attributes := #[] }, { accessFlags := 24, nameIndex := 131, descriptorIndex := 132, attributes := #[] }, { accessFlags := 4120, nameIndex := 50, descriptorIndex := 17, attributes := #[] }])
  fields := #[{ name := "SALT32L", type := .long, accessFlags := 26, slot := 0, constantValue := 0 }, { name := "REVERSE", type := .boolean, accessFlags := 26, slot := 1, constantValue := 0 }, { name := "archivedObjects", type := (.array (.object "java/lang/Object")), accessFlags := 10, slot := 2, constantValue := 0 }, { name := "EMPTY", type := (.object "java/lang/Object"), accessFlags := 26, slot := 3, constantValue := 0 }, { name := "EMPTY_LIST", type := (.object "java/util/ImmutableCollections$ListN"), accessFlags := 24, slot := 4, constantValue := 0 }, { name := "EMPTY_LIST_NULLS", type := (.object "java/util/ImmutableCollections$ListN"), accessFlags := 24, slot := 5, constantValue := 0 }, { name := "EMPTY_SET", type := (.object "java/util/ImmutableCollections$SetN"), accessFlags := 24, slot := 6, constantValue := 0 }, { name := "EMPTY_MAP", type := (.object "java/util/ImmutableCollections$MapN"), accessFlags := 24, slot := 7, constantValue := 0 }, { name := "EXPAND_FACTOR", type := .int, accessFlags := 24, slot := 8, constantValue := 0 }, { name := "$assertionsDisabled", type := .boolean, accessFlags := 4120, slot := 9, constantValue := 0 }]
  methods := #[k17m0]
  instanceTypes := #[]
  staticTypes := #[.long, .boolean, (.array (.object "java/lang/Object")), (.object "java/lang/Object"), (.object "java/util/ImmutableCollections$ListN"), (.object "java/util/ImmutableCollections$ListN"), (.object "java/util/ImmutableCollections$SetN"), (.object "java/util/ImmutableCollections$MapN"), .int, .boolean]
  resolved := Array.replicate 213 none
  statics := some 1 }

def pool18 : Array CpInfo := pool [(2, .class_ 4), (1, u "java/lang/CharSequence"), (42, .class_ 48), (0, u "java/lang/CharSequence$1CodePointIterator"), (10, .class_ 60), (0, u "java/lang/CharSequence$1CharIterator"), (5, .class_ 67), (0, u "java/lang/Object")] 63

/-- java/lang/CharSequence -/
def k18 : Class := { plain "java/lang/CharSequence" (some 0) with
  accessFlags := 1537
  interfaces := #[]
  cf := some (fileOf pool18 2 #[.nestMembers #[47, 59]] #[] 1537 66 #[] #[])
  fields := #[]
  methods := #[]
  instanceTypes := #[]
  staticTypes := #[]
  resolved := Array.replicate 131 none
  statics := none }

def pool19 : Array CpInfo := pool [(1, .class_ 2), (0, u "java/lang/constant/ConstantDesc"), (0, .class_ 4), (0, u "java/lang/Object")] 32

/-- java/lang/constant/ConstantDesc -/
def k19 : Class := { plain "java/lang/constant/ConstantDesc" (some 0) with
  accessFlags := 1537
  interfaces := #[]
  cf := some (fileOf pool19 1 #[] #[] 1537 3 #[] #[])
  fields := #[]
  methods := #[]
  instanceTypes := #[]
  staticTypes := #[]
  resolved := Array.replicate 37 none
  statics := none }

def pool20 : Array CpInfo := pool [(2, .class_ 4), (1, u "java/lang/Object"), (0, u "<init>"), (0, u "()V"), (3, .class_ 12), (1, u "java/lang/String"), (0, u "value"), (0, u "[B"), (2, u "coder"), (0, u "B"), (2, u "hash"), (0, u "I"), (2, u "hashIsZero"), (0, u "Z"), (13, u "COMPACT_STRINGS"), (534, .class_ 576), (0, u "java/lang/CharSequence"), (22, u "CASE_INSENSITIVE_ORDER"), (0, u "Ljava/util/Comparator;"), (500, u "serialPersistentFields"), (0, u "[Ljava/io/ObjectStreamField;"), (0, .class_ 1104), (0, u "java/lang/String$CaseInsensitiveComparator"), (1, .class_ 1107), (0, u "java/io/Serializable"), (0, .class_ 1109), (0, u "java/lang/Comparable"), (0, .class_ 1111), (0, u "java/lang/constant/Constable"), (0, .class_ 1113), (0, u "java/lang/constant/ConstantDesc"), (2, u "serialVersionUID"), (0, u "J"), (3, u "REPL"), (0, u "C"), (2, u "LATIN1"), (1, u "UTF16")] 323

def k20m0 : Method := { name := "<init>", desc := "()V", sig := { parameters := [], returnType := none }, accessFlags := 1, code := none }
/-- java/lang/String -/
def k20 : Class := { plain "java/lang/String" (some 0) with
  accessFlags := 49
  interfaces := #[4, 3, 18, 2, 19]
  cf := some (fileOf pool20 10 #[.nestMembers #[1103]] #[{ accessFlags := 1, nameIndex := 5, descriptorIndex := 6, attributes := #[] }] 49 2 #[1106, 1108, 575, 1110, 1112] #[{ accessFlags := 18, nameIndex := 13, descriptorIndex := 14, attributes := #[] }, { accessFlags := 18, nameIndex := 17, descriptorIndex := 18, attributes := #[] }, { accessFlags := 2, nameIndex := 21, descriptorIndex := 22, attributes := #[] }, { accessFlags := 2, nameIndex := 25, descriptorIndex := 26, attributes := #[] }, { accessFlags := 26, nameIndex := 1116, descriptorIndex := 1117, attributes := #[] }, { accessFlags := 24, nameIndex := 40, descriptorIndex := 26, attributes := #[] }, { accessFlags := 26, nameIndex := 1101, descriptorIndex := 1102, attributes := #[] }, { accessFlags := 26, nameIndex := 1121, descriptorIndex := 1122, attributes := #[] }, { accessFlags := 25, nameIndex := 599, descriptorIndex := 600, attributes := #[] }, { accessFlags := 24, nameIndex := 1125, descriptorIndex := 18, attributes := #[] }, { accessFlags := 24, nameIndex := 1127, descriptorIndex := 18, attributes := #[] }])
  fields := #[{ name := "value", type := (.array .byte), accessFlags := 18, slot := 0, constantValue := 0 }, { name := "coder", type := .byte, accessFlags := 18, slot := 1, constantValue := 0 }, { name := "hash", type := .int, accessFlags := 2, slot := 2, constantValue := 0 }, { name := "hashIsZero", type := .boolean, accessFlags := 2, slot := 3, constantValue := 0 }, { name := "serialVersionUID", type := .long, accessFlags := 26, slot := 0, constantValue := 0 }, { name := "COMPACT_STRINGS", type := .boolean, accessFlags := 24, slot := 1, constantValue := 0 }, { name := "serialPersistentFields", type := (.array (.object "java/io/ObjectStreamField")), accessFlags := 26, slot := 2, constantValue := 0 }, { name := "REPL", type := .char, accessFlags := 26, slot := 3, constantValue := 0 }, { name := "CASE_INSENSITIVE_ORDER", type := (.object "java/util/Comparator"), accessFlags := 25, slot := 4, constantValue := 0 }, { name := "LATIN1", type := .byte, accessFlags := 24, slot := 5, constantValue := 0 }, { name := "UTF16", type := .byte, accessFlags := 24, slot := 6, constantValue := 0 }]
  methods := #[k20m0]
  instanceTypes := #[(.array .byte), .byte, .int, .boolean]
  staticTypes := #[.long, .boolean, (.array (.object "java/io/ObjectStreamField")), .char, (.object "java/util/Comparator"), .byte, .byte]
  resolved := Array.replicate 1451 none
  statics := none }

def pool21 : Array CpInfo := pool [(1, u "java/lang/Cloneable"), (0, .class_ 1), (0, u "java/lang/Object"), (0, .class_ 3)] 3

/-- java/lang/Cloneable -/
def k21 : Class := { plain "java/lang/Cloneable" (some 0) with
  accessFlags := 1537
  interfaces := #[]
  cf := some (fileOf pool21 2 #[] #[] 1537 4 #[] #[])
  fields := #[]
  methods := #[]
  instanceTypes := #[]
  staticTypes := #[]
  resolved := Array.replicate 8 none
  statics := none }

/-- the primitive byte -/
def k22 : Class := { plain "byte" none with kind := .primitive 'B', accessFlags := 0x411 }
/-- [B -/
def k23 : Class := { plain "[B" (some 0) with kind := .array 22 .byte, interfaces := #[21, 4], accessFlags := 1041 }

/-- the primitive int -/
def k24 : Class := { plain "int" none with kind := .primitive 'I', accessFlags := 0x411 }
/-- [I -/
def k25 : Class := { plain "[I" (some 0) with kind := .array 24 .int, interfaces := #[21, 4], accessFlags := 1041 }

/-- [Ljava/lang/Object; -/
def k26 : Class := { plain "[Ljava/lang/Object;" (some 0) with kind := .array 0 (.object "java/lang/Object"), interfaces := #[21, 4], accessFlags := 1041 }

def heap : Heap := #[{ cls := 6, slots := #[.ref 10, .ref 11, .ref 12, .ref 13, .ref 14, .ref 15, .ref 16, .ref 17, .null], vm := .statics 6 },
  { cls := 17, slots := #[.long 0, .int 0, .null, .ref 3, .ref 5, .null, .null, .null, .int 0, .int 1], vm := .statics 17 },
  { cls := 26, slots := #[], vm := .none },
  { cls := 0, slots := #[], vm := .none },
  { cls := 20, slots := #[.null, .int 0, .int 0, .int 0], vm := .none },
  { cls := 15, slots := #[.ref 2, .int 0], vm := .none },
  { cls := 16, slots := #[.ref 4, .ref 3], vm := .none },
  { cls := 16, slots := #[.ref 4, .ref 4], vm := .none },
  { cls := 16, slots := #[.ref 4, .ref 4], vm := .none },
  { cls := 16, slots := #[.ref 4, .ref 4], vm := .none },
  { cls := 6, slots := #[.null, .int 0, .int 0, .ref 5], vm := .none },
  { cls := 6, slots := #[.null, .int 1, .int 0, .ref 5], vm := .none },
  { cls := 6, slots := #[.null, .int 2, .int 0, .ref 5], vm := .none },
  { cls := 6, slots := #[.null, .int 3, .int 0, .ref 5], vm := .none },
  { cls := 6, slots := #[.null, .int 4, .int 0, .ref 6], vm := .none },
  { cls := 6, slots := #[.null, .int 5, .int 0, .ref 7], vm := .none },
  { cls := 6, slots := #[.null, .int 6, .int 0, .ref 8], vm := .none },
  { cls := 6, slots := #[.null, .int 7, .int 0, .ref 9], vm := .none }]
def classes : Array Class := #[k0, k1, k2, k3, k4, k5, k6, k7, k8, k9, k10, k11, k12, k13, k14, k15, k16, k17, k18, k19, k20, k21, k22, k23, k24, k25, k26]
def interned : List (Array UInt16 × Addr) := []
def slotsUsed : Nat := 65
def theMethod : MethodId := ⟨1, 1⟩
def args0 : Array Value := #[.int 5]
def aboutOver (below : List Frame) : State where
  vm := { classes := classes, interned := interned.toArray }
  heap := heap
  slotsUsed := slotsUsed
  threads := #[{ frames := .invoking theMethod args0 :: below }]
def below0 : List Frame := [.native { method := ⟨0, 0⟩, args := #[] }]
def about1 : State := aboutOver below0
def p0 : Program := .bare "" "" ""
def e0 : Env := launch0.env 0 0 0
theorem w_frames : about1.frames = Frame.invoking theMethod args0 :: below0 := rfl
set_option maxRecDepth 65536 in
theorem w_args : argsFit about1.vm theMethod args0 = true := by decide +kernel
set_option maxRecDepth 65536 in
theorem w_heap : heapFits about1 = true := by decide +kernel
set_option maxRecDepth 65536 in
theorem w_runnable : about1.curStatus? = some .runnable := by decide +kernel
set_option maxRecDepth 65536 in
theorem w_alone : about1.alone = true := by decide +kernel
set_option maxRecDepth 65536 in
theorem w_named : about1.methodNamed? x = some theMethod := by decide +kernel
set_option maxRecDepth 65536 in
theorem w_hears : about1.hears theMethod below0 = true := by decide +kernel
set_option maxRecDepth 65536 in
theorem w_ripe : about1.ripe theMethod args0 below0 = true := by decide +kernel
theorem w_running : about1.status = .running := rfl
set_option maxRecDepth 65536 in
theorem w_room : about1.hasRoom e0.platform room_1 = true :=
  launch0.hasRoom_least _ room_1 (by decide +kernel) (by decide +kernel) (by decide +kernel) (by decide +kernel) (by decide +kernel) (by decide +kernel)
theorem allAtoms_all (ts : List Jvm.Cond) (a : Array Jvm.Value) (st : Jvm.State) : (allAtoms ts).before a st = ts.all (fun c => c.before a st) := by
  induction ts with
  | nil => rfl
  | cons c t ih =>
    show (Jvm.Cond.and c (allAtoms t)).before a st = _
    rw [Jvm.Cond.before_and, ih, List.all_cons]
def words1 : List Jvm.Cond := Jvm.Cond.code x code maxLocals ret :: tables_1
/-- a 'code' word, met by the world's own term for the bytes: nothing is compared byte by byte -/
theorem code_word {y : MethodName} {bytes : ByteArray} {mx : Nat} {rt : Option FieldType} {a : Array Value} {s : State} {m : MethodId} {meth : Method} {c : Code} (h1 : s.methodNamed? y = some m) (h2 : s.vm.method? m = some meth) (h3 : meth.code = some c) (h4 : c.code = bytes)
    (h5 : (c.maxLocals == mx && c.exceptionTable.isEmpty && decide (c.maxStack ≤ mostOperands) && decide (meth.sig.returnType = rt) && !meth.locks && decide (parseMethodDescriptor y.desc = some meth.sig)) = true) : (Jvm.Cond.code y bytes mx rt).before a s = true := by
  simp only [Bool.and_eq_true, beq_iff_eq, Bool.not_eq_true', decide_eq_true_eq] at h5
  obtain ⟨⟨⟨⟨⟨g1, g2⟩, g3⟩, g4⟩, g5⟩, g6⟩ := h5
  simp [Cond.before, Cond.holds, Cond.value, h1, h2, h3, h4, g1, g2, g3, g4, g5, g6]
def isCode : Jvm.Cond → Bool
  | .code _ _ _ _ => true
  | _ => false
theorem all_split {L : List Jvm.Cond} {P : Jvm.Cond → Bool} (h1 : L.all (fun c => isCode c || P c) = true) (h2 : ∀ c ∈ L.filter isCode, P c = true) : L.all P = true := by
  refine List.all_eq_true.mpr fun c hc => ?_
  have h := List.all_eq_true.mp h1 c hc
  rcases Bool.eq_false_or_eq_true (isCode c) with hi | hi
  · exact h2 c (List.mem_filter.mpr ⟨hc, hi⟩)
  · simpa [hi] using h
set_option maxRecDepth 65536 in
theorem w_c0 : (Jvm.Cond.code x code maxLocals ret).before args0 about1 = true := code_word (m := ⟨1, 1⟩) (meth := k1m1) (c := k1c1) (by decide +kernel) rfl rfl rfl (by decide +kernel)
set_option maxRecDepth 65536 in
theorem w_c1 : (Jvm.Cond.code ({ cls := "lomwright/lom/Datatype", name := "holdsText", desc := "()Z" } : Jvm.MethodName) prog_41_method_5_code (1 : Nat) (Option.some Jvm.ClassFile.FieldType.boolean)).before args0 about1 = true := code_word (m := ⟨6, 1⟩) (meth := k6m1) (c := k6c1) (by decide +kernel) rfl rfl rfl (by decide +kernel)
set_option maxRecDepth 65536 in
theorem w_c2 : (Jvm.Cond.code ({ cls := "lomwright/lom/Datatype", name := "components", desc := "()Ljava/util/List;" } : Jvm.MethodName) prog_41_method_4_code (1 : Nat) (Option.some (Jvm.ClassFile.FieldType.object "java/util/List"))).before args0 about1 = true := code_word (m := ⟨6, 0⟩) (meth := k6m0) (c := k6c0) (by decide +kernel) rfl rfl rfl (by decide +kernel)
set_option maxRecDepth 65536 in
theorem w_c3 : (Jvm.Cond.code ({ cls := "java/util/ImmutableCollections$ListN", name := "size", desc := "()I" } : Jvm.MethodName) jdk_45_method_3_code (1 : Nat) (Option.some Jvm.ClassFile.FieldType.int)).before args0 about1 = true := code_word (m := ⟨15, 0⟩) (meth := k15m0) (c := k15c0) (by decide +kernel) rfl rfl rfl (by decide +kernel)
set_option maxRecDepth 65536 in
theorem w_c4 : (Jvm.Cond.code ({ cls := "java/util/ImmutableCollections$List12", name := "size", desc := "()I" } : Jvm.MethodName) jdk_44_method_3_code (1 : Nat) (Option.some Jvm.ClassFile.FieldType.int)).before args0 about1 = true := code_word (m := ⟨16, 0⟩) (meth := k16m0) (c := k16c0) (by decide +kernel) rfl rfl rfl (by decide +kernel)
def codes1 : List Jvm.Cond := [Jvm.Cond.code x code maxLocals ret, Jvm.Cond.code ({ cls := "lomwright/lom/Datatype", name := "holdsText", desc := "()Z" } : Jvm.MethodName) prog_41_method_5_code (1 : Nat) (Option.some Jvm.ClassFile.FieldType.boolean), Jvm.Cond.code ({ cls := "lomwright/lom/Datatype", name := "components", desc := "()Ljava/util/List;" } : Jvm.MethodName) prog_41_method_4_code (1 : Nat) (Option.some (Jvm.ClassFile.FieldType.object "java/util/List")), Jvm.Cond.code ({ cls := "java/util/ImmutableCollections$ListN", name := "size", desc := "()I" } : Jvm.MethodName) jdk_45_method_3_code (1 : Nat) (Option.some Jvm.ClassFile.FieldType.int), Jvm.Cond.code ({ cls := "java/util/ImmutableCollections$List12", name := "size", desc := "()I" } : Jvm.MethodName) jdk_44_method_3_code (1 : Nat) (Option.some Jvm.ClassFile.FieldType.int)]
set_option maxRecDepth 65536 in
theorem codes_eq : words1.filter isCode = codes1 := rfl
theorem w_codes : ∀ c ∈ words1.filter isCode, c.before args0 about1 = true := by
  rw [codes_eq]
  intro c hc
  simp only [codes1, List.mem_cons, List.not_mem_nil, or_false] at hc
  rcases hc with rfl | rfl | rfl | rfl | rfl
  · exact w_c0
  · exact w_c1
  · exact w_c2
  · exact w_c3
  · exact w_c4
set_option maxRecDepth 65536 in
theorem w_t1 : (words1.take 24).all (fun c => isCode c || c.before args0 about1) = true := by decide +kernel
set_option maxRecDepth 65536 in
theorem w_t2 : ((words1.drop 24).take 24).all (fun c => isCode c || c.before args0 about1) = true := by decide +kernel
set_option maxRecDepth 65536 in
theorem w_t3 : ((words1.drop 24).drop 24).all (fun c => isCode c || c.before args0 about1) = true := by decide +kernel
theorem w_tables : (allAtoms (Jvm.Cond.code x code maxLocals ret :: tables_1)).before args0 about1 = true := by
  rw [allAtoms_all]
  show words1.all (fun c => c.before args0 about1) = true
  refine all_split ?_ w_codes
  rw [← List.take_append_drop 24 words1, List.all_append, w_t1, ← List.take_append_drop 24 (words1.drop 24), List.all_append, w_t2, w_t3]
  rfl
set_option maxRecDepth 65536 in
theorem w_rest : rest_1_c.before args0 about1 = true := by decide +kernel
set_option maxRecDepth 65536 in
theorem w_case : (Jvm.Cond.and given_1 narrow_1).before args0 about1 = true := by decide +kernel
theorem w_applies : (headSpec (Jvm.Cond.code x code maxLocals ret :: tables_1) room_1).applies x e0.platform about1 = true :=
  (Spec.applies_iff w_frames).mpr ⟨w_running, w_runnable, w_alone, w_named, w_hears, w_ripe, w_room, w_tables⟩
theorem atStart : AtStart classFile x code maxLocals ret World_1 tables_1 room_1 Calls_1 rest_1 Pre_1 launch0 p0 e0 about1 theMethod args0 below0 :=
  ⟨lists_1, trivial, launch0.admits_env _ _ _, launch0.least_env, fairChoices_fair.cas, fairChoices_fair.clock, w_frames, w_args, w_heap, w_applies, trivial, w_rest, w_case⟩
end start1
theorem witness_1 : WitnessClaimed_1 := ⟨start1.p0, start1.e0, start1.about1, start1.theMethod, start1.args0, start1.below0, start1.atStart⟩
end Jvm.Pilot.@@N@@
