import JvmDerived
import JvmDerived.Pilot.@@N@@Statement
import JvmDerived.Pilot.@@N@@Code
set_option linter.unusedVariables false
set_option linter.unusedSimpArgs false
namespace Jvm.Pilot.@@N@@
open Jvm Jvm.ClassFile Sem Op Lib Jvm.Free Jvm.Stand Jvm.LawKit Jvm.RoadKit Bundle Jvm.Pilot.@@N@@.Jvm.D
/-! own words: where a body stands (own_C), how it ends (own_Ends), one step ahead of that (own_step), the returns -/
def own_C (cls : String) (code : ByteArray) (ml : Nat) (rt : Option FieldType) (nm : String) (p : Program) (s : State) (m : MethodId) (meth : Method) (c : Code) (Z : State) (a0 : Array Value) : Prop :=
  p.tables.exec = Jvm.exec ∧ Z.Warmed39 s.vm ∧ (∀ d ∈ tables_1, d.before a0 Z = true) ∧ c.code = code ∧ c.maxLocals = ml ∧ s.vm.findClass cls = some m.cls ∧ meth.sig.returnType = rt ∧ meth.locks = false ∧ meth.name = nm
def own_Q (n0 : Nat) (h0 : Heap) (w : Option Value) (v : Option Value) (h : Heap) (L : List Loc) : Prop := v = w ∧ Fr n0 L ∧ h = h0
def own_QL (n0 : Nat) (w : Option Value) (v : Option Value) (h : Heap) (L : List Loc) : Prop := v = w ∧ Fr n0 L ∧ True
def own_QR (n0 : Nat) (h0 : Heap) (v : Option Value) (h : Heap) (L : List Loc) : Prop := ∃ b : Addr, v = some (.ref b) ∧ Fr n0 L ∧ Keep h0 h []
def own_Ends (p : Program) (e : Env) (below : List Frame) (s : State) (kc ks : Nat) (Q : Option Value → Heap → List Loc → Prop) (T : State) (g : JFrame) : Prop :=
  ∃ s₂ o, Steps p.tables e below (T.setTop g) s₂ ∧ s₂.status = .running ∧ Ended s₂ below o ∧ ∃ v L, o = .returned v ∧ Q v s₂.heap L ∧ FrameEnd s o s₂ L kc ks
theorem own_step {p : Program} {e : Env} {below : List Frame} {s : State} {kc ks : Nat} {Q : Option Value → Heap → List Loc → Prop} {T T' : State} {g g' : JFrame}
    (st : ∀ target, Steps p.tables e below (T'.setTop g') target → Steps p.tables e below (T.setTop g) target) (h : own_Ends p e below s kc ks Q T' g') : own_Ends p e below s kc ks Q T g := by
  obtain ⟨s₂, o, h1, r⟩ := h
  exact ⟨s₂, o, st _ h1, r⟩
theorem own_mono {p : Program} {e : Env} {below : List Frame} {s : State} {kc ks : Nat} {Q Q' : Option Value → Heap → List Loc → Prop} {T : State} {g : JFrame} (h : own_Ends p e below s kc ks Q T g) (hq : ∀ v h L, Q v h L → Q' v h L) : own_Ends p e below s kc ks Q' T g := by
  obtain ⟨s₂, o, h1, h2, h3, v, L, h4, h5, h6⟩ := h
  exact ⟨s₂, o, h1, h2, h3, v, L, h4, hq _ _ _ h5, h6⟩
theorem own_nn {v : Value} (h : v.isRef = true) (q : ¬ v = .null) : ∃ y, v = .ref y := (ref_cases h).resolve_left q
theorem own_eqR {Z : State} {args : Array Value} {X F : Term} {idx : List Nat} {y : Addr} (hF : F.eval args Z none idx Z = some (.ref y)) (h : (Cond.eq X F).value args Z none Z idx = some true) : X.eval args Z none idx Z = some (.ref y) := by
  obtain ⟨x, y', e1, e2, k1, k2⟩ := cmp_v (Or.inl h)
  cases hF.symm.trans e2
  have hx : x.isRef = true := k2.2
  have := gotT (eq_R e1 hF hx rfl) h
  exact e1.trans (congrArg some this)
section OwnRet
variable {p : Program} {l : Launch} {e : Env} {R : Room} {s : State} {m : MethodId} {args : Array Value} {below : List Frame} {meth : Method} {c : Code} {T : State} {locs : List Loc} {cells slots : Nat} {kc ks : Nat} {Q : Option Value → Heap → List Loc → Prop}
theorem own_retO (X : Stand p l e R s m args below meth c T locs cells slots) (hx : p.tables.exec = Jvm.exec) {t : FieldType} (hret : meth.sig.returnType = some t) (hlk : meth.locks = false) {pc : Nat} {Ls : Array Slot} {w : Value} {i : Instr} {rest : List Value} (hn : narrow t w = w)
    (hi : (i = .ireturn ∧ (t = .int ∨ t = .boolean ∨ t = .byte ∨ t = .char ∨ t = .short) ∧ ∃ z, w = .int z) ∨ (i = .lreturn ∧ t = .long ∧ ∃ z, w = .long z) ∨ (i = .dreturn ∧ t = .double ∧ ∃ z, w = .double z) ∨ (i = .freturn ∧ t = .float ∧ ∃ z, w = .float z) ∨ (i = .areturn ∧ t.isReference = true ∧ w.isRef = true))
    (hd : decode c.code pc = .ok (i, 1)) (hc : cells ≤ kc) (hs : slots ≤ ks) (hQ : Q (some w) T.heap locs) : own_Ends p e below s kc ks Q T (mkF m pc Ls (w :: rest)) := by
  obtain ⟨fs, hr, hrun, hended, hW, hsame⟩ := X.leave (v := some w) (fun h => by rw [hret] at h; cases h) hlk
  exact ⟨_, _, retOut X hx hret hn hi hd hr, hrun, hended, _, _, rfl, hQ, ⟨_, rfl⟩, hW, hsame.mono hc hs⟩
theorem own_retI (X : Stand p l e R s m args below meth c T locs cells slots) (hx : p.tables.exec = Jvm.exec) (hret : meth.sig.returnType = some .int) (hlk : meth.locks = false) {pc : Nat} {Ls : Array Slot} {z : Int32} {rest : List Value}
    (hd : decode c.code pc = .ok (.ireturn, 1)) (hc : cells ≤ kc) (hs : slots ≤ ks) (hQ : Q (some (.int z)) T.heap locs) : own_Ends p e below s kc ks Q T (mkF m pc Ls (.int z :: rest)) :=
  own_retO X hx hret hlk rfl (Or.inl ⟨rfl, Or.inl rfl, z, rfl⟩) hd hc hs hQ
theorem own_retJ (X : Stand p l e R s m args below meth c T locs cells slots) (hx : p.tables.exec = Jvm.exec) (hret : meth.sig.returnType = some .long) (hlk : meth.locks = false) {pc : Nat} {Ls : Array Slot} {z : Int64} {rest : List Value}
    (hd : decode c.code pc = .ok (.lreturn, 1)) (hc : cells ≤ kc) (hs : slots ≤ ks) (hQ : Q (some (.long z)) T.heap locs) : own_Ends p e below s kc ks Q T (mkF m pc Ls (.long z :: rest)) :=
  own_retO X hx hret hlk rfl (Or.inr (Or.inl ⟨rfl, rfl, z, rfl⟩)) hd hc hs hQ
theorem own_retR (X : Stand p l e R s m args below meth c T locs cells slots) (hx : p.tables.exec = Jvm.exec) {t : FieldType} (hret : meth.sig.returnType = some t) (hlk : meth.locks = false) {pc : Nat} {Ls : Array Slot} {w : Value} {rest : List Value}
    (hd : decode c.code pc = .ok (.areturn, 1)) (hc : cells ≤ kc) (hs : slots ≤ ks) (ht : t.isReference = true) (hw : w.isRef = true) (hQ : Q (some w) T.heap locs) : own_Ends p e below s kc ks Q T (mkF m pc Ls (w :: rest)) :=
  own_retO X hx hret hlk (by cases t <;> first | rfl | cases ht) (Or.inr (Or.inr (Or.inr (Or.inr ⟨rfl, ht, hw⟩)))) hd hc hs hQ
theorem own_retN (X : Stand p l e R s m args below meth c T locs cells slots) {t : FieldType} (hx : p.tables.exec = Jvm.exec) (hret : meth.sig.returnType = some t) (hlk : meth.locks = false) {pc : Nat} {Ls : Array Slot} {z : Int32} {rest : List Value}
    (hd : decode c.code pc = .ok (.ireturn, 1)) (hc : cells ≤ kc) (hs : slots ≤ ks) (ht : t = .boolean ∨ t = .byte ∨ t = .char ∨ t = .short) (hQ : Q (some (.int (nar t z))) T.heap locs) : own_Ends p e below s kc ks Q T (mkF m pc Ls (.int z :: rest)) := by
  obtain ⟨fs, hr, hrun, hended, hW, hsame⟩ := X.leave (v := some (.int (nar t z))) (fun h => by rw [hret] at h; cases h) hlk
  exact ⟨_, _, retN X hx hret ht hd hr, hrun, hended, _, _, rfl, hQ, ⟨_, rfl⟩, hW, hsame.mono hc hs⟩
theorem own_retV (X : Stand p l e R s m args below meth c T locs cells slots) (hx : p.tables.exec = Jvm.exec) (hret : meth.sig.returnType = none) (hlk : meth.locks = false) {pc : Nat} {Ls : Array Slot}
    (hd : decode c.code pc = .ok (.return_, 1)) (hc : cells ≤ kc) (hs : slots ≤ ks) (hQ : Q none T.heap locs) : own_Ends p e below s kc ks Q T (mkF m pc Ls []) := by
  obtain ⟨fs, hr, hrun, hended, hW, hsame⟩ := X.leave (v := none) (fun _ => rfl) hlk
  exact ⟨_, _, X.returnOut hx hret hd hr, hrun, hended, _, _, rfl, hQ, ⟨_, rfl⟩, hW, hsame.mono hc hs⟩
end OwnRet
/-! the same for a body that may load String constants (the wide frame) -/
def own_EndsW (p : Program) (e : Env) (below : List Frame) (s : State) (kc ks : Nat) (Q : Option Value → Heap → List Loc → Prop) (T : State) (g : JFrame) : Prop :=
  ∃ s₂ o, Steps p.tables e below (T.setTop g) s₂ ∧ s₂.status = .running ∧ Ended s₂ below o ∧ ∃ v L, o = .returned v ∧ Q v s₂.heap L ∧ ReturnedEndW s o s₂ L kc ks
theorem own_stepW {p : Program} {e : Env} {below : List Frame} {s : State} {kc ks : Nat} {Q : Option Value → Heap → List Loc → Prop} {T T' : State} {g g' : JFrame}
    (st : ∀ target, Steps p.tables e below (T'.setTop g') target → Steps p.tables e below (T.setTop g) target) (h : own_EndsW p e below s kc ks Q T' g') : own_EndsW p e below s kc ks Q T g := by
  obtain ⟨s₂, o, h1, r⟩ := h
  exact ⟨s₂, o, st _ h1, r⟩
section OwnRetW
variable {p : Program} {l : Launch} {e : Env} {R : Room} {s : State} {vm0 : Vm} {k0 : Nat} {m : MethodId} {args : Array Value} {below : List Frame} {meth : Method} {c : Code} {T : State} {locs : List Loc} {cells slots : Nat} {kc ks : Nat} {Q : Option Value → Heap → List Loc → Prop}
theorem own_retOW (X : Stand p l e R (s.setVm vm0) m args below meth c T locs cells slots) (hS : s.Since vm0 k0) (hk : k0 ≤ T.heap.size) (hx : p.tables.exec = Jvm.exec) {t : FieldType} (hret : meth.sig.returnType = some t) (hlk : meth.locks = false) {pc : Nat} {Ls : Array Slot} {w : Value} {i : Instr} {rest : List Value} (hn : narrow t w = w)
    (hi : (i = .ireturn ∧ (t = .int ∨ t = .boolean ∨ t = .byte ∨ t = .char ∨ t = .short) ∧ ∃ z, w = .int z) ∨ (i = .lreturn ∧ t = .long ∧ ∃ z, w = .long z) ∨ (i = .dreturn ∧ t = .double ∧ ∃ z, w = .double z) ∨ (i = .freturn ∧ t = .float ∧ ∃ z, w = .float z) ∨ (i = .areturn ∧ t.isReference = true ∧ w.isRef = true))
    (hd : decode c.code pc = .ok (i, 1)) (hc : cells ≤ kc) (hs : slots ≤ ks) (hQ : Q (some w) T.heap locs) : own_EndsW p e below s kc ks Q T (mkF m pc Ls (w :: rest)) := by
  obtain ⟨fs, hr, hrun, hended, e1, e2, e3, e4⟩ := X.leaveW hS hk (v := some w) (fun h => by rw [hret] at h; cases h) hlk
  exact ⟨_, _, retOut X hx hret hn hi hd hr, hrun, hended, _, _, rfl, hQ, e1, e2, e3, e4.mono hc hs⟩
theorem own_retRW (X : Stand p l e R (s.setVm vm0) m args below meth c T locs cells slots) (hS : s.Since vm0 k0) (hk : k0 ≤ T.heap.size) (hx : p.tables.exec = Jvm.exec) {t : FieldType} (hret : meth.sig.returnType = some t) (hlk : meth.locks = false) {pc : Nat} {Ls : Array Slot} {w : Value} {rest : List Value}
    (hd : decode c.code pc = .ok (.areturn, 1)) (hc : cells ≤ kc) (hs : slots ≤ ks) (ht : t.isReference = true) (hw : w.isRef = true) (hQ : Q (some w) T.heap locs) : own_EndsW p e below s kc ks Q T (mkF m pc Ls (w :: rest)) :=
  own_retOW X hS hk hx hret hlk (by cases t <;> first | rfl | cases ht) (Or.inr (Or.inr (Or.inr (Or.inr ⟨rfl, ht, hw⟩)))) hd hc hs hQ
theorem own_retNW (X : Stand p l e R (s.setVm vm0) m args below meth c T locs cells slots) (hS : s.Since vm0 k0) (hk : k0 ≤ T.heap.size) {t : FieldType} (hx : p.tables.exec = Jvm.exec) (hret : meth.sig.returnType = some t) (hlk : meth.locks = false) {pc : Nat} {Ls : Array Slot} {z : Int32} {rest : List Value}
    (hd : decode c.code pc = .ok (.ireturn, 1)) (hc : cells ≤ kc) (hs : slots ≤ ks) (ht : t = .boolean ∨ t = .byte ∨ t = .char ∨ t = .short) (hQ : Q (some (.int (nar t z))) T.heap locs) : own_EndsW p e below s kc ks Q T (mkF m pc Ls (.int z :: rest)) := by
  obtain ⟨fs, hr, hrun, hended, e1, e2, e3, e4⟩ := X.leaveW hS hk (v := some (.int (nar t z))) (fun h => by rw [hret] at h; cases h) hlk
  exact ⟨_, _, retN X hx hret ht hd hr, hrun, hended, _, _, rfl, hQ, e1, e2, e3, e4.mono hc hs⟩
end OwnRetW

theorem pn_0 : plainName "com/example/canonsign/canonsign/http/PercentEncoding" = true := by first | (simp [plainName, overriddenIn]; done) | decide +kernel
theorem pn_1 : plainName "com/example/canonsign/canonsign/http/PercentEncodingIsKeptPinLaw" = true := by first | (simp [plainName, overriddenIn]; done) | decide +kernel
theorem pd_0 : parseMethodDescriptor "(BZ)Z" = some ⟨[.byte, .boolean], some .boolean⟩ := by decide +kernel
theorem pd_1 : parseMethodDescriptor "(IZ)Z" = some ⟨[.int, .boolean], some .boolean⟩ := by decide +kernel
theorem d1_0 : decode prog_27_method_6_code 0 = .ok (.iload_n 0, 1) := by decide +kernel
theorem d1_1 : decode prog_27_method_6_code 1 = .ok (.bipush 97, 2) := by decide +kernel
theorem d1_3 : decode prog_27_method_6_code 3 = .ok (.if_icmp .lt 9, 3) := by decide +kernel
theorem d1_6 : decode prog_27_method_6_code 6 = .ok (.iload_n 0, 1) := by decide +kernel
theorem d1_7 : decode prog_27_method_6_code 7 = .ok (.bipush 122, 2) := by decide +kernel
theorem d1_9 : decode prog_27_method_6_code 9 = .ok (.if_icmp .le 51, 3) := by decide +kernel
theorem d1_12 : decode prog_27_method_6_code 12 = .ok (.iload_n 0, 1) := by decide +kernel
theorem d1_13 : decode prog_27_method_6_code 13 = .ok (.bipush 65, 2) := by decide +kernel
theorem d1_15 : decode prog_27_method_6_code 15 = .ok (.if_icmp .lt 9, 3) := by decide +kernel
theorem d1_18 : decode prog_27_method_6_code 18 = .ok (.iload_n 0, 1) := by decide +kernel
theorem d1_19 : decode prog_27_method_6_code 19 = .ok (.bipush 90, 2) := by decide +kernel
theorem d1_21 : decode prog_27_method_6_code 21 = .ok (.if_icmp .le 39, 3) := by decide +kernel
theorem d1_24 : decode prog_27_method_6_code 24 = .ok (.iload_n 0, 1) := by decide +kernel
theorem d1_25 : decode prog_27_method_6_code 25 = .ok (.bipush 48, 2) := by decide +kernel
theorem d1_27 : decode prog_27_method_6_code 27 = .ok (.if_icmp .lt 9, 3) := by decide +kernel
theorem d1_30 : decode prog_27_method_6_code 30 = .ok (.iload_n 0, 1) := by decide +kernel
theorem d1_31 : decode prog_27_method_6_code 31 = .ok (.bipush 57, 2) := by decide +kernel
theorem d1_33 : decode prog_27_method_6_code 33 = .ok (.if_icmp .le 27, 3) := by decide +kernel
theorem d1_36 : decode prog_27_method_6_code 36 = .ok (.iload_n 0, 1) := by decide +kernel
theorem d1_37 : decode prog_27_method_6_code 37 = .ok (.bipush 45, 2) := by decide +kernel
theorem d1_39 : decode prog_27_method_6_code 39 = .ok (.if_icmp .eq 21, 3) := by decide +kernel
theorem d1_42 : decode prog_27_method_6_code 42 = .ok (.iload_n 0, 1) := by decide +kernel
theorem d1_43 : decode prog_27_method_6_code 43 = .ok (.bipush 46, 2) := by decide +kernel
theorem d1_45 : decode prog_27_method_6_code 45 = .ok (.if_icmp .eq 15, 3) := by decide +kernel
theorem d1_48 : decode prog_27_method_6_code 48 = .ok (.iload_n 0, 1) := by decide +kernel
theorem d1_49 : decode prog_27_method_6_code 49 = .ok (.bipush 95, 2) := by decide +kernel
theorem d1_51 : decode prog_27_method_6_code 51 = .ok (.if_icmp .eq 9, 3) := by decide +kernel
theorem d1_54 : decode prog_27_method_6_code 54 = .ok (.iload_n 0, 1) := by decide +kernel
theorem d1_55 : decode prog_27_method_6_code 55 = .ok (.bipush 126, 2) := by decide +kernel
theorem d1_57 : decode prog_27_method_6_code 57 = .ok (.if_icmp .ne 7, 3) := by decide +kernel
theorem d1_60 : decode prog_27_method_6_code 60 = .ok (.iconst 1, 1) := by decide +kernel
theorem d1_61 : decode prog_27_method_6_code 61 = .ok (.goto 4, 3) := by decide +kernel
theorem d1_64 : decode prog_27_method_6_code 64 = .ok (.iconst 0, 1) := by decide +kernel
theorem d1_65 : decode prog_27_method_6_code 65 = .ok (.istore_n 2, 1) := by decide +kernel
theorem d1_66 : decode prog_27_method_6_code 66 = .ok (.iload_n 2, 1) := by decide +kernel
theorem d1_67 : decode prog_27_method_6_code 67 = .ok (.ifCond .ne 13, 3) := by decide +kernel
theorem d1_70 : decode prog_27_method_6_code 70 = .ok (.iload_n 1, 1) := by decide +kernel
theorem d1_71 : decode prog_27_method_6_code 71 = .ok (.ifCond .eq 13, 3) := by decide +kernel
theorem d1_74 : decode prog_27_method_6_code 74 = .ok (.iload_n 0, 1) := by decide +kernel
theorem d1_75 : decode prog_27_method_6_code 75 = .ok (.bipush 47, 2) := by decide +kernel
theorem d1_77 : decode prog_27_method_6_code 77 = .ok (.if_icmp .ne 7, 3) := by decide +kernel
theorem d1_80 : decode prog_27_method_6_code 80 = .ok (.iconst 1, 1) := by decide +kernel
theorem d1_81 : decode prog_27_method_6_code 81 = .ok (.goto 4, 3) := by decide +kernel
theorem d1_84 : decode prog_27_method_6_code 84 = .ok (.iconst 0, 1) := by decide +kernel
theorem d1_85 : decode prog_27_method_6_code 85 = .ok (.ireturn, 1) := by decide +kernel
def f1_65 (i0 : Int32) (i1 : Int32) (is0_65 : Int32) : Int32 := (if is0_65 = (0 : Int32) then (if i1 = (0 : Int32) then (0 : Int32) else (if i0 = (47 : Int32) then (1 : Int32) else (0 : Int32))) else (1 : Int32))
set_option maxRecDepth 65536 in
set_option maxHeartbeats 40000000 in
theorem b1_65 {p : Program} {l : Launch} {e : Env} {s : State} {m : MethodId} {args : Array Value} {below : List Frame} {meth : Method} {c : Code} {Z : State} {a0 : Array Value} {h0 : Heap} {n0 : Nat} (C : own_C "com/example/canonsign/canonsign/http/PercentEncoding" prog_27_method_6_code 3 (some .boolean) "isKept" p s m meth c Z a0) (Z0 : n0 ≤ h0.size) {T0 : State} {locs : List Loc} (X0 : Stand p l e ({ frames := 0, cells := 0, slots := 0, locals := 0 } : Room) s m args below meth c T0 locs 0 0) (e0 : T0.heap = h0) (N0 : Fr n0 locs) (i0 : Int32) (i1 : Int32) (is0_65 : Int32) (W : Int32) (hv : W = f1_65 i0 i1 is0_65) :
    own_Ends p e below s ({ frames := 0, cells := 0, slots := 0, locals := 0 } : Room).cells ({ frames := 0, cells := 0, slots := 0, locals := 0 } : Room).slots (own_Q n0 h0 (some (.int W))) T0 (mkF m 65 #[.val (.int i0), .val (.int i1), .unset] [(.int is0_65)]) := by
  obtain ⟨hx, hZ, hw, hby, hml, hown, hret, hlk, hnm⟩ := C
  have C : own_C "com/example/canonsign/canonsign/http/PercentEncoding" prog_27_method_6_code 3 (some .boolean) "isKept" p s m meth c Z a0 := ⟨hx, hZ, hw, hby, hml, hown, hret, hlk, hnm⟩
  unfold f1_65 at hv
  refine own_step (fun _ => XS.istoreN X0.here hx rfl (hb hby d1_65) rfl (l' := #[.val (.int i0), .val (.int i1), .val (.int is0_65)]) rfl) ?_
  show own_Ends p e below s _ _ _ T0 (mkF m 66 #[.val (.int i0), .val (.int i1), .val (.int is0_65)] [])
  refine own_step (fun _ => XS.iloadN X0.here hx rfl (hb hby d1_66) rfl) ?_
  show own_Ends p e below s _ _ _ T0 (mkF m 67 #[.val (.int i0), .val (.int i1), .val (.int is0_65)] [(.int is0_65)])
  by_cases hc67 : is0_65 = (0 : Int32)
  · have hv_t := hv.trans (if_pos hc67)
    refine own_step (fun _ => XS.ifNo X0.here hx rfl (hb hby d1_67) rfl ((if0 _ _).trans (teq hc67).2)) ?_
    show own_Ends p e below s _ _ _ T0 (mkF m 70 #[.val (.int i0), .val (.int i1), .val (.int is0_65)] [])
    refine own_step (fun _ => XS.iloadN X0.here hx rfl (hb hby d1_70) rfl) ?_
    show own_Ends p e below s _ _ _ T0 (mkF m 71 #[.val (.int i0), .val (.int i1), .val (.int is0_65)] [(.int i1)])
    by_cases hc71 : i1 = (0 : Int32)
    · have hv_t_t := hv_t.trans (if_pos hc71)
      refine own_step (fun _ => XS.ifYes X0.here hx rfl (pc0 := 71) (pc' := 84) rfl (hb hby d1_71) rfl ((if0 _ _).trans (teq hc71).1) (by decide) (by decide)) ?_
      show own_Ends p e below s _ _ _ T0 (mkF m 84 #[.val (.int i0), .val (.int i1), .val (.int is0_65)] [])
      refine own_step (fun _ => XS.iconst X0.here hx rfl (hb hby d1_84)) ?_
      show own_Ends p e below s _ _ _ T0 (mkF m 85 #[.val (.int i0), .val (.int i1), .val (.int is0_65)] [(.int (0 : Int32))])
      exact own_retN X0 (t := .boolean) hx hret hlk (hb hby d1_85) (by decide) (by decide) (by simp) ⟨congrArg (fun z => some (Value.int z)) hv_t_t.symm, N0, e0⟩
    · have hv_t_f := hv_t.trans (if_neg hc71)
      refine own_step (fun _ => XS.ifNo X0.here hx rfl (hb hby d1_71) rfl ((if0 _ _).trans (feq hc71).1)) ?_
      show own_Ends p e below s _ _ _ T0 (mkF m 74 #[.val (.int i0), .val (.int i1), .val (.int is0_65)] [])
      refine own_step (fun _ => XS.iloadN X0.here hx rfl (hb hby d1_74) rfl) ?_
      show own_Ends p e below s _ _ _ T0 (mkF m 75 #[.val (.int i0), .val (.int i1), .val (.int is0_65)] [(.int i0)])
      refine own_step (fun _ => XS.bipush X0.here hx rfl (hb hby d1_75)) ?_
      show own_Ends p e below s _ _ _ T0 (mkF m 77 #[.val (.int i0), .val (.int i1), .val (.int is0_65)] [(.int (47 : Int32)), (.int i0)])
      by_cases hc77 : i0 = (47 : Int32)
      · have hv_t_f_t := hv_t_f.trans (if_pos hc77)
        refine own_step (fun _ => XS.icmpNo X0.here hx rfl (hb hby d1_77) rfl (teq hc77).2) ?_
        show own_Ends p e below s _ _ _ T0 (mkF m 80 #[.val (.int i0), .val (.int i1), .val (.int is0_65)] [])
        refine own_step (fun _ => XS.iconst X0.here hx rfl (hb hby d1_80)) ?_
        show own_Ends p e below s _ _ _ T0 (mkF m 81 #[.val (.int i0), .val (.int i1), .val (.int is0_65)] [(.int (1 : Int32))])
        refine own_step (fun _ => XS.goto X0.here hx rfl (pc0 := 81) (pc' := 85) rfl (hb hby d1_81) (by decide) (by decide)) ?_
        show own_Ends p e below s _ _ _ T0 (mkF m 85 #[.val (.int i0), .val (.int i1), .val (.int is0_65)] [(.int (1 : Int32))])
        exact own_retN X0 (t := .boolean) hx hret hlk (hb hby d1_85) (by decide) (by decide) (by simp) ⟨congrArg (fun z => some (Value.int z)) hv_t_f_t.symm, N0, e0⟩
      · have hv_t_f_f := hv_t_f.trans (if_neg hc77)
        refine own_step (fun _ => XS.icmpYes X0.here hx rfl (pc0 := 77) (pc' := 84) rfl (hb hby d1_77) rfl (feq hc77).2 (by decide) (by decide)) ?_
        show own_Ends p e below s _ _ _ T0 (mkF m 84 #[.val (.int i0), .val (.int i1), .val (.int is0_65)] [])
        refine own_step (fun _ => XS.iconst X0.here hx rfl (hb hby d1_84)) ?_
        show own_Ends p e below s _ _ _ T0 (mkF m 85 #[.val (.int i0), .val (.int i1), .val (.int is0_65)] [(.int (0 : Int32))])
        exact own_retN X0 (t := .boolean) hx hret hlk (hb hby d1_85) (by decide) (by decide) (by simp) ⟨congrArg (fun z => some (Value.int z)) hv_t_f_f.symm, N0, e0⟩
  · have hv_f := hv.trans (if_neg hc67)
    refine own_step (fun _ => XS.ifYes X0.here hx rfl (pc0 := 67) (pc' := 80) rfl (hb hby d1_67) rfl ((if0 _ _).trans (feq hc67).2) (by decide) (by decide)) ?_
    show own_Ends p e below s _ _ _ T0 (mkF m 80 #[.val (.int i0), .val (.int i1), .val (.int is0_65)] [])
    refine own_step (fun _ => XS.iconst X0.here hx rfl (hb hby d1_80)) ?_
    show own_Ends p e below s _ _ _ T0 (mkF m 81 #[.val (.int i0), .val (.int i1), .val (.int is0_65)] [(.int (1 : Int32))])
    refine own_step (fun _ => XS.goto X0.here hx rfl (pc0 := 81) (pc' := 85) rfl (hb hby d1_81) (by decide) (by decide)) ?_
    show own_Ends p e below s _ _ _ T0 (mkF m 85 #[.val (.int i0), .val (.int i1), .val (.int is0_65)] [(.int (1 : Int32))])
    exact own_retN X0 (t := .boolean) hx hret hlk (hb hby d1_85) (by decide) (by decide) (by simp) ⟨congrArg (fun z => some (Value.int z)) hv_f.symm, N0, e0⟩
def f1_60 (i0 : Int32) (i1 : Int32) : Int32 := (f1_65 i0 i1 (1 : Int32))
set_option maxRecDepth 65536 in
set_option maxHeartbeats 40000000 in
theorem b1_60 {p : Program} {l : Launch} {e : Env} {s : State} {m : MethodId} {args : Array Value} {below : List Frame} {meth : Method} {c : Code} {Z : State} {a0 : Array Value} {h0 : Heap} {n0 : Nat} (C : own_C "com/example/canonsign/canonsign/http/PercentEncoding" prog_27_method_6_code 3 (some .boolean) "isKept" p s m meth c Z a0) (Z0 : n0 ≤ h0.size) {T0 : State} {locs : List Loc} (X0 : Stand p l e ({ frames := 0, cells := 0, slots := 0, locals := 0 } : Room) s m args below meth c T0 locs 0 0) (e0 : T0.heap = h0) (N0 : Fr n0 locs) (i0 : Int32) (i1 : Int32) (W : Int32) (hv : W = f1_60 i0 i1) :
    own_Ends p e below s ({ frames := 0, cells := 0, slots := 0, locals := 0 } : Room).cells ({ frames := 0, cells := 0, slots := 0, locals := 0 } : Room).slots (own_Q n0 h0 (some (.int W))) T0 (mkF m 60 #[.val (.int i0), .val (.int i1), .unset] []) := by
  obtain ⟨hx, hZ, hw, hby, hml, hown, hret, hlk, hnm⟩ := C
  have C : own_C "com/example/canonsign/canonsign/http/PercentEncoding" prog_27_method_6_code 3 (some .boolean) "isKept" p s m meth c Z a0 := ⟨hx, hZ, hw, hby, hml, hown, hret, hlk, hnm⟩
  unfold f1_60 at hv
  refine own_step (fun _ => XS.iconst X0.here hx rfl (hb hby d1_60)) ?_
  show own_Ends p e below s _ _ _ T0 (mkF m 61 #[.val (.int i0), .val (.int i1), .unset] [(.int (1 : Int32))])
  refine own_step (fun _ => XS.goto X0.here hx rfl (pc0 := 61) (pc' := 65) rfl (hb hby d1_61) (by decide) (by decide)) ?_
  show own_Ends p e below s _ _ _ T0 (mkF m 65 #[.val (.int i0), .val (.int i1), .unset] [(.int (1 : Int32))])
  exact b1_65 C Z0 X0 e0 N0 i0 i1 (1 : Int32) _ hv
def f1_36 (i0 : Int32) (i1 : Int32) : Int32 := (if i0 = (45 : Int32) then (f1_60 i0 i1) else (if i0 = (46 : Int32) then (f1_60 i0 i1) else (if i0 = (95 : Int32) then (f1_60 i0 i1) else (if i0 = (126 : Int32) then (f1_60 i0 i1) else (f1_65 i0 i1 (0 : Int32))))))
set_option maxRecDepth 65536 in
set_option maxHeartbeats 40000000 in
theorem b1_36 {p : Program} {l : Launch} {e : Env} {s : State} {m : MethodId} {args : Array Value} {below : List Frame} {meth : Method} {c : Code} {Z : State} {a0 : Array Value} {h0 : Heap} {n0 : Nat} (C : own_C "com/example/canonsign/canonsign/http/PercentEncoding" prog_27_method_6_code 3 (some .boolean) "isKept" p s m meth c Z a0) (Z0 : n0 ≤ h0.size) {T0 : State} {locs : List Loc} (X0 : Stand p l e ({ frames := 0, cells := 0, slots := 0, locals := 0 } : Room) s m args below meth c T0 locs 0 0) (e0 : T0.heap = h0) (N0 : Fr n0 locs) (i0 : Int32) (i1 : Int32) (W : Int32) (hv : W = f1_36 i0 i1) :
    own_Ends p e below s ({ frames := 0, cells := 0, slots := 0, locals := 0 } : Room).cells ({ frames := 0, cells := 0, slots := 0, locals := 0 } : Room).slots (own_Q n0 h0 (some (.int W))) T0 (mkF m 36 #[.val (.int i0), .val (.int i1), .unset] []) := by
  obtain ⟨hx, hZ, hw, hby, hml, hown, hret, hlk, hnm⟩ := C
  have C : own_C "com/example/canonsign/canonsign/http/PercentEncoding" prog_27_method_6_code 3 (some .boolean) "isKept" p s m meth c Z a0 := ⟨hx, hZ, hw, hby, hml, hown, hret, hlk, hnm⟩
  unfold f1_36 at hv
  refine own_step (fun _ => XS.iloadN X0.here hx rfl (hb hby d1_36) rfl) ?_
  show own_Ends p e below s _ _ _ T0 (mkF m 37 #[.val (.int i0), .val (.int i1), .unset] [(.int i0)])
  refine own_step (fun _ => XS.bipush X0.here hx rfl (hb hby d1_37)) ?_
  show own_Ends p e below s _ _ _ T0 (mkF m 39 #[.val (.int i0), .val (.int i1), .unset] [(.int (45 : Int32)), (.int i0)])
  by_cases hc39 : i0 = (45 : Int32)
  · have hv_t := hv.trans (if_pos hc39)
    refine own_step (fun _ => XS.icmpYes X0.here hx rfl (pc0 := 39) (pc' := 60) rfl (hb hby d1_39) rfl (teq hc39).1 (by decide) (by decide)) ?_
    show own_Ends p e below s _ _ _ T0 (mkF m 60 #[.val (.int i0), .val (.int i1), .unset] [])
    exact b1_60 C Z0 X0 e0 N0 i0 i1 _ hv_t
  · have hv_f := hv.trans (if_neg hc39)
    refine own_step (fun _ => XS.icmpNo X0.here hx rfl (hb hby d1_39) rfl (feq hc39).1) ?_
    show own_Ends p e below s _ _ _ T0 (mkF m 42 #[.val (.int i0), .val (.int i1), .unset] [])
    refine own_step (fun _ => XS.iloadN X0.here hx rfl (hb hby d1_42) rfl) ?_
    show own_Ends p e below s _ _ _ T0 (mkF m 43 #[.val (.int i0), .val (.int i1), .unset] [(.int i0)])
    refine own_step (fun _ => XS.bipush X0.here hx rfl (hb hby d1_43)) ?_
    show own_Ends p e below s _ _ _ T0 (mkF m 45 #[.val (.int i0), .val (.int i1), .unset] [(.int (46 : Int32)), (.int i0)])
    by_cases hc45 : i0 = (46 : Int32)
    · have hv_f_t := hv_f.trans (if_pos hc45)
      refine own_step (fun _ => XS.icmpYes X0.here hx rfl (pc0 := 45) (pc' := 60) rfl (hb hby d1_45) rfl (teq hc45).1 (by decide) (by decide)) ?_
      show own_Ends p e below s _ _ _ T0 (mkF m 60 #[.val (.int i0), .val (.int i1), .unset] [])
      exact b1_60 C Z0 X0 e0 N0 i0 i1 _ hv_f_t
    · have hv_f_f := hv_f.trans (if_neg hc45)
      refine own_step (fun _ => XS.icmpNo X0.here hx rfl (hb hby d1_45) rfl (feq hc45).1) ?_
      show own_Ends p e below s _ _ _ T0 (mkF m 48 #[.val (.int i0), .val (.int i1), .unset] [])
      refine own_step (fun _ => XS.iloadN X0.here hx rfl (hb hby d1_48) rfl) ?_
      show own_Ends p e below s _ _ _ T0 (mkF m 49 #[.val (.int i0), .val (.int i1), .unset] [(.int i0)])
      refine own_step (fun _ => XS.bipush X0.here hx rfl (hb hby d1_49)) ?_
      show own_Ends p e below s _ _ _ T0 (mkF m 51 #[.val (.int i0), .val (.int i1), .unset] [(.int (95 : Int32)), (.int i0)])
      by_cases hc51 : i0 = (95 : Int32)
      · have hv_f_f_t := hv_f_f.trans (if_pos hc51)
        refine own_step (fun _ => XS.icmpYes X0.here hx rfl (pc0 := 51) (pc' := 60) rfl (hb hby d1_51) rfl (teq hc51).1 (by decide) (by decide)) ?_
        show own_Ends p e below s _ _ _ T0 (mkF m 60 #[.val (.int i0), .val (.int i1), .unset] [])
        exact b1_60 C Z0 X0 e0 N0 i0 i1 _ hv_f_f_t
      · have hv_f_f_f := hv_f_f.trans (if_neg hc51)
        refine own_step (fun _ => XS.icmpNo X0.here hx rfl (hb hby d1_51) rfl (feq hc51).1) ?_
        show own_Ends p e below s _ _ _ T0 (mkF m 54 #[.val (.int i0), .val (.int i1), .unset] [])
        refine own_step (fun _ => XS.iloadN X0.here hx rfl (hb hby d1_54) rfl) ?_
        show own_Ends p e below s _ _ _ T0 (mkF m 55 #[.val (.int i0), .val (.int i1), .unset] [(.int i0)])
        refine own_step (fun _ => XS.bipush X0.here hx rfl (hb hby d1_55)) ?_
        show own_Ends p e below s _ _ _ T0 (mkF m 57 #[.val (.int i0), .val (.int i1), .unset] [(.int (126 : Int32)), (.int i0)])
        by_cases hc57 : i0 = (126 : Int32)
        · have hv_f_f_f_t := hv_f_f_f.trans (if_pos hc57)
          refine own_step (fun _ => XS.icmpNo X0.here hx rfl (hb hby d1_57) rfl (teq hc57).2) ?_
          show own_Ends p e below s _ _ _ T0 (mkF m 60 #[.val (.int i0), .val (.int i1), .unset] [])
          exact b1_60 C Z0 X0 e0 N0 i0 i1 _ hv_f_f_f_t
        · have hv_f_f_f_f := hv_f_f_f.trans (if_neg hc57)
          refine own_step (fun _ => XS.icmpYes X0.here hx rfl (pc0 := 57) (pc' := 64) rfl (hb hby d1_57) rfl (feq hc57).2 (by decide) (by decide)) ?_
          show own_Ends p e below s _ _ _ T0 (mkF m 64 #[.val (.int i0), .val (.int i1), .unset] [])
          refine own_step (fun _ => XS.iconst X0.here hx rfl (hb hby d1_64)) ?_
          show own_Ends p e below s _ _ _ T0 (mkF m 65 #[.val (.int i0), .val (.int i1), .unset] [(.int (0 : Int32))])
          exact b1_65 C Z0 X0 e0 N0 i0 i1 (0 : Int32) _ hv_f_f_f_f
def f1_24 (i0 : Int32) (i1 : Int32) : Int32 := (if i0 < (48 : Int32) then (f1_36 i0 i1) else (if (57 : Int32) < i0 then (f1_36 i0 i1) else (f1_60 i0 i1)))
set_option maxRecDepth 65536 in
set_option maxHeartbeats 40000000 in
theorem b1_24 {p : Program} {l : Launch} {e : Env} {s : State} {m : MethodId} {args : Array Value} {below : List Frame} {meth : Method} {c : Code} {Z : State} {a0 : Array Value} {h0 : Heap} {n0 : Nat} (C : own_C "com/example/canonsign/canonsign/http/PercentEncoding" prog_27_method_6_code 3 (some .boolean) "isKept" p s m meth c Z a0) (Z0 : n0 ≤ h0.size) {T0 : State} {locs : List Loc} (X0 : Stand p l e ({ frames := 0, cells := 0, slots := 0, locals := 0 } : Room) s m args below meth c T0 locs 0 0) (e0 : T0.heap = h0) (N0 : Fr n0 locs) (i0 : Int32) (i1 : Int32) (W : Int32) (hv : W = f1_24 i0 i1) :
    own_Ends p e below s ({ frames := 0, cells := 0, slots := 0, locals := 0 } : Room).cells ({ frames := 0, cells := 0, slots := 0, locals := 0 } : Room).slots (own_Q n0 h0 (some (.int W))) T0 (mkF m 24 #[.val (.int i0), .val (.int i1), .unset] []) := by
  obtain ⟨hx, hZ, hw, hby, hml, hown, hret, hlk, hnm⟩ := C
  have C : own_C "com/example/canonsign/canonsign/http/PercentEncoding" prog_27_method_6_code 3 (some .boolean) "isKept" p s m meth c Z a0 := ⟨hx, hZ, hw, hby, hml, hown, hret, hlk, hnm⟩
  unfold f1_24 at hv
  refine own_step (fun _ => XS.iloadN X0.here hx rfl (hb hby d1_24) rfl) ?_
  show own_Ends p e below s _ _ _ T0 (mkF m 25 #[.val (.int i0), .val (.int i1), .unset] [(.int i0)])
  refine own_step (fun _ => XS.bipush X0.here hx rfl (hb hby d1_25)) ?_
  show own_Ends p e below s _ _ _ T0 (mkF m 27 #[.val (.int i0), .val (.int i1), .unset] [(.int (48 : Int32)), (.int i0)])
  by_cases hc27 : i0 < (48 : Int32)
  · have hv_t := hv.trans (if_pos hc27)
    refine own_step (fun _ => XS.icmpYes X0.here hx rfl (pc0 := 27) (pc' := 36) rfl (hb hby d1_27) rfl (tlt hc27).1 (by decide) (by decide)) ?_
    show own_Ends p e below s _ _ _ T0 (mkF m 36 #[.val (.int i0), .val (.int i1), .unset] [])
    exact b1_36 C Z0 X0 e0 N0 i0 i1 _ hv_t
  · have hv_f := hv.trans (if_neg hc27)
    refine own_step (fun _ => XS.icmpNo X0.here hx rfl (hb hby d1_27) rfl (flt hc27).1) ?_
    show own_Ends p e below s _ _ _ T0 (mkF m 30 #[.val (.int i0), .val (.int i1), .unset] [])
    refine own_step (fun _ => XS.iloadN X0.here hx rfl (hb hby d1_30) rfl) ?_
    show own_Ends p e below s _ _ _ T0 (mkF m 31 #[.val (.int i0), .val (.int i1), .unset] [(.int i0)])
    refine own_step (fun _ => XS.bipush X0.here hx rfl (hb hby d1_31)) ?_
    show own_Ends p e below s _ _ _ T0 (mkF m 33 #[.val (.int i0), .val (.int i1), .unset] [(.int (57 : Int32)), (.int i0)])
    by_cases hc33 : (57 : Int32) < i0
    · have hv_f_t := hv_f.trans (if_pos hc33)
      refine own_step (fun _ => XS.icmpNo X0.here hx rfl (hb hby d1_33) rfl (tlt hc33).2.2.2) ?_
      show own_Ends p e below s _ _ _ T0 (mkF m 36 #[.val (.int i0), .val (.int i1), .unset] [])
      exact b1_36 C Z0 X0 e0 N0 i0 i1 _ hv_f_t
    · have hv_f_f := hv_f.trans (if_neg hc33)
      refine own_step (fun _ => XS.icmpYes X0.here hx rfl (pc0 := 33) (pc' := 60) rfl (hb hby d1_33) rfl (flt hc33).2.2.2 (by decide) (by decide)) ?_
      show own_Ends p e below s _ _ _ T0 (mkF m 60 #[.val (.int i0), .val (.int i1), .unset] [])
      exact b1_60 C Z0 X0 e0 N0 i0 i1 _ hv_f_f
def f1_12 (i0 : Int32) (i1 : Int32) : Int32 := (if i0 < (65 : Int32) then (f1_24 i0 i1) else (if (90 : Int32) < i0 then (f1_24 i0 i1) else (f1_60 i0 i1)))
set_option maxRecDepth 65536 in
set_option maxHeartbeats 40000000 in
theorem b1_12 {p : Program} {l : Launch} {e : Env} {s : State} {m : MethodId} {args : Array Value} {below : List Frame} {meth : Method} {c : Code} {Z : State} {a0 : Array Value} {h0 : Heap} {n0 : Nat} (C : own_C "com/example/canonsign/canonsign/http/PercentEncoding" prog_27_method_6_code 3 (some .boolean) "isKept" p s m meth c Z a0) (Z0 : n0 ≤ h0.size) {T0 : State} {locs : List Loc} (X0 : Stand p l e ({ frames := 0, cells := 0, slots := 0, locals := 0 } : Room) s m args below meth c T0 locs 0 0) (e0 : T0.heap = h0) (N0 : Fr n0 locs) (i0 : Int32) (i1 : Int32) (W : Int32) (hv : W = f1_12 i0 i1) :
    own_Ends p e below s ({ frames := 0, cells := 0, slots := 0, locals := 0 } : Room).cells ({ frames := 0, cells := 0, slots := 0, locals := 0 } : Room).slots (own_Q n0 h0 (some (.int W))) T0 (mkF m 12 #[.val (.int i0), .val (.int i1), .unset] []) := by
  obtain ⟨hx, hZ, hw, hby, hml, hown, hret, hlk, hnm⟩ := C
  have C : own_C "com/example/canonsign/canonsign/http/PercentEncoding" prog_27_method_6_code 3 (some .boolean) "isKept" p s m meth c Z a0 := ⟨hx, hZ, hw, hby, hml, hown, hret, hlk, hnm⟩
  unfold f1_12 at hv
  refine own_step (fun _ => XS.iloadN X0.here hx rfl (hb hby d1_12) rfl) ?_
  show own_Ends p e below s _ _ _ T0 (mkF m 13 #[.val (.int i0), .val (.int i1), .unset] [(.int i0)])
  refine own_step (fun _ => XS.bipush X0.here hx rfl (hb hby d1_13)) ?_
  show own_Ends p e below s _ _ _ T0 (mkF m 15 #[.val (.int i0), .val (.int i1), .unset] [(.int (65 : Int32)), (.int i0)])
  by_cases hc15 : i0 < (65 : Int32)
  · have hv_t := hv.trans (if_pos hc15)
    refine own_step (fun _ => XS.icmpYes X0.here hx rfl (pc0 := 15) (pc' := 24) rfl (hb hby d1_15) rfl (tlt hc15).1 (by decide) (by decide)) ?_
    show own_Ends p e below s _ _ _ T0 (mkF m 24 #[.val (.int i0), .val (.int i1), .unset] [])
    exact b1_24 C Z0 X0 e0 N0 i0 i1 _ hv_t
  · have hv_f := hv.trans (if_neg hc15)
    refine own_step (fun _ => XS.icmpNo X0.here hx rfl (hb hby d1_15) rfl (flt hc15).1) ?_
    show own_Ends p e below s _ _ _ T0 (mkF m 18 #[.val (.int i0), .val (.int i1), .unset] [])
    refine own_step (fun _ => XS.iloadN X0.here hx rfl (hb hby d1_18) rfl) ?_
    show own_Ends p e below s _ _ _ T0 (mkF m 19 #[.val (.int i0), .val (.int i1), .unset] [(.int i0)])
    refine own_step (fun _ => XS.bipush X0.here hx rfl (hb hby d1_19)) ?_
    show own_Ends p e below s _ _ _ T0 (mkF m 21 #[.val (.int i0), .val (.int i1), .unset] [(.int (90 : Int32)), (.int i0)])
    by_cases hc21 : (90 : Int32) < i0
    · have hv_f_t := hv_f.trans (if_pos hc21)
      refine own_step (fun _ => XS.icmpNo X0.here hx rfl (hb hby d1_21) rfl (tlt hc21).2.2.2) ?_
      show own_Ends p e below s _ _ _ T0 (mkF m 24 #[.val (.int i0), .val (.int i1), .unset] [])
      exact b1_24 C Z0 X0 e0 N0 i0 i1 _ hv_f_t
    · have hv_f_f := hv_f.trans (if_neg hc21)
      refine own_step (fun _ => XS.icmpYes X0.here hx rfl (pc0 := 21) (pc' := 60) rfl (hb hby d1_21) rfl (flt hc21).2.2.2 (by decide) (by decide)) ?_
      show own_Ends p e below s _ _ _ T0 (mkF m 60 #[.val (.int i0), .val (.int i1), .unset] [])
      exact b1_60 C Z0 X0 e0 N0 i0 i1 _ hv_f_f
def f1_0 (i0 : Int32) (i1 : Int32) : Int32 := (if i0 < (97 : Int32) then (f1_12 i0 i1) else (if (122 : Int32) < i0 then (f1_12 i0 i1) else (f1_60 i0 i1)))
set_option maxRecDepth 65536 in
set_option maxHeartbeats 40000000 in
theorem b1_0 {p : Program} {l : Launch} {e : Env} {s : State} {m : MethodId} {args : Array Value} {below : List Frame} {meth : Method} {c : Code} {Z : State} {a0 : Array Value} {h0 : Heap} {n0 : Nat} (C : own_C "com/example/canonsign/canonsign/http/PercentEncoding" prog_27_method_6_code 3 (some .boolean) "isKept" p s m meth c Z a0) (Z0 : n0 ≤ h0.size) {T0 : State} {locs : List Loc} (X0 : Stand p l e ({ frames := 0, cells := 0, slots := 0, locals := 0 } : Room) s m args below meth c T0 locs 0 0) (e0 : T0.heap = h0) (N0 : Fr n0 locs) (i0 : Int32) (i1 : Int32) (W : Int32) (hv : W = f1_0 i0 i1) :
    own_Ends p e below s ({ frames := 0, cells := 0, slots := 0, locals := 0 } : Room).cells ({ frames := 0, cells := 0, slots := 0, locals := 0 } : Room).slots (own_Q n0 h0 (some (.int W))) T0 (mkF m 0 #[.val (.int i0), .val (.int i1), .unset] []) := by
  obtain ⟨hx, hZ, hw, hby, hml, hown, hret, hlk, hnm⟩ := C
  have C : own_C "com/example/canonsign/canonsign/http/PercentEncoding" prog_27_method_6_code 3 (some .boolean) "isKept" p s m meth c Z a0 := ⟨hx, hZ, hw, hby, hml, hown, hret, hlk, hnm⟩
  unfold f1_0 at hv
  refine own_step (fun _ => XS.iloadN X0.here hx rfl (hb hby d1_0) rfl) ?_
  show own_Ends p e below s _ _ _ T0 (mkF m 1 #[.val (.int i0), .val (.int i1), .unset] [(.int i0)])
  refine own_step (fun _ => XS.bipush X0.here hx rfl (hb hby d1_1)) ?_
  show own_Ends p e below s _ _ _ T0 (mkF m 3 #[.val (.int i0), .val (.int i1), .unset] [(.int (97 : Int32)), (.int i0)])
  by_cases hc3 : i0 < (97 : Int32)
  · have hv_t := hv.trans (if_pos hc3)
    refine own_step (fun _ => XS.icmpYes X0.here hx rfl (pc0 := 3) (pc' := 12) rfl (hb hby d1_3) rfl (tlt hc3).1 (by decide) (by decide)) ?_
    show own_Ends p e below s _ _ _ T0 (mkF m 12 #[.val (.int i0), .val (.int i1), .unset] [])
    exact b1_12 C Z0 X0 e0 N0 i0 i1 _ hv_t
  · have hv_f := hv.trans (if_neg hc3)
    refine own_step (fun _ => XS.icmpNo X0.here hx rfl (hb hby d1_3) rfl (flt hc3).1) ?_
    show own_Ends p e below s _ _ _ T0 (mkF m 6 #[.val (.int i0), .val (.int i1), .unset] [])
    refine own_step (fun _ => XS.iloadN X0.here hx rfl (hb hby d1_6) rfl) ?_
    show own_Ends p e below s _ _ _ T0 (mkF m 7 #[.val (.int i0), .val (.int i1), .unset] [(.int i0)])
    refine own_step (fun _ => XS.bipush X0.here hx rfl (hb hby d1_7)) ?_
    show own_Ends p e below s _ _ _ T0 (mkF m 9 #[.val (.int i0), .val (.int i1), .unset] [(.int (122 : Int32)), (.int i0)])
    by_cases hc9 : (122 : Int32) < i0
    · have hv_f_t := hv_f.trans (if_pos hc9)
      refine own_step (fun _ => XS.icmpNo X0.here hx rfl (hb hby d1_9) rfl (tlt hc9).2.2.2) ?_
      show own_Ends p e below s _ _ _ T0 (mkF m 12 #[.val (.int i0), .val (.int i1), .unset] [])
      exact b1_12 C Z0 X0 e0 N0 i0 i1 _ hv_f_t
    · have hv_f_f := hv_f.trans (if_neg hc9)
      refine own_step (fun _ => XS.icmpYes X0.here hx rfl (pc0 := 9) (pc' := 60) rfl (hb hby d1_9) rfl (flt hc9).2.2.2 (by decide) (by decide)) ?_
      show own_Ends p e below s _ _ _ T0 (mkF m 60 #[.val (.int i0), .val (.int i1), .unset] [])
      exact b1_60 C Z0 X0 e0 N0 i0 i1 _ hv_f_f
theorem ef_rm1 (m : MethodId) (i0 : Int32) (i1 : Int32) : entryFrame m #[(.int i0), (.int i1)] 3 = mkF m 0 #[.val (.int i0), .val (.int i1), .unset] [] := by first | (simp [entryFrame, mkF, argsToLocals, Value.category]; done) | rfl
set_option maxRecDepth 65536 in
set_option maxHeartbeats 40000000 in
theorem rm1 (l : Launch) (Z : State) (a0 : Array Value) (hw : ∀ d ∈ tables_1, d.before a0 Z = true) (ws : List Jvm.Cond) (i0 : Int32) (i1 : Int32) (h0 : Heap) (n0 : Nat) (Z0 : n0 ≤ h0.size) :
    MetFree l (⟨"com/example/canonsign/canonsign/http/PercentEncoding", "isKept", "(BZ)Z"⟩ : MethodName) (head1 (Jvm.Cond.code (⟨"com/example/canonsign/canonsign/http/PercentEncoding", "isKept", "(BZ)Z"⟩ : MethodName) prog_27_method_6_code 3 (some .boolean) :: ws) ({ frames := 0, cells := 0, slots := 0, locals := 0 } : Room)) (fun a U => a = #[(.int i0), (.int i1)] ∧ Z.Warmed39 U.vm ∧ U.heap = h0) (fun _ _ _ _ _ => True) (fun _ U o U' => ∃ v L, o = .returned v ∧ (own_Q n0 h0 (some (.int (f1_0 i0 i1)))) v U'.heap L ∧ FrameEnd U o U' L ({ frames := 0, cells := 0, slots := 0, locals := 0 } : Room).cells ({ frames := 0, cells := 0, slots := 0, locals := 0 } : Room).slots) := by
  refine MetFree.of_bodySF (plainFor_of_name pn_0) hisR ?_
  intro p e s m args below meth c s₁ Bd hml0 hP hK
  obtain ⟨rfl, hZ, hh⟩ := hP
  have X0 : Stand p l e ({ frames := 0, cells := 0, slots := 0, locals := 0 } : Room) s m #[(.int i0), (.int i1)] below meth c s₁ [] 0 0 := Stand.of_body Bd
  have e0 : s₁.heap = h0 := by rw [← hh, Bd.state]; rfl
  have C : own_C "com/example/canonsign/canonsign/http/PercentEncoding" prog_27_method_6_code 3 (some .boolean) "isKept" p s m meth c Z a0 := ⟨Bd.exec, hZ, hw, Bd.bytes, hml0, findClass_of_methodNamed Bd.named, Bd.returns, Bd.notSynchronized, (name_of_methodNamed Bd.named Bd.method).1⟩
  have r := b1_0 C Z0 X0 e0 (Fr.nil n0) i0 i1 _ rfl
  rw [ef_rm1 m i0 i1]
  exact r
theorem d2_0 : decode method_2_code 0 = .ok (.iload_n 0, 1) := by decide +kernel
theorem d2_1 : decode method_2_code 1 = .ok (.bipush 32, 2) := by decide +kernel
theorem d2_3 : decode method_2_code 3 = .ok (.ior, 1) := by decide +kernel
theorem d2_4 : decode method_2_code 4 = .ok (.istore_n 2, 1) := by decide +kernel
theorem d2_5 : decode method_2_code 5 = .ok (.iload_n 2, 1) := by decide +kernel
theorem d2_6 : decode method_2_code 6 = .ok (.bipush 97, 2) := by decide +kernel
theorem d2_8 : decode method_2_code 8 = .ok (.if_icmp .lt 13, 3) := by decide +kernel
theorem d2_11 : decode method_2_code 11 = .ok (.iload_n 2, 1) := by decide +kernel
theorem d2_12 : decode method_2_code 12 = .ok (.bipush 122, 2) := by decide +kernel
theorem d2_14 : decode method_2_code 14 = .ok (.if_icmp .gt 7, 3) := by decide +kernel
theorem d2_17 : decode method_2_code 17 = .ok (.iconst 1, 1) := by decide +kernel
theorem d2_18 : decode method_2_code 18 = .ok (.goto 4, 3) := by decide +kernel
theorem d2_21 : decode method_2_code 21 = .ok (.iconst 0, 1) := by decide +kernel
theorem d2_22 : decode method_2_code 22 = .ok (.istore_n 3, 1) := by decide +kernel
theorem d2_23 : decode method_2_code 23 = .ok (.iload_n 0, 1) := by decide +kernel
theorem d2_24 : decode method_2_code 24 = .ok (.bipush 48, 2) := by decide +kernel
theorem d2_26 : decode method_2_code 26 = .ok (.if_icmp .lt 13, 3) := by decide +kernel
theorem d2_29 : decode method_2_code 29 = .ok (.iload_n 0, 1) := by decide +kernel
theorem d2_30 : decode method_2_code 30 = .ok (.bipush 57, 2) := by decide +kernel
theorem d2_32 : decode method_2_code 32 = .ok (.if_icmp .gt 7, 3) := by decide +kernel
theorem d2_35 : decode method_2_code 35 = .ok (.iconst 1, 1) := by decide +kernel
theorem d2_36 : decode method_2_code 36 = .ok (.goto 4, 3) := by decide +kernel
theorem d2_39 : decode method_2_code 39 = .ok (.iconst 0, 1) := by decide +kernel
theorem d2_40 : decode method_2_code 40 = .ok (.istore 4, 2) := by decide +kernel
theorem d2_42 : decode method_2_code 42 = .ok (.iload_n 0, 1) := by decide +kernel
theorem d2_43 : decode method_2_code 43 = .ok (.bipush 45, 2) := by decide +kernel
theorem d2_45 : decode method_2_code 45 = .ok (.if_icmp .eq 21, 3) := by decide +kernel
theorem d2_48 : decode method_2_code 48 = .ok (.iload_n 0, 1) := by decide +kernel
theorem d2_49 : decode method_2_code 49 = .ok (.bipush 46, 2) := by decide +kernel
theorem d2_51 : decode method_2_code 51 = .ok (.if_icmp .eq 15, 3) := by decide +kernel
theorem d2_54 : decode method_2_code 54 = .ok (.iload_n 0, 1) := by decide +kernel
theorem d2_55 : decode method_2_code 55 = .ok (.bipush 95, 2) := by decide +kernel
theorem d2_57 : decode method_2_code 57 = .ok (.if_icmp .eq 9, 3) := by decide +kernel
theorem d2_60 : decode method_2_code 60 = .ok (.iload_n 0, 1) := by decide +kernel
theorem d2_61 : decode method_2_code 61 = .ok (.bipush 126, 2) := by decide +kernel
theorem d2_63 : decode method_2_code 63 = .ok (.if_icmp .ne 7, 3) := by decide +kernel
theorem d2_66 : decode method_2_code 66 = .ok (.iconst 1, 1) := by decide +kernel
theorem d2_67 : decode method_2_code 67 = .ok (.goto 4, 3) := by decide +kernel
theorem d2_70 : decode method_2_code 70 = .ok (.iconst 0, 1) := by decide +kernel
theorem d2_71 : decode method_2_code 71 = .ok (.istore 5, 2) := by decide +kernel
theorem d2_73 : decode method_2_code 73 = .ok (.iload_n 1, 1) := by decide +kernel
theorem d2_74 : decode method_2_code 74 = .ok (.ifCond .eq 13, 3) := by decide +kernel
theorem d2_77 : decode method_2_code 77 = .ok (.iload_n 0, 1) := by decide +kernel
theorem d2_78 : decode method_2_code 78 = .ok (.bipush 47, 2) := by decide +kernel
theorem d2_80 : decode method_2_code 80 = .ok (.if_icmp .ne 7, 3) := by decide +kernel
theorem d2_83 : decode method_2_code 83 = .ok (.iconst 1, 1) := by decide +kernel
theorem d2_84 : decode method_2_code 84 = .ok (.goto 4, 3) := by decide +kernel
theorem d2_87 : decode method_2_code 87 = .ok (.iconst 0, 1) := by decide +kernel
theorem d2_88 : decode method_2_code 88 = .ok (.istore 6, 2) := by decide +kernel
theorem d2_90 : decode method_2_code 90 = .ok (.iload_n 3, 1) := by decide +kernel
theorem d2_91 : decode method_2_code 91 = .ok (.ifCond .ne 18, 3) := by decide +kernel
theorem d2_94 : decode method_2_code 94 = .ok (.iload 4, 2) := by decide +kernel
theorem d2_96 : decode method_2_code 96 = .ok (.ifCond .ne 13, 3) := by decide +kernel
theorem d2_99 : decode method_2_code 99 = .ok (.iload 5, 2) := by decide +kernel
theorem d2_101 : decode method_2_code 101 = .ok (.ifCond .ne 8, 3) := by decide +kernel
theorem d2_104 : decode method_2_code 104 = .ok (.iload 6, 2) := by decide +kernel
theorem d2_106 : decode method_2_code 106 = .ok (.ifCond .eq 7, 3) := by decide +kernel
theorem d2_109 : decode method_2_code 109 = .ok (.iconst 1, 1) := by decide +kernel
theorem d2_110 : decode method_2_code 110 = .ok (.goto 4, 3) := by decide +kernel
theorem d2_113 : decode method_2_code 113 = .ok (.iconst 0, 1) := by decide +kernel
theorem d2_114 : decode method_2_code 114 = .ok (.ireturn, 1) := by decide +kernel
def f2_88 (i0 : Int32) (i1 : Int32) (is0_22 : Int32) (is0_40 : Int32) (is0_71 : Int32) (is0_88 : Int32) : Int32 := (if is0_22 = (0 : Int32) then (if is0_40 = (0 : Int32) then (if is0_71 = (0 : Int32) then (if is0_88 = (0 : Int32) then (0 : Int32) else (1 : Int32)) else (1 : Int32)) else (1 : Int32)) else (1 : Int32))
set_option maxRecDepth 65536 in
set_option maxHeartbeats 40000000 in
theorem b2_88 {p : Program} {l : Launch} {e : Env} {s : State} {m : MethodId} {args : Array Value} {below : List Frame} {meth : Method} {c : Code} {Z : State} {a0 : Array Value} {h0 : Heap} {n0 : Nat} (C : own_C "com/example/canonsign/canonsign/http/PercentEncodingIsKeptPinLaw" method_2_code 7 (some .boolean) "expected" p s m meth c Z a0) (Z0 : n0 ≤ h0.size) {T0 : State} {locs : List Loc} (X0 : Stand p l e ({ frames := 0, cells := 0, slots := 0, locals := 0 } : Room) s m args below meth c T0 locs 0 0) (e0 : T0.heap = h0) (N0 : Fr n0 locs) (i0 : Int32) (i1 : Int32) (is0_22 : Int32) (is0_40 : Int32) (is0_71 : Int32) (is0_88 : Int32) (W : Int32) (hv : W = f2_88 i0 i1 is0_22 is0_40 is0_71 is0_88) :
    own_Ends p e below s ({ frames := 0, cells := 0, slots := 0, locals := 0 } : Room).cells ({ frames := 0, cells := 0, slots := 0, locals := 0 } : Room).slots (own_Q n0 h0 (some (.int W))) T0 (mkF m 88 #[.val (.int i0), .val (.int i1), .val (.int (i0 ||| (32 : Int32))), .val (.int is0_22), .val (.int is0_40), .val (.int is0_71), .unset] [(.int is0_88)]) := by
  obtain ⟨hx, hZ, hw, hby, hml, hown, hret, hlk, hnm⟩ := C
  have C : own_C "com/example/canonsign/canonsign/http/PercentEncodingIsKeptPinLaw" method_2_code 7 (some .boolean) "expected" p s m meth c Z a0 := ⟨hx, hZ, hw, hby, hml, hown, hret, hlk, hnm⟩
  unfold f2_88 at hv
  refine own_step (fun _ => XS.istore X0.here hx rfl (hb hby d2_88) rfl (l' := #[.val (.int i0), .val (.int i1), .val (.int (i0 ||| (32 : Int32))), .val (.int is0_22), .val (.int is0_40), .val (.int is0_71), .val (.int is0_88)]) rfl) ?_
  show own_Ends p e below s _ _ _ T0 (mkF m 90 #[.val (.int i0), .val (.int i1), .val (.int (i0 ||| (32 : Int32))), .val (.int is0_22), .val (.int is0_40), .val (.int is0_71), .val (.int is0_88)] [])
  refine own_step (fun _ => XS.iloadN X0.here hx rfl (hb hby d2_90) rfl) ?_
  show own_Ends p e below s _ _ _ T0 (mkF m 91 #[.val (.int i0), .val (.int i1), .val (.int (i0 ||| (32 : Int32))), .val (.int is0_22), .val (.int is0_40), .val (.int is0_71), .val (.int is0_88)] [(.int is0_22)])
  by_cases hc91 : is0_22 = (0 : Int32)
  · have hv_t := hv.trans (if_pos hc91)
    refine own_step (fun _ => XS.ifNo X0.here hx rfl (hb hby d2_91) rfl ((if0 _ _).trans (teq hc91).2)) ?_
    show own_Ends p e below s _ _ _ T0 (mkF m 94 #[.val (.int i0), .val (.int i1), .val (.int (i0 ||| (32 : Int32))), .val (.int is0_22), .val (.int is0_40), .val (.int is0_71), .val (.int is0_88)] [])
    refine own_step (fun _ => XS.iload X0.here hx rfl (hb hby d2_94) rfl) ?_
    show own_Ends p e below s _ _ _ T0 (mkF m 96 #[.val (.int i0), .val (.int i1), .val (.int (i0 ||| (32 : Int32))), .val (.int is0_22), .val (.int is0_40), .val (.int is0_71), .val (.int is0_88)] [(.int is0_40)])
    by_cases hc96 : is0_40 = (0 : Int32)
    · have hv_t_t := hv_t.trans (if_pos hc96)
      refine own_step (fun _ => XS.ifNo X0.here hx rfl (hb hby d2_96) rfl ((if0 _ _).trans (teq hc96).2)) ?_
      show own_Ends p e below s _ _ _ T0 (mkF m 99 #[.val (.int i0), .val (.int i1), .val (.int (i0 ||| (32 : Int32))), .val (.int is0_22), .val (.int is0_40), .val (.int is0_71), .val (.int is0_88)] [])
      refine own_step (fun _ => XS.iload X0.here hx rfl (hb hby d2_99) rfl) ?_
      show own_Ends p e below s _ _ _ T0 (mkF m 101 #[.val (.int i0), .val (.int i1), .val (.int (i0 ||| (32 : Int32))), .val (.int is0_22), .val (.int is0_40), .val (.int is0_71), .val (.int is0_88)] [(.int is0_71)])
      by_cases hc101 : is0_71 = (0 : Int32)
      · have hv_t_t_t := hv_t_t.trans (if_pos hc101)
        refine own_step (fun _ => XS.ifNo X0.here hx rfl (hb hby d2_101) rfl ((if0 _ _).trans (teq hc101).2)) ?_
        show own_Ends p e below s _ _ _ T0 (mkF m 104 #[.val (.int i0), .val (.int i1), .val (.int (i0 ||| (32 : Int32))), .val (.int is0_22), .val (.int is0_40), .val (.int is0_71), .val (.int is0_88)] [])
        refine own_step (fun _ => XS.iload X0.here hx rfl (hb hby d2_104) rfl) ?_
        show own_Ends p e below s _ _ _ T0 (mkF m 106 #[.val (.int i0), .val (.int i1), .val (.int (i0 ||| (32 : Int32))), .val (.int is0_22), .val (.int is0_40), .val (.int is0_71), .val (.int is0_88)] [(.int is0_88)])
        by_cases hc106 : is0_88 = (0 : Int32)
        · have hv_t_t_t_t := hv_t_t_t.trans (if_pos hc106)
          refine own_step (fun _ => XS.ifYes X0.here hx rfl (pc0 := 106) (pc' := 113) rfl (hb hby d2_106) rfl ((if0 _ _).trans (teq hc106).1) (by decide) (by decide)) ?_
          show own_Ends p e below s _ _ _ T0 (mkF m 113 #[.val (.int i0), .val (.int i1), .val (.int (i0 ||| (32 : Int32))), .val (.int is0_22), .val (.int is0_40), .val (.int is0_71), .val (.int is0_88)] [])
          refine own_step (fun _ => XS.iconst X0.here hx rfl (hb hby d2_113)) ?_
          show own_Ends p e below s _ _ _ T0 (mkF m 114 #[.val (.int i0), .val (.int i1), .val (.int (i0 ||| (32 : Int32))), .val (.int is0_22), .val (.int is0_40), .val (.int is0_71), .val (.int is0_88)] [(.int (0 : Int32))])
          exact own_retN X0 (t := .boolean) hx hret hlk (hb hby d2_114) (by decide) (by decide) (by simp) ⟨congrArg (fun z => some (Value.int z)) hv_t_t_t_t.symm, N0, e0⟩
        · have hv_t_t_t_f := hv_t_t_t.trans (if_neg hc106)
          refine own_step (fun _ => XS.ifNo X0.here hx rfl (hb hby d2_106) rfl ((if0 _ _).trans (feq hc106).1)) ?_
          show own_Ends p e below s _ _ _ T0 (mkF m 109 #[.val (.int i0), .val (.int i1), .val (.int (i0 ||| (32 : Int32))), .val (.int is0_22), .val (.int is0_40), .val (.int is0_71), .val (.int is0_88)] [])
          refine own_step (fun _ => XS.iconst X0.here hx rfl (hb hby d2_109)) ?_
          show own_Ends p e below s _ _ _ T0 (mkF m 110 #[.val (.int i0), .val (.int i1), .val (.int (i0 ||| (32 : Int32))), .val (.int is0_22), .val (.int is0_40), .val (.int is0_71), .val (.int is0_88)] [(.int (1 : Int32))])
          refine own_step (fun _ => XS.goto X0.here hx rfl (pc0 := 110) (pc' := 114) rfl (hb hby d2_110) (by decide) (by decide)) ?_
          show own_Ends p e below s _ _ _ T0 (mkF m 114 #[.val (.int i0), .val (.int i1), .val (.int (i0 ||| (32 : Int32))), .val (.int is0_22), .val (.int is0_40), .val (.int is0_71), .val (.int is0_88)] [(.int (1 : Int32))])
          exact own_retN X0 (t := .boolean) hx hret hlk (hb hby d2_114) (by decide) (by decide) (by simp) ⟨congrArg (fun z => some (Value.int z)) hv_t_t_t_f.symm, N0, e0⟩
      · have hv_t_t_f := hv_t_t.trans (if_neg hc101)
        refine own_step (fun _ => XS.ifYes X0.here hx rfl (pc0 := 101) (pc' := 109) rfl (hb hby d2_101) rfl ((if0 _ _).trans (feq hc101).2) (by decide) (by decide)) ?_
        show own_Ends p e below s _ _ _ T0 (mkF m 109 #[.val (.int i0), .val (.int i1), .val (.int (i0 ||| (32 : Int32))), .val (.int is0_22), .val (.int is0_40), .val (.int is0_71), .val (.int is0_88)] [])
        refine own_step (fun _ => XS.iconst X0.here hx rfl (hb hby d2_109)) ?_
        show own_Ends p e below s _ _ _ T0 (mkF m 110 #[.val (.int i0), .val (.int i1), .val (.int (i0 ||| (32 : Int32))), .val (.int is0_22), .val (.int is0_40), .val (.int is0_71), .val (.int is0_88)] [(.int (1 : Int32))])
        refine own_step (fun _ => XS.goto X0.here hx rfl (pc0 := 110) (pc' := 114) rfl (hb hby d2_110) (by decide) (by decide)) ?_
        show own_Ends p e below s _ _ _ T0 (mkF m 114 #[.val (.int i0), .val (.int i1), .val (.int (i0 ||| (32 : Int32))), .val (.int is0_22), .val (.int is0_40), .val (.int is0_71), .val (.int is0_88)] [(.int (1 : Int32))])
        exact own_retN X0 (t := .boolean) hx hret hlk (hb hby d2_114) (by decide) (by decide) (by simp) ⟨congrArg (fun z => some (Value.int z)) hv_t_t_f.symm, N0, e0⟩
    · have hv_t_f := hv_t.trans (if_neg hc96)
      refine own_step (fun _ => XS.ifYes X0.here hx rfl (pc0 := 96) (pc' := 109) rfl (hb hby d2_96) rfl ((if0 _ _).trans (feq hc96).2) (by decide) (by decide)) ?_
      show own_Ends p e below s _ _ _ T0 (mkF m 109 #[.val (.int i0), .val (.int i1), .val (.int (i0 ||| (32 : Int32))), .val (.int is0_22), .val (.int is0_40), .val (.int is0_71), .val (.int is0_88)] [])
      refine own_step (fun _ => XS.iconst X0.here hx rfl (hb hby d2_109)) ?_
      show own_Ends p e below s _ _ _ T0 (mkF m 110 #[.val (.int i0), .val (.int i1), .val (.int (i0 ||| (32 : Int32))), .val (.int is0_22), .val (.int is0_40), .val (.int is0_71), .val (.int is0_88)] [(.int (1 : Int32))])
      refine own_step (fun _ => XS.goto X0.here hx rfl (pc0 := 110) (pc' := 114) rfl (hb hby d2_110) (by decide) (by decide)) ?_
      show own_Ends p e below s _ _ _ T0 (mkF m 114 #[.val (.int i0), .val (.int i1), .val (.int (i0 ||| (32 : Int32))), .val (.int is0_22), .val (.int is0_40), .val (.int is0_71), .val (.int is0_88)] [(.int (1 : Int32))])
      exact own_retN X0 (t := .boolean) hx hret hlk (hb hby d2_114) (by decide) (by decide) (by simp) ⟨congrArg (fun z => some (Value.int z)) hv_t_f.symm, N0, e0⟩
  · have hv_f := hv.trans (if_neg hc91)
    refine own_step (fun _ => XS.ifYes X0.here hx rfl (pc0 := 91) (pc' := 109) rfl (hb hby d2_91) rfl ((if0 _ _).trans (feq hc91).2) (by decide) (by decide)) ?_
    show own_Ends p e below s _ _ _ T0 (mkF m 109 #[.val (.int i0), .val (.int i1), .val (.int (i0 ||| (32 : Int32))), .val (.int is0_22), .val (.int is0_40), .val (.int is0_71), .val (.int is0_88)] [])
    refine own_step (fun _ => XS.iconst X0.here hx rfl (hb hby d2_109)) ?_
    show own_Ends p e below s _ _ _ T0 (mkF m 110 #[.val (.int i0), .val (.int i1), .val (.int (i0 ||| (32 : Int32))), .val (.int is0_22), .val (.int is0_40), .val (.int is0_71), .val (.int is0_88)] [(.int (1 : Int32))])
    refine own_step (fun _ => XS.goto X0.here hx rfl (pc0 := 110) (pc' := 114) rfl (hb hby d2_110) (by decide) (by decide)) ?_
    show own_Ends p e below s _ _ _ T0 (mkF m 114 #[.val (.int i0), .val (.int i1), .val (.int (i0 ||| (32 : Int32))), .val (.int is0_22), .val (.int is0_40), .val (.int is0_71), .val (.int is0_88)] [(.int (1 : Int32))])
    exact own_retN X0 (t := .boolean) hx hret hlk (hb hby d2_114) (by decide) (by decide) (by simp) ⟨congrArg (fun z => some (Value.int z)) hv_f.symm, N0, e0⟩
def f2_87 (i0 : Int32) (i1 : Int32) (is0_22 : Int32) (is0_40 : Int32) (is0_71 : Int32) : Int32 := (f2_88 i0 i1 is0_22 is0_40 is0_71 (0 : Int32))
set_option maxRecDepth 65536 in
set_option maxHeartbeats 40000000 in
theorem b2_87 {p : Program} {l : Launch} {e : Env} {s : State} {m : MethodId} {args : Array Value} {below : List Frame} {meth : Method} {c : Code} {Z : State} {a0 : Array Value} {h0 : Heap} {n0 : Nat} (C : own_C "com/example/canonsign/canonsign/http/PercentEncodingIsKeptPinLaw" method_2_code 7 (some .boolean) "expected" p s m meth c Z a0) (Z0 : n0 ≤ h0.size) {T0 : State} {locs : List Loc} (X0 : Stand p l e ({ frames := 0, cells := 0, slots := 0, locals := 0 } : Room) s m args below meth c T0 locs 0 0) (e0 : T0.heap = h0) (N0 : Fr n0 locs) (i0 : Int32) (i1 : Int32) (is0_22 : Int32) (is0_40 : Int32) (is0_71 : Int32) (W : Int32) (hv : W = f2_87 i0 i1 is0_22 is0_40 is0_71) :
    own_Ends p e below s ({ frames := 0, cells := 0, slots := 0, locals := 0 } : Room).cells ({ frames := 0, cells := 0, slots := 0, locals := 0 } : Room).slots (own_Q n0 h0 (some (.int W))) T0 (mkF m 87 #[.val (.int i0), .val (.int i1), .val (.int (i0 ||| (32 : Int32))), .val (.int is0_22), .val (.int is0_40), .val (.int is0_71), .unset] []) := by
  obtain ⟨hx, hZ, hw, hby, hml, hown, hret, hlk, hnm⟩ := C
  have C : own_C "com/example/canonsign/canonsign/http/PercentEncodingIsKeptPinLaw" method_2_code 7 (some .boolean) "expected" p s m meth c Z a0 := ⟨hx, hZ, hw, hby, hml, hown, hret, hlk, hnm⟩
  unfold f2_87 at hv
  refine own_step (fun _ => XS.iconst X0.here hx rfl (hb hby d2_87)) ?_
  show own_Ends p e below s _ _ _ T0 (mkF m 88 #[.val (.int i0), .val (.int i1), .val (.int (i0 ||| (32 : Int32))), .val (.int is0_22), .val (.int is0_40), .val (.int is0_71), .unset] [(.int (0 : Int32))])
  exact b2_88 C Z0 X0 e0 N0 i0 i1 is0_22 is0_40 is0_71 (0 : Int32) _ hv
def f2_71 (i0 : Int32) (i1 : Int32) (is0_22 : Int32) (is0_40 : Int32) (is0_71 : Int32) : Int32 := (if i1 = (0 : Int32) then (f2_87 i0 i1 is0_22 is0_40 is0_71) else (if i0 = (47 : Int32) then (f2_88 i0 i1 is0_22 is0_40 is0_71 (1 : Int32)) else (f2_87 i0 i1 is0_22 is0_40 is0_71)))
set_option maxRecDepth 65536 in
set_option maxHeartbeats 40000000 in
theorem b2_71 {p : Program} {l : Launch} {e : Env} {s : State} {m : MethodId} {args : Array Value} {below : List Frame} {meth : Method} {c : Code} {Z : State} {a0 : Array Value} {h0 : Heap} {n0 : Nat} (C : own_C "com/example/canonsign/canonsign/http/PercentEncodingIsKeptPinLaw" method_2_code 7 (some .boolean) "expected" p s m meth c Z a0) (Z0 : n0 ≤ h0.size) {T0 : State} {locs : List Loc} (X0 : Stand p l e ({ frames := 0, cells := 0, slots := 0, locals := 0 } : Room) s m args below meth c T0 locs 0 0) (e0 : T0.heap = h0) (N0 : Fr n0 locs) (i0 : Int32) (i1 : Int32) (is0_22 : Int32) (is0_40 : Int32) (is0_71 : Int32) (W : Int32) (hv : W = f2_71 i0 i1 is0_22 is0_40 is0_71) :
    own_Ends p e below s ({ frames := 0, cells := 0, slots := 0, locals := 0 } : Room).cells ({ frames := 0, cells := 0, slots := 0, locals := 0 } : Room).slots (own_Q n0 h0 (some (.int W))) T0 (mkF m 71 #[.val (.int i0), .val (.int i1), .val (.int (i0 ||| (32 : Int32))), .val (.int is0_22), .val (.int is0_40), .unset, .unset] [(.int is0_71)]) := by
  obtain ⟨hx, hZ, hw, hby, hml, hown, hret, hlk, hnm⟩ := C
  have C : own_C "com/example/canonsign/canonsign/http/PercentEncodingIsKeptPinLaw" method_2_code 7 (some .boolean) "expected" p s m meth c Z a0 := ⟨hx, hZ, hw, hby, hml, hown, hret, hlk, hnm⟩
  unfold f2_71 at hv
  refine own_step (fun _ => XS.istore X0.here hx rfl (hb hby d2_71) rfl (l' := #[.val (.int i0), .val (.int i1), .val (.int (i0 ||| (32 : Int32))), .val (.int is0_22), .val (.int is0_40), .val (.int is0_71), .unset]) rfl) ?_
  show own_Ends p e below s _ _ _ T0 (mkF m 73 #[.val (.int i0), .val (.int i1), .val (.int (i0 ||| (32 : Int32))), .val (.int is0_22), .val (.int is0_40), .val (.int is0_71), .unset] [])
  refine own_step (fun _ => XS.iloadN X0.here hx rfl (hb hby d2_73) rfl) ?_
  show own_Ends p e below s _ _ _ T0 (mkF m 74 #[.val (.int i0), .val (.int i1), .val (.int (i0 ||| (32 : Int32))), .val (.int is0_22), .val (.int is0_40), .val (.int is0_71), .unset] [(.int i1)])
  by_cases hc74 : i1 = (0 : Int32)
  · have hv_t := hv.trans (if_pos hc74)
    refine own_step (fun _ => XS.ifYes X0.here hx rfl (pc0 := 74) (pc' := 87) rfl (hb hby d2_74) rfl ((if0 _ _).trans (teq hc74).1) (by decide) (by decide)) ?_
    show own_Ends p e below s _ _ _ T0 (mkF m 87 #[.val (.int i0), .val (.int i1), .val (.int (i0 ||| (32 : Int32))), .val (.int is0_22), .val (.int is0_40), .val (.int is0_71), .unset] [])
    exact b2_87 C Z0 X0 e0 N0 i0 i1 is0_22 is0_40 is0_71 _ hv_t
  · have hv_f := hv.trans (if_neg hc74)
    refine own_step (fun _ => XS.ifNo X0.here hx rfl (hb hby d2_74) rfl ((if0 _ _).trans (feq hc74).1)) ?_
    show own_Ends p e below s _ _ _ T0 (mkF m 77 #[.val (.int i0), .val (.int i1), .val (.int (i0 ||| (32 : Int32))), .val (.int is0_22), .val (.int is0_40), .val (.int is0_71), .unset] [])
    refine own_step (fun _ => XS.iloadN X0.here hx rfl (hb hby d2_77) rfl) ?_
    show own_Ends p e below s _ _ _ T0 (mkF m 78 #[.val (.int i0), .val (.int i1), .val (.int (i0 ||| (32 : Int32))), .val (.int is0_22), .val (.int is0_40), .val (.int is0_71), .unset] [(.int i0)])
    refine own_step (fun _ => XS.bipush X0.here hx rfl (hb hby d2_78)) ?_
    show own_Ends p e below s _ _ _ T0 (mkF m 80 #[.val (.int i0), .val (.int i1), .val (.int (i0 ||| (32 : Int32))), .val (.int is0_22), .val (.int is0_40), .val (.int is0_71), .unset] [(.int (47 : Int32)), (.int i0)])
    by_cases hc80 : i0 = (47 : Int32)
    · have hv_f_t := hv_f.trans (if_pos hc80)
      refine own_step (fun _ => XS.icmpNo X0.here hx rfl (hb hby d2_80) rfl (teq hc80).2) ?_
      show own_Ends p e below s _ _ _ T0 (mkF m 83 #[.val (.int i0), .val (.int i1), .val (.int (i0 ||| (32 : Int32))), .val (.int is0_22), .val (.int is0_40), .val (.int is0_71), .unset] [])
      refine own_step (fun _ => XS.iconst X0.here hx rfl (hb hby d2_83)) ?_
      show own_Ends p e below s _ _ _ T0 (mkF m 84 #[.val (.int i0), .val (.int i1), .val (.int (i0 ||| (32 : Int32))), .val (.int is0_22), .val (.int is0_40), .val (.int is0_71), .unset] [(.int (1 : Int32))])
      refine own_step (fun _ => XS.goto X0.here hx rfl (pc0 := 84) (pc' := 88) rfl (hb hby d2_84) (by decide) (by decide)) ?_
      show own_Ends p e below s _ _ _ T0 (mkF m 88 #[.val (.int i0), .val (.int i1), .val (.int (i0 ||| (32 : Int32))), .val (.int is0_22), .val (.int is0_40), .val (.int is0_71), .unset] [(.int (1 : Int32))])
      exact b2_88 C Z0 X0 e0 N0 i0 i1 is0_22 is0_40 is0_71 (1 : Int32) _ hv_f_t
    · have hv_f_f := hv_f.trans (if_neg hc80)
      refine own_step (fun _ => XS.icmpYes X0.here hx rfl (pc0 := 80) (pc' := 87) rfl (hb hby d2_80) rfl (feq hc80).2 (by decide) (by decide)) ?_
      show own_Ends p e below s _ _ _ T0 (mkF m 87 #[.val (.int i0), .val (.int i1), .val (.int (i0 ||| (32 : Int32))), .val (.int is0_22), .val (.int is0_40), .val (.int is0_71), .unset] [])
      exact b2_87 C Z0 X0 e0 N0 i0 i1 is0_22 is0_40 is0_71 _ hv_f_f
def f2_66 (i0 : Int32) (i1 : Int32) (is0_22 : Int32) (is0_40 : Int32) : Int32 := (f2_71 i0 i1 is0_22 is0_40 (1 : Int32))
set_option maxRecDepth 65536 in
set_option maxHeartbeats 40000000 in
theorem b2_66 {p : Program} {l : Launch} {e : Env} {s : State} {m : MethodId} {args : Array Value} {below : List Frame} {meth : Method} {c : Code} {Z : State} {a0 : Array Value} {h0 : Heap} {n0 : Nat} (C : own_C "com/example/canonsign/canonsign/http/PercentEncodingIsKeptPinLaw" method_2_code 7 (some .boolean) "expected" p s m meth c Z a0) (Z0 : n0 ≤ h0.size) {T0 : State} {locs : List Loc} (X0 : Stand p l e ({ frames := 0, cells := 0, slots := 0, locals := 0 } : Room) s m args below meth c T0 locs 0 0) (e0 : T0.heap = h0) (N0 : Fr n0 locs) (i0 : Int32) (i1 : Int32) (is0_22 : Int32) (is0_40 : Int32) (W : Int32) (hv : W = f2_66 i0 i1 is0_22 is0_40) :
    own_Ends p e below s ({ frames := 0, cells := 0, slots := 0, locals := 0 } : Room).cells ({ frames := 0, cells := 0, slots := 0, locals := 0 } : Room).slots (own_Q n0 h0 (some (.int W))) T0 (mkF m 66 #[.val (.int i0), .val (.int i1), .val (.int (i0 ||| (32 : Int32))), .val (.int is0_22), .val (.int is0_40), .unset, .unset] []) := by
  obtain ⟨hx, hZ, hw, hby, hml, hown, hret, hlk, hnm⟩ := C
  have C : own_C "com/example/canonsign/canonsign/http/PercentEncodingIsKeptPinLaw" method_2_code 7 (some .boolean) "expected" p s m meth c Z a0 := ⟨hx, hZ, hw, hby, hml, hown, hret, hlk, hnm⟩
  unfold f2_66 at hv
  refine own_step (fun _ => XS.iconst X0.here hx rfl (hb hby d2_66)) ?_
  show own_Ends p e below s _ _ _ T0 (mkF m 67 #[.val (.int i0), .val (.int i1), .val (.int (i0 ||| (32 : Int32))), .val (.int is0_22), .val (.int is0_40), .unset, .unset] [(.int (1 : Int32))])
  refine own_step (fun _ => XS.goto X0.here hx rfl (pc0 := 67) (pc' := 71) rfl (hb hby d2_67) (by decide) (by decide)) ?_
  show own_Ends p e below s _ _ _ T0 (mkF m 71 #[.val (.int i0), .val (.int i1), .val (.int (i0 ||| (32 : Int32))), .val (.int is0_22), .val (.int is0_40), .unset, .unset] [(.int (1 : Int32))])
  exact b2_71 C Z0 X0 e0 N0 i0 i1 is0_22 is0_40 (1 : Int32) _ hv
def f2_40 (i0 : Int32) (i1 : Int32) (is0_22 : Int32) (is0_40 : Int32) : Int32 := (if i0 = (45 : Int32) then (f2_66 i0 i1 is0_22 is0_40) else (if i0 = (46 : Int32) then (f2_66 i0 i1 is0_22 is0_40) else (if i0 = (95 : Int32) then (f2_66 i0 i1 is0_22 is0_40) else (if i0 = (126 : Int32) then (f2_66 i0 i1 is0_22 is0_40) else (f2_71 i0 i1 is0_22 is0_40 (0 : Int32))))))
set_option maxRecDepth 65536 in
set_option maxHeartbeats 40000000 in
theorem b2_40 {p : Program} {l : Launch} {e : Env} {s : State} {m : MethodId} {args : Array Value} {below : List Frame} {meth : Method} {c : Code} {Z : State} {a0 : Array Value} {h0 : Heap} {n0 : Nat} (C : own_C "com/example/canonsign/canonsign/http/PercentEncodingIsKeptPinLaw" method_2_code 7 (some .boolean) "expected" p s m meth c Z a0) (Z0 : n0 ≤ h0.size) {T0 : State} {locs : List Loc} (X0 : Stand p l e ({ frames := 0, cells := 0, slots := 0, locals := 0 } : Room) s m args below meth c T0 locs 0 0) (e0 : T0.heap = h0) (N0 : Fr n0 locs) (i0 : Int32) (i1 : Int32) (is0_22 : Int32) (is0_40 : Int32) (W : Int32) (hv : W = f2_40 i0 i1 is0_22 is0_40) :
    own_Ends p e below s ({ frames := 0, cells := 0, slots := 0, locals := 0 } : Room).cells ({ frames := 0, cells := 0, slots := 0, locals := 0 } : Room).slots (own_Q n0 h0 (some (.int W))) T0 (mkF m 40 #[.val (.int i0), .val (.int i1), .val (.int (i0 ||| (32 : Int32))), .val (.int is0_22), .unset, .unset, .unset] [(.int is0_40)]) := by
  obtain ⟨hx, hZ, hw, hby, hml, hown, hret, hlk, hnm⟩ := C
  have C : own_C "com/example/canonsign/canonsign/http/PercentEncodingIsKeptPinLaw" method_2_code 7 (some .boolean) "expected" p s m meth c Z a0 := ⟨hx, hZ, hw, hby, hml, hown, hret, hlk, hnm⟩
  unfold f2_40 at hv
  refine own_step (fun _ => XS.istore X0.here hx rfl (hb hby d2_40) rfl (l' := #[.val (.int i0), .val (.int i1), .val (.int (i0 ||| (32 : Int32))), .val (.int is0_22), .val (.int is0_40), .unset, .unset]) rfl) ?_
  show own_Ends p e below s _ _ _ T0 (mkF m 42 #[.val (.int i0), .val (.int i1), .val (.int (i0 ||| (32 : Int32))), .val (.int is0_22), .val (.int is0_40), .unset, .unset] [])
  refine own_step (fun _ => XS.iloadN X0.here hx rfl (hb hby d2_42) rfl) ?_
  show own_Ends p e below s _ _ _ T0 (mkF m 43 #[.val (.int i0), .val (.int i1), .val (.int (i0 ||| (32 : Int32))), .val (.int is0_22), .val (.int is0_40), .unset, .unset] [(.int i0)])
  refine own_step (fun _ => XS.bipush X0.here hx rfl (hb hby d2_43)) ?_
  show own_Ends p e below s _ _ _ T0 (mkF m 45 #[.val (.int i0), .val (.int i1), .val (.int (i0 ||| (32 : Int32))), .val (.int is0_22), .val (.int is0_40), .unset, .unset] [(.int (45 : Int32)), (.int i0)])
  by_cases hc45 : i0 = (45 : Int32)
  · have hv_t := hv.trans (if_pos hc45)
    refine own_step (fun _ => XS.icmpYes X0.here hx rfl (pc0 := 45) (pc' := 66) rfl (hb hby d2_45) rfl (teq hc45).1 (by decide) (by decide)) ?_
    show own_Ends p e below s _ _ _ T0 (mkF m 66 #[.val (.int i0), .val (.int i1), .val (.int (i0 ||| (32 : Int32))), .val (.int is0_22), .val (.int is0_40), .unset, .unset] [])
    exact b2_66 C Z0 X0 e0 N0 i0 i1 is0_22 is0_40 _ hv_t
  · have hv_f := hv.trans (if_neg hc45)
    refine own_step (fun _ => XS.icmpNo X0.here hx rfl (hb hby d2_45) rfl (feq hc45).1) ?_
    show own_Ends p e below s _ _ _ T0 (mkF m 48 #[.val (.int i0), .val (.int i1), .val (.int (i0 ||| (32 : Int32))), .val (.int is0_22), .val (.int is0_40), .unset, .unset] [])
    refine own_step (fun _ => XS.iloadN X0.here hx rfl (hb hby d2_48) rfl) ?_
    show own_Ends p e below s _ _ _ T0 (mkF m 49 #[.val (.int i0), .val (.int i1), .val (.int (i0 ||| (32 : Int32))), .val (.int is0_22), .val (.int is0_40), .unset, .unset] [(.int i0)])
    refine own_step (fun _ => XS.bipush X0.here hx rfl (hb hby d2_49)) ?_
    show own_Ends p e below s _ _ _ T0 (mkF m 51 #[.val (.int i0), .val (.int i1), .val (.int (i0 ||| (32 : Int32))), .val (.int is0_22), .val (.int is0_40), .unset, .unset] [(.int (46 : Int32)), (.int i0)])
    by_cases hc51 : i0 = (46 : Int32)
    · have hv_f_t := hv_f.trans (if_pos hc51)
      refine own_step (fun _ => XS.icmpYes X0.here hx rfl (pc0 := 51) (pc' := 66) rfl (hb hby d2_51) rfl (teq hc51).1 (by decide) (by decide)) ?_
      show own_Ends p e below s _ _ _ T0 (mkF m 66 #[.val (.int i0), .val (.int i1), .val (.int (i0 ||| (32 : Int32))), .val (.int is0_22), .val (.int is0_40), .unset, .unset] [])
      exact b2_66 C Z0 X0 e0 N0 i0 i1 is0_22 is0_40 _ hv_f_t
    · have hv_f_f := hv_f.trans (if_neg hc51)
      refine own_step (fun _ => XS.icmpNo X0.here hx rfl (hb hby d2_51) rfl (feq hc51).1) ?_
      show own_Ends p e below s _ _ _ T0 (mkF m 54 #[.val (.int i0), .val (.int i1), .val (.int (i0 ||| (32 : Int32))), .val (.int is0_22), .val (.int is0_40), .unset, .unset] [])
      refine own_step (fun _ => XS.iloadN X0.here hx rfl (hb hby d2_54) rfl) ?_
      show own_Ends p e below s _ _ _ T0 (mkF m 55 #[.val (.int i0), .val (.int i1), .val (.int (i0 ||| (32 : Int32))), .val (.int is0_22), .val (.int is0_40), .unset, .unset] [(.int i0)])
      refine own_step (fun _ => XS.bipush X0.here hx rfl (hb hby d2_55)) ?_
      show own_Ends p e below s _ _ _ T0 (mkF m 57 #[.val (.int i0), .val (.int i1), .val (.int (i0 ||| (32 : Int32))), .val (.int is0_22), .val (.int is0_40), .unset, .unset] [(.int (95 : Int32)), (.int i0)])
      by_cases hc57 : i0 = (95 : Int32)
      · have hv_f_f_t := hv_f_f.trans (if_pos hc57)
        refine own_step (fun _ => XS.icmpYes X0.here hx rfl (pc0 := 57) (pc' := 66) rfl (hb hby d2_57) rfl (teq hc57).1 (by decide) (by decide)) ?_
        show own_Ends p e below s _ _ _ T0 (mkF m 66 #[.val (.int i0), .val (.int i1), .val (.int (i0 ||| (32 : Int32))), .val (.int is0_22), .val (.int is0_40), .unset, .unset] [])
        exact b2_66 C Z0 X0 e0 N0 i0 i1 is0_22 is0_40 _ hv_f_f_t
      · have hv_f_f_f := hv_f_f.trans (if_neg hc57)
        refine own_step (fun _ => XS.icmpNo X0.here hx rfl (hb hby d2_57) rfl (feq hc57).1) ?_
        show own_Ends p e below s _ _ _ T0 (mkF m 60 #[.val (.int i0), .val (.int i1), .val (.int (i0 ||| (32 : Int32))), .val (.int is0_22), .val (.int is0_40), .unset, .unset] [])
        refine own_step (fun _ => XS.iloadN X0.here hx rfl (hb hby d2_60) rfl) ?_
        show own_Ends p e below s _ _ _ T0 (mkF m 61 #[.val (.int i0), .val (.int i1), .val (.int (i0 ||| (32 : Int32))), .val (.int is0_22), .val (.int is0_40), .unset, .unset] [(.int i0)])
        refine own_step (fun _ => XS.bipush X0.here hx rfl (hb hby d2_61)) ?_
        show own_Ends p e below s _ _ _ T0 (mkF m 63 #[.val (.int i0), .val (.int i1), .val (.int (i0 ||| (32 : Int32))), .val (.int is0_22), .val (.int is0_40), .unset, .unset] [(.int (126 : Int32)), (.int i0)])
        by_cases hc63 : i0 = (126 : Int32)
        · have hv_f_f_f_t := hv_f_f_f.trans (if_pos hc63)
          refine own_step (fun _ => XS.icmpNo X0.here hx rfl (hb hby d2_63) rfl (teq hc63).2) ?_
          show own_Ends p e below s _ _ _ T0 (mkF m 66 #[.val (.int i0), .val (.int i1), .val (.int (i0 ||| (32 : Int32))), .val (.int is0_22), .val (.int is0_40), .unset, .unset] [])
          exact b2_66 C Z0 X0 e0 N0 i0 i1 is0_22 is0_40 _ hv_f_f_f_t
        · have hv_f_f_f_f := hv_f_f_f.trans (if_neg hc63)
          refine own_step (fun _ => XS.icmpYes X0.here hx rfl (pc0 := 63) (pc' := 70) rfl (hb hby d2_63) rfl (feq hc63).2 (by decide) (by decide)) ?_
          show own_Ends p e below s _ _ _ T0 (mkF m 70 #[.val (.int i0), .val (.int i1), .val (.int (i0 ||| (32 : Int32))), .val (.int is0_22), .val (.int is0_40), .unset, .unset] [])
          refine own_step (fun _ => XS.iconst X0.here hx rfl (hb hby d2_70)) ?_
          show own_Ends p e below s _ _ _ T0 (mkF m 71 #[.val (.int i0), .val (.int i1), .val (.int (i0 ||| (32 : Int32))), .val (.int is0_22), .val (.int is0_40), .unset, .unset] [(.int (0 : Int32))])
          exact b2_71 C Z0 X0 e0 N0 i0 i1 is0_22 is0_40 (0 : Int32) _ hv_f_f_f_f
def f2_39 (i0 : Int32) (i1 : Int32) (is0_22 : Int32) : Int32 := (f2_40 i0 i1 is0_22 (0 : Int32))
set_option maxRecDepth 65536 in
set_option maxHeartbeats 40000000 in
theorem b2_39 {p : Program} {l : Launch} {e : Env} {s : State} {m : MethodId} {args : Array Value} {below : List Frame} {meth : Method} {c : Code} {Z : State} {a0 : Array Value} {h0 : Heap} {n0 : Nat} (C : own_C "com/example/canonsign/canonsign/http/PercentEncodingIsKeptPinLaw" method_2_code 7 (some .boolean) "expected" p s m meth c Z a0) (Z0 : n0 ≤ h0.size) {T0 : State} {locs : List Loc} (X0 : Stand p l e ({ frames := 0, cells := 0, slots := 0, locals := 0 } : Room) s m args below meth c T0 locs 0 0) (e0 : T0.heap = h0) (N0 : Fr n0 locs) (i0 : Int32) (i1 : Int32) (is0_22 : Int32) (W : Int32) (hv : W = f2_39 i0 i1 is0_22) :
    own_Ends p e below s ({ frames := 0, cells := 0, slots := 0, locals := 0 } : Room).cells ({ frames := 0, cells := 0, slots := 0, locals := 0 } : Room).slots (own_Q n0 h0 (some (.int W))) T0 (mkF m 39 #[.val (.int i0), .val (.int i1), .val (.int (i0 ||| (32 : Int32))), .val (.int is0_22), .unset, .unset, .unset] []) := by
  obtain ⟨hx, hZ, hw, hby, hml, hown, hret, hlk, hnm⟩ := C
  have C : own_C "com/example/canonsign/canonsign/http/PercentEncodingIsKeptPinLaw" method_2_code 7 (some .boolean) "expected" p s m meth c Z a0 := ⟨hx, hZ, hw, hby, hml, hown, hret, hlk, hnm⟩
  unfold f2_39 at hv
  refine own_step (fun _ => XS.iconst X0.here hx rfl (hb hby d2_39)) ?_
  show own_Ends p e below s _ _ _ T0 (mkF m 40 #[.val (.int i0), .val (.int i1), .val (.int (i0 ||| (32 : Int32))), .val (.int is0_22), .unset, .unset, .unset] [(.int (0 : Int32))])
  exact b2_40 C Z0 X0 e0 N0 i0 i1 is0_22 (0 : Int32) _ hv
def f2_22 (i0 : Int32) (i1 : Int32) (is0_22 : Int32) : Int32 := (if i0 < (48 : Int32) then (f2_39 i0 i1 is0_22) else (if (57 : Int32) < i0 then (f2_39 i0 i1 is0_22) else (f2_40 i0 i1 is0_22 (1 : Int32))))
set_option maxRecDepth 65536 in
set_option maxHeartbeats 40000000 in
theorem b2_22 {p : Program} {l : Launch} {e : Env} {s : State} {m : MethodId} {args : Array Value} {below : List Frame} {meth : Method} {c : Code} {Z : State} {a0 : Array Value} {h0 : Heap} {n0 : Nat} (C : own_C "com/example/canonsign/canonsign/http/PercentEncodingIsKeptPinLaw" method_2_code 7 (some .boolean) "expected" p s m meth c Z a0) (Z0 : n0 ≤ h0.size) {T0 : State} {locs : List Loc} (X0 : Stand p l e ({ frames := 0, cells := 0, slots := 0, locals := 0 } : Room) s m args below meth c T0 locs 0 0) (e0 : T0.heap = h0) (N0 : Fr n0 locs) (i0 : Int32) (i1 : Int32) (is0_22 : Int32) (W : Int32) (hv : W = f2_22 i0 i1 is0_22) :
    own_Ends p e below s ({ frames := 0, cells := 0, slots := 0, locals := 0 } : Room).cells ({ frames := 0, cells := 0, slots := 0, locals := 0 } : Room).slots (own_Q n0 h0 (some (.int W))) T0 (mkF m 22 #[.val (.int i0), .val (.int i1), .val (.int (i0 ||| (32 : Int32))), .unset, .unset, .unset, .unset] [(.int is0_22)]) := by
  obtain ⟨hx, hZ, hw, hby, hml, hown, hret, hlk, hnm⟩ := C
  have C : own_C "com/example/canonsign/canonsign/http/PercentEncodingIsKeptPinLaw" method_2_code 7 (some .boolean) "expected" p s m meth c Z a0 := ⟨hx, hZ, hw, hby, hml, hown, hret, hlk, hnm⟩
  unfold f2_22 at hv
  refine own_step (fun _ => XS.istoreN X0.here hx rfl (hb hby d2_22) rfl (l' := #[.val (.int i0), .val (.int i1), .val (.int (i0 ||| (32 : Int32))), .val (.int is0_22), .unset, .unset, .unset]) rfl) ?_
  show own_Ends p e below s _ _ _ T0 (mkF m 23 #[.val (.int i0), .val (.int i1), .val (.int (i0 ||| (32 : Int32))), .val (.int is0_22), .unset, .unset, .unset] [])
  refine own_step (fun _ => XS.iloadN X0.here hx rfl (hb hby d2_23) rfl) ?_
  show own_Ends p e below s _ _ _ T0 (mkF m 24 #[.val (.int i0), .val (.int i1), .val (.int (i0 ||| (32 : Int32))), .val (.int is0_22), .unset, .unset, .unset] [(.int i0)])
  refine own_step (fun _ => XS.bipush X0.here hx rfl (hb hby d2_24)) ?_
  show own_Ends p e below s _ _ _ T0 (mkF m 26 #[.val (.int i0), .val (.int i1), .val (.int (i0 ||| (32 : Int32))), .val (.int is0_22), .unset, .unset, .unset] [(.int (48 : Int32)), (.int i0)])
  by_cases hc26 : i0 < (48 : Int32)
  · have hv_t := hv.trans (if_pos hc26)
    refine own_step (fun _ => XS.icmpYes X0.here hx rfl (pc0 := 26) (pc' := 39) rfl (hb hby d2_26) rfl (tlt hc26).1 (by decide) (by decide)) ?_
    show own_Ends p e below s _ _ _ T0 (mkF m 39 #[.val (.int i0), .val (.int i1), .val (.int (i0 ||| (32 : Int32))), .val (.int is0_22), .unset, .unset, .unset] [])
    exact b2_39 C Z0 X0 e0 N0 i0 i1 is0_22 _ hv_t
  · have hv_f := hv.trans (if_neg hc26)
    refine own_step (fun _ => XS.icmpNo X0.here hx rfl (hb hby d2_26) rfl (flt hc26).1) ?_
    show own_Ends p e below s _ _ _ T0 (mkF m 29 #[.val (.int i0), .val (.int i1), .val (.int (i0 ||| (32 : Int32))), .val (.int is0_22), .unset, .unset, .unset] [])
    refine own_step (fun _ => XS.iloadN X0.here hx rfl (hb hby d2_29) rfl) ?_
    show own_Ends p e below s _ _ _ T0 (mkF m 30 #[.val (.int i0), .val (.int i1), .val (.int (i0 ||| (32 : Int32))), .val (.int is0_22), .unset, .unset, .unset] [(.int i0)])
    refine own_step (fun _ => XS.bipush X0.here hx rfl (hb hby d2_30)) ?_
    show own_Ends p e below s _ _ _ T0 (mkF m 32 #[.val (.int i0), .val (.int i1), .val (.int (i0 ||| (32 : Int32))), .val (.int is0_22), .unset, .unset, .unset] [(.int (57 : Int32)), (.int i0)])
    by_cases hc32 : (57 : Int32) < i0
    · have hv_f_t := hv_f.trans (if_pos hc32)
      refine own_step (fun _ => XS.icmpYes X0.here hx rfl (pc0 := 32) (pc' := 39) rfl (hb hby d2_32) rfl (tlt hc32).2.2.1 (by decide) (by decide)) ?_
      show own_Ends p e below s _ _ _ T0 (mkF m 39 #[.val (.int i0), .val (.int i1), .val (.int (i0 ||| (32 : Int32))), .val (.int is0_22), .unset, .unset, .unset] [])
      exact b2_39 C Z0 X0 e0 N0 i0 i1 is0_22 _ hv_f_t
    · have hv_f_f := hv_f.trans (if_neg hc32)
      refine own_step (fun _ => XS.icmpNo X0.here hx rfl (hb hby d2_32) rfl (flt hc32).2.2.1) ?_
      show own_Ends p e below s _ _ _ T0 (mkF m 35 #[.val (.int i0), .val (.int i1), .val (.int (i0 ||| (32 : Int32))), .val (.int is0_22), .unset, .unset, .unset] [])
      refine own_step (fun _ => XS.iconst X0.here hx rfl (hb hby d2_35)) ?_
      show own_Ends p e below s _ _ _ T0 (mkF m 36 #[.val (.int i0), .val (.int i1), .val (.int (i0 ||| (32 : Int32))), .val (.int is0_22), .unset, .unset, .unset] [(.int (1 : Int32))])
      refine own_step (fun _ => XS.goto X0.here hx rfl (pc0 := 36) (pc' := 40) rfl (hb hby d2_36) (by decide) (by decide)) ?_
      show own_Ends p e below s _ _ _ T0 (mkF m 40 #[.val (.int i0), .val (.int i1), .val (.int (i0 ||| (32 : Int32))), .val (.int is0_22), .unset, .unset, .unset] [(.int (1 : Int32))])
      exact b2_40 C Z0 X0 e0 N0 i0 i1 is0_22 (1 : Int32) _ hv_f_f
def f2_21 (i0 : Int32) (i1 : Int32) : Int32 := (f2_22 i0 i1 (0 : Int32))
set_option maxRecDepth 65536 in
set_option maxHeartbeats 40000000 in
theorem b2_21 {p : Program} {l : Launch} {e : Env} {s : State} {m : MethodId} {args : Array Value} {below : List Frame} {meth : Method} {c : Code} {Z : State} {a0 : Array Value} {h0 : Heap} {n0 : Nat} (C : own_C "com/example/canonsign/canonsign/http/PercentEncodingIsKeptPinLaw" method_2_code 7 (some .boolean) "expected" p s m meth c Z a0) (Z0 : n0 ≤ h0.size) {T0 : State} {locs : List Loc} (X0 : Stand p l e ({ frames := 0, cells := 0, slots := 0, locals := 0 } : Room) s m args below meth c T0 locs 0 0) (e0 : T0.heap = h0) (N0 : Fr n0 locs) (i0 : Int32) (i1 : Int32) (W : Int32) (hv : W = f2_21 i0 i1) :
    own_Ends p e below s ({ frames := 0, cells := 0, slots := 0, locals := 0 } : Room).cells ({ frames := 0, cells := 0, slots := 0, locals := 0 } : Room).slots (own_Q n0 h0 (some (.int W))) T0 (mkF m 21 #[.val (.int i0), .val (.int i1), .val (.int (i0 ||| (32 : Int32))), .unset, .unset, .unset, .unset] []) := by
  obtain ⟨hx, hZ, hw, hby, hml, hown, hret, hlk, hnm⟩ := C
  have C : own_C "com/example/canonsign/canonsign/http/PercentEncodingIsKeptPinLaw" method_2_code 7 (some .boolean) "expected" p s m meth c Z a0 := ⟨hx, hZ, hw, hby, hml, hown, hret, hlk, hnm⟩
  unfold f2_21 at hv
  refine own_step (fun _ => XS.iconst X0.here hx rfl (hb hby d2_21)) ?_
  show own_Ends p e below s _ _ _ T0 (mkF m 22 #[.val (.int i0), .val (.int i1), .val (.int (i0 ||| (32 : Int32))), .unset, .unset, .unset, .unset] [(.int (0 : Int32))])
  exact b2_22 C Z0 X0 e0 N0 i0 i1 (0 : Int32) _ hv
def f2_0 (i0 : Int32) (i1 : Int32) : Int32 := (if (i0 ||| (32 : Int32)) < (97 : Int32) then (f2_21 i0 i1) else (if (122 : Int32) < (i0 ||| (32 : Int32)) then (f2_21 i0 i1) else (f2_22 i0 i1 (1 : Int32))))
set_option maxRecDepth 65536 in
set_option maxHeartbeats 40000000 in
theorem b2_0 {p : Program} {l : Launch} {e : Env} {s : State} {m : MethodId} {args : Array Value} {below : List Frame} {meth : Method} {c : Code} {Z : State} {a0 : Array Value} {h0 : Heap} {n0 : Nat} (C : own_C "com/example/canonsign/canonsign/http/PercentEncodingIsKeptPinLaw" method_2_code 7 (some .boolean) "expected" p s m meth c Z a0) (Z0 : n0 ≤ h0.size) {T0 : State} {locs : List Loc} (X0 : Stand p l e ({ frames := 0, cells := 0, slots := 0, locals := 0 } : Room) s m args below meth c T0 locs 0 0) (e0 : T0.heap = h0) (N0 : Fr n0 locs) (i0 : Int32) (i1 : Int32) (W : Int32) (hv : W = f2_0 i0 i1) :
    own_Ends p e below s ({ frames := 0, cells := 0, slots := 0, locals := 0 } : Room).cells ({ frames := 0, cells := 0, slots := 0, locals := 0 } : Room).slots (own_Q n0 h0 (some (.int W))) T0 (mkF m 0 #[.val (.int i0), .val (.int i1), .unset, .unset, .unset, .unset, .unset] []) := by
  obtain ⟨hx, hZ, hw, hby, hml, hown, hret, hlk, hnm⟩ := C
  have C : own_C "com/example/canonsign/canonsign/http/PercentEncodingIsKeptPinLaw" method_2_code 7 (some .boolean) "expected" p s m meth c Z a0 := ⟨hx, hZ, hw, hby, hml, hown, hret, hlk, hnm⟩
  unfold f2_0 at hv
  refine own_step (fun _ => XS.iloadN X0.here hx rfl (hb hby d2_0) rfl) ?_
  show own_Ends p e below s _ _ _ T0 (mkF m 1 #[.val (.int i0), .val (.int i1), .unset, .unset, .unset, .unset, .unset] [(.int i0)])
  refine own_step (fun _ => XS.bipush X0.here hx rfl (hb hby d2_1)) ?_
  show own_Ends p e below s _ _ _ T0 (mkF m 3 #[.val (.int i0), .val (.int i1), .unset, .unset, .unset, .unset, .unset] [(.int (32 : Int32)), (.int i0)])
  refine own_step (fun _ => XS.ior X0.here hx rfl (hb hby d2_3) rfl) ?_
  show own_Ends p e below s _ _ _ T0 (mkF m 4 #[.val (.int i0), .val (.int i1), .unset, .unset, .unset, .unset, .unset] [(.int (i0 ||| (32 : Int32)))])
  refine own_step (fun _ => XS.istoreN X0.here hx rfl (hb hby d2_4) rfl (l' := #[.val (.int i0), .val (.int i1), .val (.int (i0 ||| (32 : Int32))), .unset, .unset, .unset, .unset]) rfl) ?_
  show own_Ends p e below s _ _ _ T0 (mkF m 5 #[.val (.int i0), .val (.int i1), .val (.int (i0 ||| (32 : Int32))), .unset, .unset, .unset, .unset] [])
  refine own_step (fun _ => XS.iloadN X0.here hx rfl (hb hby d2_5) rfl) ?_
  show own_Ends p e below s _ _ _ T0 (mkF m 6 #[.val (.int i0), .val (.int i1), .val (.int (i0 ||| (32 : Int32))), .unset, .unset, .unset, .unset] [(.int (i0 ||| (32 : Int32)))])
  refine own_step (fun _ => XS.bipush X0.here hx rfl (hb hby d2_6)) ?_
  show own_Ends p e below s _ _ _ T0 (mkF m 8 #[.val (.int i0), .val (.int i1), .val (.int (i0 ||| (32 : Int32))), .unset, .unset, .unset, .unset] [(.int (97 : Int32)), (.int (i0 ||| (32 : Int32)))])
  by_cases hc8 : (i0 ||| (32 : Int32)) < (97 : Int32)
  · have hv_t := hv.trans (if_pos hc8)
    refine own_step (fun _ => XS.icmpYes X0.here hx rfl (pc0 := 8) (pc' := 21) rfl (hb hby d2_8) rfl (tlt hc8).1 (by decide) (by decide)) ?_
    show own_Ends p e below s _ _ _ T0 (mkF m 21 #[.val (.int i0), .val (.int i1), .val (.int (i0 ||| (32 : Int32))), .unset, .unset, .unset, .unset] [])
    exact b2_21 C Z0 X0 e0 N0 i0 i1 _ hv_t
  · have hv_f := hv.trans (if_neg hc8)
    refine own_step (fun _ => XS.icmpNo X0.here hx rfl (hb hby d2_8) rfl (flt hc8).1) ?_
    show own_Ends p e below s _ _ _ T0 (mkF m 11 #[.val (.int i0), .val (.int i1), .val (.int (i0 ||| (32 : Int32))), .unset, .unset, .unset, .unset] [])
    refine own_step (fun _ => XS.iloadN X0.here hx rfl (hb hby d2_11) rfl) ?_
    show own_Ends p e below s _ _ _ T0 (mkF m 12 #[.val (.int i0), .val (.int i1), .val (.int (i0 ||| (32 : Int32))), .unset, .unset, .unset, .unset] [(.int (i0 ||| (32 : Int32)))])
    refine own_step (fun _ => XS.bipush X0.here hx rfl (hb hby d2_12)) ?_
    show own_Ends p e below s _ _ _ T0 (mkF m 14 #[.val (.int i0), .val (.int i1), .val (.int (i0 ||| (32 : Int32))), .unset, .unset, .unset, .unset] [(.int (122 : Int32)), (.int (i0 ||| (32 : Int32)))])
    by_cases hc14 : (122 : Int32) < (i0 ||| (32 : Int32))
    · have hv_f_t := hv_f.trans (if_pos hc14)
      refine own_step (fun _ => XS.icmpYes X0.here hx rfl (pc0 := 14) (pc' := 21) rfl (hb hby d2_14) rfl (tlt hc14).2.2.1 (by decide) (by decide)) ?_
      show own_Ends p e below s _ _ _ T0 (mkF m 21 #[.val (.int i0), .val (.int i1), .val (.int (i0 ||| (32 : Int32))), .unset, .unset, .unset, .unset] [])
      exact b2_21 C Z0 X0 e0 N0 i0 i1 _ hv_f_t
    · have hv_f_f := hv_f.trans (if_neg hc14)
      refine own_step (fun _ => XS.icmpNo X0.here hx rfl (hb hby d2_14) rfl (flt hc14).2.2.1) ?_
      show own_Ends p e below s _ _ _ T0 (mkF m 17 #[.val (.int i0), .val (.int i1), .val (.int (i0 ||| (32 : Int32))), .unset, .unset, .unset, .unset] [])
      refine own_step (fun _ => XS.iconst X0.here hx rfl (hb hby d2_17)) ?_
      show own_Ends p e below s _ _ _ T0 (mkF m 18 #[.val (.int i0), .val (.int i1), .val (.int (i0 ||| (32 : Int32))), .unset, .unset, .unset, .unset] [(.int (1 : Int32))])
      refine own_step (fun _ => XS.goto X0.here hx rfl (pc0 := 18) (pc' := 22) rfl (hb hby d2_18) (by decide) (by decide)) ?_
      show own_Ends p e below s _ _ _ T0 (mkF m 22 #[.val (.int i0), .val (.int i1), .val (.int (i0 ||| (32 : Int32))), .unset, .unset, .unset, .unset] [(.int (1 : Int32))])
      exact b2_22 C Z0 X0 e0 N0 i0 i1 (1 : Int32) _ hv_f_f
theorem ef_rm2 (m : MethodId) (i0 : Int32) (i1 : Int32) : entryFrame m #[(.int i0), (.int i1)] 7 = mkF m 0 #[.val (.int i0), .val (.int i1), .unset, .unset, .unset, .unset, .unset] [] := by first | (simp [entryFrame, mkF, argsToLocals, Value.category]; done) | rfl
set_option maxRecDepth 65536 in
set_option maxHeartbeats 40000000 in
theorem rm2 (l : Launch) (Z : State) (a0 : Array Value) (hw : ∀ d ∈ tables_1, d.before a0 Z = true) (ws : List Jvm.Cond) (i0 : Int32) (i1 : Int32) (h0 : Heap) (n0 : Nat) (Z0 : n0 ≤ h0.size) :
    MetFree l (⟨"com/example/canonsign/canonsign/http/PercentEncodingIsKeptPinLaw", "expected", "(IZ)Z"⟩ : MethodName) (head1 (Jvm.Cond.code (⟨"com/example/canonsign/canonsign/http/PercentEncodingIsKeptPinLaw", "expected", "(IZ)Z"⟩ : MethodName) method_2_code 7 (some .boolean) :: ws) ({ frames := 0, cells := 0, slots := 0, locals := 0 } : Room)) (fun a U => a = #[(.int i0), (.int i1)] ∧ Z.Warmed39 U.vm ∧ U.heap = h0) (fun _ _ _ _ _ => True) (fun _ U o U' => ∃ v L, o = .returned v ∧ (own_Q n0 h0 (some (.int (f2_0 i0 i1)))) v U'.heap L ∧ FrameEnd U o U' L ({ frames := 0, cells := 0, slots := 0, locals := 0 } : Room).cells ({ frames := 0, cells := 0, slots := 0, locals := 0 } : Room).slots) := by
  refine MetFree.of_bodySF (plainFor_of_name pn_1) hisR ?_
  intro p e s m args below meth c s₁ Bd hml0 hP hK
  obtain ⟨rfl, hZ, hh⟩ := hP
  have X0 : Stand p l e ({ frames := 0, cells := 0, slots := 0, locals := 0 } : Room) s m #[(.int i0), (.int i1)] below meth c s₁ [] 0 0 := Stand.of_body Bd
  have e0 : s₁.heap = h0 := by rw [← hh, Bd.state]; rfl
  have C : own_C "com/example/canonsign/canonsign/http/PercentEncodingIsKeptPinLaw" method_2_code 7 (some .boolean) "expected" p s m meth c Z a0 := ⟨Bd.exec, hZ, hw, Bd.bytes, hml0, findClass_of_methodNamed Bd.named, Bd.returns, Bd.notSynchronized, (name_of_methodNamed Bd.named Bd.method).1⟩
  have r := b2_0 C Z0 X0 e0 (Fr.nil n0) i0 i1 _ rfl
  rw [ef_rm2 m i0 i1]
  exact r
def f0_17 (i0 : Int32) (i1 : Int32) (is0_17 : Int32) : Int32 := (if (f1_0 ((i0 &&& (255 : Int32)).toInt8.toInt32) is0_17) = (f2_0 (i0 &&& (255 : Int32)) is0_17) then (1 : Int32) else (0 : Int32))
set_option maxRecDepth 65536 in
set_option maxHeartbeats 40000000 in
theorem b0_17 {p : Program} {l : Launch} {e : Env} {s : State} {m : MethodId} {args : Array Value} {below : List Frame} {meth : Method} {c : Code} {Z : State} {a0 : Array Value} {h0 : Heap} {n0 : Nat} (C : own_C "com/example/canonsign/canonsign/http/PercentEncodingIsKeptPinLaw" code maxLocals ret x.name p s m meth c Z a0) (Z0 : n0 ≤ h0.size) {T0 : State} {locs : List Loc} (X0 : Stand p l e room_1 s m args below meth c T0 locs 0 0) (e0 : T0.heap = h0) (N0 : Fr n0 locs) (i0 : Int32) (i1 : Int32) (is0_17 : Int32) (W : Int32) (hv : W = f0_17 i0 i1 is0_17) :
    own_Ends p e below s room_1.cells room_1.slots (own_Q n0 h0 (some (.int W))) T0 (mkF m 17 #[.val (.int i0), .val (.int i1), .val (.int (i0 &&& (255 : Int32))), .unset, .unset] [(.int is0_17)]) := by
  obtain ⟨hx, hZ, hw, hby, hml, hown, hret, hlk, hnm⟩ := C
  have C : own_C "com/example/canonsign/canonsign/http/PercentEncodingIsKeptPinLaw" code maxLocals ret x.name p s m meth c Z a0 := ⟨hx, hZ, hw, hby, hml, hown, hret, hlk, hnm⟩
  unfold f0_17 at hv
  refine own_step (fun _ => XS.istoreN X0.here hx rfl (hb hby at_17) rfl (l' := #[.val (.int i0), .val (.int i1), .val (.int (i0 &&& (255 : Int32))), .val (.int is0_17), .unset]) rfl) ?_
  show own_Ends p e below s _ _ _ T0 (mkF m 18 #[.val (.int i0), .val (.int i1), .val (.int (i0 &&& (255 : Int32))), .val (.int is0_17), .unset] [])
  refine own_step (fun _ => XS.iloadN X0.here hx rfl (hb hby at_18) rfl) ?_
  show own_Ends p e below s _ _ _ T0 (mkF m 19 #[.val (.int i0), .val (.int i1), .val (.int (i0 &&& (255 : Int32))), .val (.int is0_17), .unset] [(.int (i0 &&& (255 : Int32)))])
  refine own_step (fun _ => XS.i2b X0.here hx rfl (hb hby at_19) rfl) ?_
  show own_Ends p e below s _ _ _ T0 (mkF m 20 #[.val (.int i0), .val (.int i1), .val (.int (i0 &&& (255 : Int32))), .val (.int is0_17), .unset] [(.int ((i0 &&& (255 : Int32)).toInt8.toInt32))])
  refine own_step (fun _ => XS.istore X0.here hx rfl (hb hby at_20) rfl (l' := #[.val (.int i0), .val (.int i1), .val (.int (i0 &&& (255 : Int32))), .val (.int is0_17), .val (.int ((i0 &&& (255 : Int32)).toInt8.toInt32))]) rfl) ?_
  show own_Ends p e below s _ _ _ T0 (mkF m 22 #[.val (.int i0), .val (.int i1), .val (.int (i0 &&& (255 : Int32))), .val (.int is0_17), .val (.int ((i0 &&& (255 : Int32)).toInt8.toInt32))] [])
  refine own_step (fun _ => XS.iload X0.here hx rfl (hb hby at_22) rfl) ?_
  show own_Ends p e below s _ _ _ T0 (mkF m 24 #[.val (.int i0), .val (.int i1), .val (.int (i0 &&& (255 : Int32))), .val (.int is0_17), .val (.int ((i0 &&& (255 : Int32)).toInt8.toInt32))] [(.int ((i0 &&& (255 : Int32)).toInt8.toInt32))])
  refine own_step (fun _ => XS.iloadN X0.here hx rfl (hb hby at_24) rfl) ?_
  show own_Ends p e below s _ _ _ T0 (mkF m 25 #[.val (.int i0), .val (.int i1), .val (.int (i0 &&& (255 : Int32))), .val (.int is0_17), .val (.int ((i0 &&& (255 : Int32)).toInt8.toInt32))] [(.int is0_17), (.int ((i0 &&& (255 : Int32)).toInt8.toInt32))])
  obtain ⟨_, _, ⟨T5, L5, k5, n5⟩, -, X5, ⟨Lc5, hQ5, l5, y5, z5⟩, st5⟩ := Jvm.LawKit.callS X0 hx (y := (⟨"com/example/canonsign/canonsign/http/PercentEncoding", "isKept", "(BZ)Z"⟩ : MethodName)) hown (mvT hZ (hw _ (List.mem_of_getElem? (i := 0) rfl))) (mvT hZ (hw _ (List.mem_of_getElem? (i := 1) rfl))) (mvT hZ (hw _ (List.mem_of_getElem? (i := 2) rfl))) (mvT hZ (hw _ (List.mem_of_getElem? (i := 3) rfl))) (by decide) (backOf (W := 0) (rm1 l Z a0 hw [] ((i0 &&& (255 : Int32)).toInt8.toInt32) is0_17 h0 n0 Z0) hZ (hw _ (List.mem_of_getElem? (i := 3) rfl)) (hw _ (List.mem_of_getElem? (i := 2) rfl)) (by decide) (by decide)) (g := (mkF m 25 #[.val (.int i0), .val (.int i1), .val (.int (i0 &&& (255 : Int32))), .val (.int is0_17), .val (.int ((i0 &&& (255 : Int32)).toInt8.toInt32))] [(.int is0_17), (.int ((i0 &&& (255 : Int32)).toInt8.toInt32))])) rfl (by rw [hml]; rfl) (argsL := [(.int ((i0 &&& (255 : Int32)).toInt8.toInt32)), (.int is0_17)]) (rest := []) (lenOf pd_0 rfl) rfl (by show 2 * 0 + _ ≤ _; exact Nat.le_of_eq rfl) (hb hby at_25) (fun _ _ => ⟨rfl, e0, (by decide : 0 + 0 ≤ _), (by decide : 0 + 0 ≤ _)⟩)
  dsimp only [Pt.U, Pt.locs, Pt.cells, Pt.slots] at X5 l5 y5 z5 st5 hQ5
  subst l5 y5 z5
  obtain ⟨rfl, N5q, hh5⟩ := hQ5
  have N5 := Fr.app N0 N5q
  refine own_step st5 ?_
  show own_Ends p e below s _ _ _ T5 (mkF m 28 #[.val (.int i0), .val (.int i1), .val (.int (i0 &&& (255 : Int32))), .val (.int is0_17), .val (.int ((i0 &&& (255 : Int32)).toInt8.toInt32))] [(.int (f1_0 ((i0 &&& (255 : Int32)).toInt8.toInt32) is0_17))])
  refine own_step (fun _ => XS.iloadN X5.here hx rfl (hb hby at_28) rfl) ?_
  show own_Ends p e below s _ _ _ T5 (mkF m 29 #[.val (.int i0), .val (.int i1), .val (.int (i0 &&& (255 : Int32))), .val (.int is0_17), .val (.int ((i0 &&& (255 : Int32)).toInt8.toInt32))] [(.int (i0 &&& (255 : Int32))), (.int (f1_0 ((i0 &&& (255 : Int32)).toInt8.toInt32) is0_17))])
  refine own_step (fun _ => XS.iloadN X5.here hx rfl (hb hby at_29) rfl) ?_
  show own_Ends p e below s _ _ _ T5 (mkF m 30 #[.val (.int i0), .val (.int i1), .val (.int (i0 &&& (255 : Int32))), .val (.int is0_17), .val (.int ((i0 &&& (255 : Int32)).toInt8.toInt32))] [(.int is0_17), (.int (i0 &&& (255 : Int32))), (.int (f1_0 ((i0 &&& (255 : Int32)).toInt8.toInt32) is0_17))])
  obtain ⟨_, _, ⟨T6, L6, k6, n6⟩, -, X6, ⟨Lc6, hQ6, l6, y6, z6⟩, st6⟩ := Jvm.LawKit.callS X5 hx (y := (⟨"com/example/canonsign/canonsign/http/PercentEncodingIsKeptPinLaw", "expected", "(IZ)Z"⟩ : MethodName)) hown (mvT hZ (hw _ (List.mem_of_getElem? (i := 4) rfl))) (mvT hZ (hw _ (List.mem_of_getElem? (i := 5) rfl))) (mvT hZ (hw _ (List.mem_of_getElem? (i := 6) rfl))) (mvT hZ (hw _ (List.mem_of_getElem? (i := 7) rfl))) (by decide) (backOf (W := 1) (rm2 l Z a0 hw [] (i0 &&& (255 : Int32)) is0_17 h0 n0 Z0) hZ (hw _ (List.mem_of_getElem? (i := 7) rfl)) (hw _ (List.mem_of_getElem? (i := 6) rfl)) (by decide) (by decide)) (g := (mkF m 30 #[.val (.int i0), .val (.int i1), .val (.int (i0 &&& (255 : Int32))), .val (.int is0_17), .val (.int ((i0 &&& (255 : Int32)).toInt8.toInt32))] [(.int is0_17), (.int (i0 &&& (255 : Int32))), (.int (f1_0 ((i0 &&& (255 : Int32)).toInt8.toInt32) is0_17))])) rfl (by rw [hml]; rfl) (argsL := [(.int (i0 &&& (255 : Int32))), (.int is0_17)]) (rest := [(.int (f1_0 ((i0 &&& (255 : Int32)).toInt8.toInt32) is0_17))]) (lenOf pd_1 rfl) rfl (by show 2 * 0 + _ ≤ _; exact Nat.le_of_eq rfl) (hb hby at_30) (fun _ _ => ⟨rfl, hh5, (by decide : 0 + 0 ≤ _), (by decide : 0 + 0 ≤ _)⟩)
  dsimp only [Pt.U, Pt.locs, Pt.cells, Pt.slots] at X6 l6 y6 z6 st6 hQ6
  subst l6 y6 z6
  obtain ⟨rfl, N6q, hh6⟩ := hQ6
  have N6 := Fr.app N5 N6q
  refine own_step st6 ?_
  show own_Ends p e below s _ _ _ T6 (mkF m 33 #[.val (.int i0), .val (.int i1), .val (.int (i0 &&& (255 : Int32))), .val (.int is0_17), .val (.int ((i0 &&& (255 : Int32)).toInt8.toInt32))] [(.int (f2_0 (i0 &&& (255 : Int32)) is0_17)), (.int (f1_0 ((i0 &&& (255 : Int32)).toInt8.toInt32) is0_17))])
  by_cases hc33 : (f1_0 ((i0 &&& (255 : Int32)).toInt8.toInt32) is0_17) = (f2_0 (i0 &&& (255 : Int32)) is0_17)
  · have hv_t := hv.trans (if_pos hc33)
    refine own_step (fun _ => XS.icmpNo X6.here hx rfl (hb hby at_33) rfl (teq hc33).2) ?_
    show own_Ends p e below s _ _ _ T6 (mkF m 36 #[.val (.int i0), .val (.int i1), .val (.int (i0 &&& (255 : Int32))), .val (.int is0_17), .val (.int ((i0 &&& (255 : Int32)).toInt8.toInt32))] [])
    refine own_step (fun _ => XS.iconst X6.here hx rfl (hb hby at_36)) ?_
    show own_Ends p e below s _ _ _ T6 (mkF m 37 #[.val (.int i0), .val (.int i1), .val (.int (i0 &&& (255 : Int32))), .val (.int is0_17), .val (.int ((i0 &&& (255 : Int32)).toInt8.toInt32))] [(.int (1 : Int32))])
    refine own_step (fun _ => XS.goto X6.here hx rfl (pc0 := 37) (pc' := 41) rfl (hb hby at_37) (by decide) (by decide)) ?_
    show own_Ends p e below s _ _ _ T6 (mkF m 41 #[.val (.int i0), .val (.int i1), .val (.int (i0 &&& (255 : Int32))), .val (.int is0_17), .val (.int ((i0 &&& (255 : Int32)).toInt8.toInt32))] [(.int (1 : Int32))])
    exact own_retN X6 (t := .boolean) hx hret hlk (hb hby at_41) (by decide) (by decide) (by simp) ⟨congrArg (fun z => some (Value.int z)) hv_t.symm, N6, hh6⟩
  · have hv_f := hv.trans (if_neg hc33)
    refine own_step (fun _ => XS.icmpYes X6.here hx rfl (pc0 := 33) (pc' := 40) rfl (hb hby at_33) rfl (feq hc33).2 (by decide) (by decide)) ?_
    show own_Ends p e below s _ _ _ T6 (mkF m 40 #[.val (.int i0), .val (.int i1), .val (.int (i0 &&& (255 : Int32))), .val (.int is0_17), .val (.int ((i0 &&& (255 : Int32)).toInt8.toInt32))] [])
    refine own_step (fun _ => XS.iconst X6.here hx rfl (hb hby at_40)) ?_
    show own_Ends p e below s _ _ _ T6 (mkF m 41 #[.val (.int i0), .val (.int i1), .val (.int (i0 &&& (255 : Int32))), .val (.int is0_17), .val (.int ((i0 &&& (255 : Int32)).toInt8.toInt32))] [(.int (0 : Int32))])
    exact own_retN X6 (t := .boolean) hx hret hlk (hb hby at_41) (by decide) (by decide) (by simp) ⟨congrArg (fun z => some (Value.int z)) hv_f.symm, N6, hh6⟩
def f0_0 (i0 : Int32) (i1 : Int32) : Int32 := (if (i1 &&& (1 : Int32)) = (0 : Int32) then (f0_17 i0 i1 (0 : Int32)) else (f0_17 i0 i1 (1 : Int32)))
set_option maxRecDepth 65536 in
set_option maxHeartbeats 40000000 in
theorem b0_0 {p : Program} {l : Launch} {e : Env} {s : State} {m : MethodId} {args : Array Value} {below : List Frame} {meth : Method} {c : Code} {Z : State} {a0 : Array Value} {h0 : Heap} {n0 : Nat} (C : own_C "com/example/canonsign/canonsign/http/PercentEncodingIsKeptPinLaw" code maxLocals ret x.name p s m meth c Z a0) (Z0 : n0 ≤ h0.size) {T0 : State} {locs : List Loc} (X0 : Stand p l e room_1 s m args below meth c T0 locs 0 0) (e0 : T0.heap = h0) (N0 : Fr n0 locs) (i0 : Int32) (i1 : Int32) (W : Int32) (hv : W = f0_0 i0 i1) :
    own_Ends p e below s room_1.cells room_1.slots (own_Q n0 h0 (some (.int W))) T0 (mkF m 0 #[.val (.int i0), .val (.int i1), .unset, .unset, .unset] []) := by
  obtain ⟨hx, hZ, hw, hby, hml, hown, hret, hlk, hnm⟩ := C
  have C : own_C "com/example/canonsign/canonsign/http/PercentEncodingIsKeptPinLaw" code maxLocals ret x.name p s m meth c Z a0 := ⟨hx, hZ, hw, hby, hml, hown, hret, hlk, hnm⟩
  unfold f0_0 at hv
  refine own_step (fun _ => XS.iloadN X0.here hx rfl (hb hby at_0) rfl) ?_
  show own_Ends p e below s _ _ _ T0 (mkF m 1 #[.val (.int i0), .val (.int i1), .unset, .unset, .unset] [(.int i0)])
  refine own_step (fun _ => XS.sipush X0.here hx rfl (hb hby at_1)) ?_
  show own_Ends p e below s _ _ _ T0 (mkF m 4 #[.val (.int i0), .val (.int i1), .unset, .unset, .unset] [(.int (255 : Int32)), (.int i0)])
  refine own_step (fun _ => XS.iand X0.here hx rfl (hb hby at_4) rfl) ?_
  show own_Ends p e below s _ _ _ T0 (mkF m 5 #[.val (.int i0), .val (.int i1), .unset, .unset, .unset] [(.int (i0 &&& (255 : Int32)))])
  refine own_step (fun _ => XS.istoreN X0.here hx rfl (hb hby at_5) rfl (l' := #[.val (.int i0), .val (.int i1), .val (.int (i0 &&& (255 : Int32))), .unset, .unset]) rfl) ?_
  show own_Ends p e below s _ _ _ T0 (mkF m 6 #[.val (.int i0), .val (.int i1), .val (.int (i0 &&& (255 : Int32))), .unset, .unset] [])
  refine own_step (fun _ => XS.iloadN X0.here hx rfl (hb hby at_6) rfl) ?_
  show own_Ends p e below s _ _ _ T0 (mkF m 7 #[.val (.int i0), .val (.int i1), .val (.int (i0 &&& (255 : Int32))), .unset, .unset] [(.int i1)])
  refine own_step (fun _ => XS.iconst X0.here hx rfl (hb hby at_7)) ?_
  show own_Ends p e below s _ _ _ T0 (mkF m 8 #[.val (.int i0), .val (.int i1), .val (.int (i0 &&& (255 : Int32))), .unset, .unset] [(.int (1 : Int32)), (.int i1)])
  refine own_step (fun _ => XS.iand X0.here hx rfl (hb hby at_8) rfl) ?_
  show own_Ends p e below s _ _ _ T0 (mkF m 9 #[.val (.int i0), .val (.int i1), .val (.int (i0 &&& (255 : Int32))), .unset, .unset] [(.int (i1 &&& (1 : Int32)))])
  by_cases hc9 : (i1 &&& (1 : Int32)) = (0 : Int32)
  · have hv_t := hv.trans (if_pos hc9)
    refine own_step (fun _ => XS.ifYes X0.here hx rfl (pc0 := 9) (pc' := 16) rfl (hb hby at_9) rfl ((if0 _ _).trans (teq hc9).1) (by decide) (by decide)) ?_
    show own_Ends p e below s _ _ _ T0 (mkF m 16 #[.val (.int i0), .val (.int i1), .val (.int (i0 &&& (255 : Int32))), .unset, .unset] [])
    refine own_step (fun _ => XS.iconst X0.here hx rfl (hb hby at_16)) ?_
    show own_Ends p e below s _ _ _ T0 (mkF m 17 #[.val (.int i0), .val (.int i1), .val (.int (i0 &&& (255 : Int32))), .unset, .unset] [(.int (0 : Int32))])
    exact b0_17 C Z0 X0 e0 N0 i0 i1 (0 : Int32) _ hv_t
  · have hv_f := hv.trans (if_neg hc9)
    refine own_step (fun _ => XS.ifNo X0.here hx rfl (hb hby at_9) rfl ((if0 _ _).trans (feq hc9).1)) ?_
    show own_Ends p e below s _ _ _ T0 (mkF m 12 #[.val (.int i0), .val (.int i1), .val (.int (i0 &&& (255 : Int32))), .unset, .unset] [])
    refine own_step (fun _ => XS.iconst X0.here hx rfl (hb hby at_12)) ?_
    show own_Ends p e below s _ _ _ T0 (mkF m 13 #[.val (.int i0), .val (.int i1), .val (.int (i0 &&& (255 : Int32))), .unset, .unset] [(.int (1 : Int32))])
    refine own_step (fun _ => XS.goto X0.here hx rfl (pc0 := 13) (pc' := 17) rfl (hb hby at_13) (by decide) (by decide)) ?_
    show own_Ends p e below s _ _ _ T0 (mkF m 17 #[.val (.int i0), .val (.int i1), .val (.int (i0 &&& (255 : Int32))), .unset, .unset] [(.int (1 : Int32))])
    exact b0_17 C Z0 X0 e0 N0 i0 i1 (1 : Int32) _ hv_f
theorem ef_rm0 (m : MethodId) (i0 : Int32) (i1 : Int32) : entryFrame m #[(.int i0), (.int i1)] maxLocals = mkF m 0 #[.val (.int i0), .val (.int i1), .unset, .unset, .unset] [] := by first | (simp [entryFrame, mkF, argsToLocals, Value.category, maxLocals]; done) | rfl
set_option maxRecDepth 65536 in
set_option maxHeartbeats 40000000 in
theorem rm0 (l : Launch) (Z : State) (a0 : Array Value) (hw : ∀ d ∈ tables_1, d.before a0 Z = true) (ws : List Jvm.Cond) (i0 : Int32) (i1 : Int32) (h0 : Heap) (n0 : Nat) (Z0 : n0 ≤ h0.size) :
    MetFree l x (head1 (Jvm.Cond.code x code maxLocals ret :: ws) room_1) (fun a U => a = #[(.int i0), (.int i1)] ∧ Z.Warmed39 U.vm ∧ U.heap = h0) (fun _ _ _ _ _ => True) (fun _ U o U' => ∃ v L, o = .returned v ∧ (own_Q n0 h0 (some (.int (f0_0 i0 i1)))) v U'.heap L ∧ FrameEnd U o U' L room_1.cells room_1.slots) := by
  refine MetFree.of_bodySF (plainFor_of_name pn_1) hisR ?_
  intro p e s m args below meth c s₁ Bd hml0 hP hK
  obtain ⟨rfl, hZ, hh⟩ := hP
  have X0 : Stand p l e room_1 s m #[(.int i0), (.int i1)] below meth c s₁ [] 0 0 := Stand.of_body Bd
  have e0 : s₁.heap = h0 := by rw [← hh, Bd.state]; rfl
  have C : own_C "com/example/canonsign/canonsign/http/PercentEncodingIsKeptPinLaw" code maxLocals ret x.name p s m meth c Z a0 := ⟨Bd.exec, hZ, hw, Bd.bytes, hml0, findClass_of_methodNamed Bd.named, Bd.returns, Bd.notSynchronized, (name_of_methodNamed Bd.named Bd.method).1⟩
  have r := b0_0 C Z0 X0 e0 (Fr.nil n0) i0 i1 _ rfl
  rw [ef_rm0 m i0 i1]
  exact r
theorem own_and255 (x : Int32) : ∃ n : Fin 256, (x &&& (255 : Int32)) = Int32.ofNat n.val := by
  refine ⟨⟨(x &&& 255).toBitVec.toNat, ?_⟩, ?_⟩
  · simp only [Int32.toBitVec_and, BitVec.toNat_and]
    exact Nat.lt_succ_of_le Nat.and_le_right
  · apply Int32.toBitVec_inj.mp
    show _ = BitVec.ofNat 32 _
    rw [BitVec.ofNat_toNat]; simp
set_option maxRecDepth 100000 in
theorem own_all : ∀ n : Fin 256, f1_0 ((Int32.ofNat n.val).toInt8.toInt32) 0 = f2_0 (Int32.ofNat n.val) 0 ∧ f1_0 ((Int32.ofNat n.val).toInt8.toInt32) 1 = f2_0 (Int32.ofNat n.val) 1 := by decide +kernel
theorem own_law (i0 i1 : Int32) : f0_0 i0 i1 = 1 := by
  obtain ⟨n, hn⟩ := own_and255 i0
  have h := own_all n
  unfold f0_0 f0_17
  rw [hn]
  split
  · exact if_pos h.1
  · exact if_pos h.2

set_option maxRecDepth 65536 in
set_option maxHeartbeats 40000000 in
theorem comes_1 {Post : Tables → Env → Array Value → State → Outcome → State → Prop} (hpost : ∀ tb e args s v u, (limb_1_1.after args s (.returned v) u = true ∧ limb_1_2.after args s (.returned v) u = true ∧ True) → FrameEnd s (.returned v) u (Jvm.fieldLocs frame_1_writes args s ++ Jvm.arrayLocs frame_1_arrays args s ++ Jvm.staticLocs frame_1_statics s) 0 0 → Post tb e args s (.returned v) u) :
    ArmFor flags0 classFile x code maxLocals ret World_1 tables_1 room_1 Calls_1 rest_1 Pre_1 Post := by
  intro l hfl _ _ p e ha hc hk s m args below hf hA hF happ hP
  obtain ⟨hcalls, hrest, hpre⟩ := hP
  obtain ⟨-, -, -, hnamed, -, -, -, hat⟩ := (Spec.applies_iff hf).mp happ
  obtain ⟨hg, hn⟩ := and_e (Cond.before_iff.mp (show (Jvm.Cond.and given_1 narrow_1).before args s = true from hpre))
  obtain ⟨g1, g2⟩ := and_e hg
  obtain ⟨g3, g4⟩ := and_e g2
  obtain ⟨w0, w1, rfl⟩ : ∃ w0 w1 : Value, args = #[w0, w1] := by
    have hs : args.size = 2 := by simpa [Cond.value, given_1] using g1
    obtain ⟨L⟩ := args
    match L, hs with
    | [w0, w1], _ => exact ⟨w0, w1, rfl⟩
  have hw := fun d (hd : d ∈ tables_1) => atoms_spec (ws := Jvm.Cond.code x code maxLocals ret :: tables_1) hat d (List.mem_cons_of_mem _ hd)
  have hfit : Fit s := fun {y c} hc i hi => by
    obtain ⟨ha, rfl⟩ := Array.getElem?_eq_some_iff.mp hc
    have q := List.all_eq_true.mp ((Array.all_eq_true_iff_forall_mem.mp hF) _ (Array.getElem_mem ha)) i (List.mem_range.mpr hi)
    simpa [Array.getElem?_eq_getElem hi] using q
  obtain ⟨i0, ei0⟩ := is_v g3
  obtain rfl : w0 = (.int i0) := Option.some.inj ei0
  obtain ⟨i1, ei1⟩ := is_v g4
  obtain rfl : w1 = (.int i1) := Option.some.inj ei1
  obtain ⟨n, o, h1, h2, h3, _, L, rfl, ⟨rfl, N, -⟩, hq⟩ := rm0 l s _ hw tables_1 i0 i1 s.heap s.heap.size (Nat.le_refl _) p e ha hc hk s m _ below hf ((Spec.applies_iff_loose hf).mp happ).1 ⟨rfl, State.Warmed39.refl s, rfl⟩ trivial
  refine ⟨n, _, h1, h2, h3, hpost _ _ _ _ _ _ ⟨Cond.after_iff.mpr rfl, Cond.after_iff.mpr (eq_i res_at (Term.int_eval (1)) (congrArg Value.int (own_law i0 i1))), trivial⟩ ⟨hq.1, hq.2.1, (hq.2.2.sift fun y hy => Or.inr (N y hy)).mono (by decide) (by decide)⟩⟩
theorem main_1_1 : Claimed_1_1 := comes_1 fun _ _ _ _ _ _ h hF => ⟨h.1, hF⟩
theorem main_1_2 : Claimed_1_2 := comes_1 fun _ _ _ _ _ _ h hF => ⟨h.2.1, hF⟩
end Jvm.Pilot.@@N@@
namespace Jvm.Pilot.@@N@@
open Jvm Jvm.ClassFile Sem Op Lib Jvm.Free Jvm.Stand Jvm.Pilot.@@N@@.Jvm.D
/-! MADE BY PROGRAM (witnessworld.py) out of the Statement's table words and the real class files: 7 classes; the members and pool entries that the words name. The judged class is class 1, her method 2. -/
namespace start1
open Jvm.ClassFile
def u (s : String) : CpInfo := .utf8 (stringToUtf16 s)
/-- a pool by its gaps: so many unusable entries, then the entry; so many at the end -/
def gap : Nat → List CpInfo → List CpInfo
  | 0, r => r
  | n + 1, r => .unusable :: gap n r
def poolList (es : List (Nat × CpInfo)) (last : Nat) : List CpInfo := es.foldr (fun e r => gap e.1 (e.2 :: r)) (gap last [])
def pool (es : List (Nat × CpInfo)) (last : Nat) : Array CpInfo := ⟨poolList es last⟩
def fileOf (pool : Array CpInfo) (this : Nat) (attrs : Array Attribute := #[]) (ms : Array MethodInfo := #[]) (fl : Nat := 33) (sup : Nat := 0) (ifs : Array Nat := #[]) (fds : Array FieldInfo := #[]) : ClassFile where
  minorVersion := 0
  majorVersion := 65
  constantPool := pool
  accessFlags := fl
  thisClass := this
  superClass := sup
  interfaces := ifs
  fields := fds
  methods := ms
  attributes := attrs
def plain (name : String) (sup : Option ClassId) : Class where
  name := name
  kind := .ordinary
  loader := none
  accessFlags := 33
  super := sup
  interfaces := #[]
  cf := none
  fields := #[]
  methods := #[]
  instanceTypes := #[]
  staticTypes := #[]
  resolved := #[]
  callSites := []
  init := .initialized
  statics := none
  mirror := none

def pool0 : Array CpInfo := pool [(5, u "<init>"), (0, u "()V"), (1, .class_ 10), (1, u "java/lang/Object")] 113

def k0m0 : Method := { name := "<init>", desc := "()V", sig := { parameters := [], returnType := none }, accessFlags := 1, code := none }
/-- java/lang/Object -/
def k0 : Class := { plain "java/lang/Object" none with
  accessFlags := 33
  interfaces := #[]
  cf := some (fileOf pool0 8 #[] #[{ accessFlags := 1, nameIndex := 5, descriptorIndex := 6, attributes := #[] }] 33 0 #[] #[])
  fields := #[]
  methods := #[k0m0]
  instanceTypes := #[]
  staticTypes := #[]
  resolved := Array.replicate 124 none
  statics := none }

def pool1 : Array CpInfo := pool [(2, .class_ 4), (1, u "java/lang/Object"), (0, u "<init>"), (0, u "()V"), (0, .methodref 8 9), (0, .class_ 10), (0, .nameAndType 11 12), (0, u "com/example/canonsign/canonsign/http/PercentEncoding"), (0, u "isKept"), (0, u "(BZ)Z"), (0, .methodref 14 15), (0, .class_ 16), (0, .nameAndType 17 18), (0, u "com/example/canonsign/canonsign/http/PercentEncodingIsKeptPinLaw"), (0, u "expected"), (0, u "(IZ)Z"), (3, u "law"), (0, u "(II)Z")] 2

def k1m0 : Method := { name := "<init>", desc := "()V", sig := { parameters := [], returnType := none }, accessFlags := 2, code := none }
def k1c1 : Code := { maxStack := 2, maxLocals := 7, code := method_2_code, exceptionTable := #[], attributes := #[] }
def k1m1 : Method := { name := "expected", desc := "(IZ)Z", sig := { parameters := [.int, .boolean], returnType := some .boolean }, accessFlags := 10, code := some k1c1 }
def k1c2 : Code := { maxStack := 3, maxLocals := 5, code := code, exceptionTable := #[], attributes := #[] }
def k1m2 : Method := { name := "law", desc := "(II)Z", sig := { parameters := [.int, .int], returnType := some .boolean }, accessFlags := 9, code := some k1c2 }
/-- com/example/canonsign/canonsign/http/PercentEncodingIsKeptPinLaw -/
def k1 : Class := { plain "com/example/canonsign/canonsign/http/PercentEncodingIsKeptPinLaw" (some 0) with
  accessFlags := 49
  interfaces := #[]
  cf := some (fileOf pool1 14 #[] #[{ accessFlags := 2, nameIndex := 5, descriptorIndex := 6, attributes := #[] }, { accessFlags := 10, nameIndex := 17, descriptorIndex := 18, attributes := #[] }, { accessFlags := 9, nameIndex := 22, descriptorIndex := 23, attributes := #[] }] 49 2 #[] #[])
  fields := #[]
  methods := #[k1m0, k1m1, k1m2]
  instanceTypes := #[]
  staticTypes := #[]
  resolved := Array.replicate 26 none
  statics := none }

def pool2 : Array CpInfo := pool [(2, .class_ 4), (1, u "java/lang/Object"), (0, u "<init>"), (0, u "()V"), (25, .class_ 34), (1, u "com/example/canonsign/canonsign/http/PercentEncoding"), (26, u "KEPT_IN_PATH"), (0, u "[Z"), (2, u "KEPT_IN_VALUE"), (25, u "UPPER_CASE_HEX"), (0, u "Ljava/util/HexFormat;"), (10, u "isKept"), (0, u "(BZ)Z"), (36, u "LEGAL_IN_URL")] 46

def k2m0 : Method := { name := "<init>", desc := "()V", sig := { parameters := [], returnType := none }, accessFlags := 2, code := none }
def k2c1 : Code := { maxStack := 2, maxLocals := 3, code := prog_27_method_6_code, exceptionTable := #[], attributes := #[] }
def k2m1 : Method := { name := "isKept", desc := "(BZ)Z", sig := { parameters := [.byte, .boolean], returnType := some .boolean }, accessFlags := 9, code := some k2c1 }
/-- com/example/canonsign/canonsign/http/PercentEncoding -/
def k2 : Class := { plain "com/example/canonsign/canonsign/http/PercentEncoding" (some 0) with
  accessFlags := 49
  interfaces := #[]
  cf := some (fileOf pool2 32 #[] #[{ accessFlags := 2, nameIndex := 5, descriptorIndex := 6, attributes := #[] }, { accessFlags := 9, nameIndex := 103, descriptorIndex := 104, attributes := #[] }] 49 2 #[] #[{ accessFlags := 26, nameIndex := 91, descriptorIndex := 92, attributes := #[] }, { accessFlags := 26, nameIndex := 65, descriptorIndex := 62, attributes := #[] }, { accessFlags := 26, nameIndex := 61, descriptorIndex := 62, attributes := #[] }, { accessFlags := 26, nameIndex := 141, descriptorIndex := 62, attributes := #[] }])
  fields := #[{ name := "UPPER_CASE_HEX", type := (.object "java/util/HexFormat"), accessFlags := 26, slot := 0, constantValue := 0 }, { name := "KEPT_IN_VALUE", type := (.array .boolean), accessFlags := 26, slot := 1, constantValue := 0 }, { name := "KEPT_IN_PATH", type := (.array .boolean), accessFlags := 26, slot := 2, constantValue := 0 }, { name := "LEGAL_IN_URL", type := (.array .boolean), accessFlags := 26, slot := 3, constantValue := 0 }]
  methods := #[k2m0, k2m1]
  instanceTypes := #[]
  staticTypes := #[(.object "java/util/HexFormat"), (.array .boolean), (.array .boolean), (.array .boolean)]
  resolved := Array.replicate 188 none
  statics := none }

def pool3 : Array CpInfo := pool [(1, u "java/lang/Cloneable"), (0, .class_ 1), (0, u "java/lang/Object"), (0, .class_ 3)] 3

/-- java/lang/Cloneable -/
def k3 : Class := { plain "java/lang/Cloneable" (some 0) with
  accessFlags := 1537
  interfaces := #[]
  cf := some (fileOf pool3 2 #[] #[] 1537 4 #[] #[])
  fields := #[]
  methods := #[]
  instanceTypes := #[]
  staticTypes := #[]
  resolved := Array.replicate 8 none
  statics := none }

def pool4 : Array CpInfo := pool [(1, u "java/io/Serializable"), (0, .class_ 1), (0, u "java/lang/Object"), (0, .class_ 3)] 3

/-- java/io/Serializable -/
def k4 : Class := { plain "java/io/Serializable" (some 0) with
  accessFlags := 1537
  interfaces := #[]
  cf := some (fileOf pool4 2 #[] #[] 1537 4 #[] #[])
  fields := #[]
  methods := #[]
  instanceTypes := #[]
  staticTypes := #[]
  resolved := Array.replicate 8 none
  statics := none }

/-- the primitive byte -/
def k5 : Class := { plain "byte" none with kind := .primitive 'B', accessFlags := 0x411 }
/-- [B -/
def k6 : Class := { plain "[B" (some 0) with kind := .array 5 .byte, interfaces := #[3, 4], accessFlags := 1041 }

def heap : Heap := #[]
def classes : Array Class := #[k0, k1, k2, k3, k4, k5, k6]
def interned : List (Array UInt16 × Addr) := []
def slotsUsed : Nat := 0
def theMethod : MethodId := ⟨1, 2⟩
def args0 : Array Value := #[.int 5, .int 1]
def aboutOver (below : List Frame) : State where
  vm := { classes := classes, interned := interned.toArray }
  heap := heap
  slotsUsed := slotsUsed
  threads := #[{ frames := .invoking theMethod args0 :: below }]
def below0 : List Frame := [.native { method := ⟨0, 0⟩, args := #[] }]
def about1 : State := aboutOver below0
def p0 : Program := .bare "" "" ""
def e0 : Env := launch0.env 0 0 0
theorem w_frames : about1.frames = Frame.invoking theMethod args0 :: below0 := rfl
set_option maxRecDepth 65536 in
theorem w_args : argsFit about1.vm theMethod args0 = true := by decide +kernel
set_option maxRecDepth 65536 in
theorem w_heap : heapFits about1 = true := by decide +kernel
set_option maxRecDepth 65536 in
theorem w_runnable : about1.curStatus? = some .runnable := by decide +kernel
set_option maxRecDepth 65536 in
theorem w_alone : about1.alone = true := by decide +kernel
set_option maxRecDepth 65536 in
theorem w_named : about1.methodNamed? x = some theMethod := by decide +kernel
set_option maxRecDepth 65536 in
theorem w_hears : about1.hears theMethod below0 = true := by decide +kernel
set_option maxRecDepth 65536 in
theorem w_ripe : about1.ripe theMethod args0 below0 = true := by decide +kernel
theorem w_running : about1.status = .running := rfl
set_option maxRecDepth 65536 in
theorem w_room : about1.hasRoom e0.platform room_1 = true :=
  launch0.hasRoom_least _ room_1 (by decide +kernel) (by decide +kernel) (by decide +kernel) (by decide +kernel) (by decide +kernel) (by decide +kernel)
theorem allAtoms_all (ts : List Jvm.Cond) (a : Array Jvm.Value) (st : Jvm.State) : (allAtoms ts).before a st = ts.all (fun c => c.before a st) := by
  induction ts with
  | nil => rfl
  | cons c t ih =>
    show (Jvm.Cond.and c (allAtoms t)).before a st = _
    rw [Jvm.Cond.before_and, ih, List.all_cons]
def words1 : List Jvm.Cond := Jvm.Cond.code x code maxLocals ret :: tables_1
/-- a 'code' word, met by the world's own term for the bytes: nothing is compared byte by byte -/
theorem code_word {y : MethodName} {bytes : ByteArray} {mx : Nat} {rt : Option FieldType} {a : Array Value} {s : State} {m : MethodId} {meth : Method} {c : Code} (h1 : s.methodNamed? y = some m) (h2 : s.vm.method? m = some meth) (h3 : meth.code = some c) (h4 : c.code = bytes)
    (h5 : (c.maxLocals == mx && c.exceptionTable.isEmpty && decide (c.maxStack ≤ mostOperands) && decide (meth.sig.returnType = rt) && !meth.locks && decide (parseMethodDescriptor y.desc = some meth.sig)) = true) : (Jvm.Cond.code y bytes mx rt).before a s = true := by
  simp only [Bool.and_eq_true, beq_iff_eq, Bool.not_eq_true', decide_eq_true_eq] at h5
  obtain ⟨⟨⟨⟨⟨g1, g2⟩, g3⟩, g4⟩, g5⟩, g6⟩ := h5
  simp [Cond.before, Cond.holds, Cond.value, h1, h2, h3, h4, g1, g2, g3, g4, g5, g6]
def isCode : Jvm.Cond → Bool
  | .code _ _ _ _ => true
  | _ => false
theorem all_split {L : List Jvm.Cond} {P : Jvm.Cond → Bool} (h1 : L.all (fun c => isCode c || P c) = true) (h2 : ∀ c ∈ L.filter isCode, P c = true) : L.all P = true := by
  refine List.all_eq_true.mpr fun c hc => ?_
  have h := List.all_eq_true.mp h1 c hc
  rcases Bool.eq_false_or_eq_true (isCode c) with hi | hi
  · exact h2 c (List.mem_filter.mpr ⟨hc, hi⟩)
  · simpa [hi] using h
set_option maxRecDepth 65536 in
theorem w_c0 : (Jvm.Cond.code x code maxLocals ret).before args0 about1 = true := code_word (m := ⟨1, 2⟩) (meth := k1m2) (c := k1c2) (by decide +kernel) rfl rfl rfl (by decide +kernel)
set_option maxRecDepth 65536 in
theorem w_c1 : (Jvm.Cond.code ({ cls := "com/example/canonsign/canonsign/http/PercentEncoding", name := "isKept", desc := "(BZ)Z" } : Jvm.MethodName) prog_27_method_6_code (3 : Nat) (Option.some Jvm.ClassFile.FieldType.boolean)).before args0 about1 = true := code_word (m := ⟨2, 1⟩) (meth := k2m1) (c := k2c1) (by decide +kernel) rfl rfl rfl (by decide +kernel)
set_option maxRecDepth 65536 in
theorem w_c2 : (Jvm.Cond.code ({ cls := "com/example/canonsign/canonsign/http/PercentEncodingIsKeptPinLaw", name := "expected", desc := "(IZ)Z" } : Jvm.MethodName) method_2_code (7 : Nat) (Option.some Jvm.ClassFile.FieldType.boolean)).before args0 about1 = true := code_word (m := ⟨1, 1⟩) (meth := k1m1) (c := k1c1) (by decide +kernel) rfl rfl rfl (by decide +kernel)
def codes1 : List Jvm.Cond := [Jvm.Cond.code x code maxLocals ret, Jvm.Cond.code ({ cls := "com/example/canonsign/canonsign/http/PercentEncoding", name := "isKept", desc := "(BZ)Z" } : Jvm.MethodName) prog_27_method_6_code (3 : Nat) (Option.some Jvm.ClassFile.FieldType.boolean), Jvm.Cond.code ({ cls := "com/example/canonsign/canonsign/http/PercentEncodingIsKeptPinLaw", name := "expected", desc := "(IZ)Z" } : Jvm.MethodName) method_2_code (7 : Nat) (Option.some Jvm.ClassFile.FieldType.boolean)]
set_option maxRecDepth 65536 in
theorem codes_eq : words1.filter isCode = codes1 := rfl
theorem w_codes : ∀ c ∈ words1.filter isCode, c.before args0 about1 = true := by
  rw [codes_eq]
  intro c hc
  simp only [codes1, List.mem_cons, List.not_mem_nil, or_false] at hc
  rcases hc with rfl | rfl | rfl
  · exact w_c0
  · exact w_c1
  · exact w_c2
set_option maxRecDepth 65536 in
theorem w_t1 : words1.all (fun c => isCode c || c.before args0 about1) = true := by decide +kernel
theorem w_tables : (allAtoms (Jvm.Cond.code x code maxLocals ret :: tables_1)).before args0 about1 = true := by
  rw [allAtoms_all]
  show words1.all (fun c => c.before args0 about1) = true
  refine all_split ?_ w_codes
  rw [w_t1]
set_option maxRecDepth 65536 in
theorem w_case : (Jvm.Cond.and given_1 narrow_1).before args0 about1 = true := by decide +kernel
theorem w_applies : (headSpec (Jvm.Cond.code x code maxLocals ret :: tables_1) room_1).applies x e0.platform about1 = true :=
  (Spec.applies_iff w_frames).mpr ⟨w_running, w_runnable, w_alone, w_named, w_hears, w_ripe, w_room, w_tables⟩
theorem atStart : AtStart classFile x code maxLocals ret World_1 tables_1 room_1 Calls_1 rest_1 Pre_1 launch0 p0 e0 about1 theMethod args0 below0 :=
  ⟨lists_1, trivial, launch0.admits_env _ _ _, launch0.least_env, fairChoices_fair.cas, fairChoices_fair.clock, w_frames, w_args, w_heap, w_applies, trivial, trivial, w_case⟩
end start1
theorem witness_1 : WitnessClaimed_1 := ⟨start1.p0, start1.e0, start1.about1, start1.theMethod, start1.args0, start1.below0, start1.atStart⟩
end Jvm.Pilot.@@N@@
