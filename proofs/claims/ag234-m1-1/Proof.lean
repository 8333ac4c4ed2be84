import JvmDerived
import JvmDerived.Pilot.@@N@@Statement
import JvmDerived.Pilot.@@N@@Code
set_option linter.unusedVariables false
set_option linter.unusedSimpArgs false
namespace Jvm.Pilot.@@N@@
open Jvm Jvm.ClassFile Sem Op Lib Jvm.Free Jvm.Stand Jvm.LawKit Jvm.RoadKit Bundle Jvm.Pilot.@@N@@.Jvm.D
/-! own words: where a body stands (own_C), how it ends (own_Ends), one step ahead of that (own_step), the returns -/
def own_C (cls : String) (code : ByteArray) (ml : Nat) (rt : Option FieldType) (nm : String) (p : Program) (s : State) (m : MethodId) (meth : Method) (c : Code) (Z : State) (a0 : Array Value) : Prop :=
  p.tables.exec = Jvm.exec ∧ Z.Warmed39 s.vm ∧ (∀ d ∈ tables_1, d.before a0 Z = true) ∧ c.code = code ∧ c.maxLocals = ml ∧ s.vm.findClass cls = some m.cls ∧ meth.sig.returnType = rt ∧ meth.locks = false ∧ meth.name = nm
def own_Q (n0 : Nat) (h0 : Heap) (w : Option Value) (v : Option Value) (h : Heap) (L : List Loc) : Prop := v = w ∧ Fr n0 L ∧ h = h0
def own_QL (n0 : Nat) (w : Option Value) (v : Option Value) (h : Heap) (L : List Loc) : Prop := v = w ∧ Fr n0 L ∧ True
def own_QR (n0 : Nat) (h0 : Heap) (v : Option Value) (h : Heap) (L : List Loc) : Prop := ∃ b : Addr, v = some (.ref b) ∧ Fr n0 L ∧ Keep h0 h []
def own_Ends (p : Program) (e : Env) (below : List Frame) (s : State) (kc ks : Nat) (Q : Option Value → Heap → List Loc → Prop) (T : State) (g : JFrame) : Prop :=
  ∃ s₂ o, Steps p.tables e below (T.setTop g) s₂ ∧ s₂.status = .running ∧ Ended s₂ below o ∧ ∃ v L, o = .returned v ∧ Q v s₂.heap L ∧ FrameEnd s o s₂ L kc ks
theorem own_step {p : Program} {e : Env} {below : List Frame} {s : State} {kc ks : Nat} {Q : Option Value → Heap → List Loc → Prop} {T T' : State} {g g' : JFrame}
    (st : ∀ target, Steps p.tables e below (T'.setTop g') target → Steps p.tables e below (T.setTop g) target) (h : own_Ends p e below s kc ks Q T' g') : own_Ends p e below s kc ks Q T g := by
  obtain ⟨s₂, o, h1, r⟩ := h
  exact ⟨s₂, o, st _ h1, r⟩
theorem own_mono {p : Program} {e : Env} {below : List Frame} {s : State} {kc ks : Nat} {Q Q' : Option Value → Heap → List Loc → Prop} {T : State} {g : JFrame} (h : own_Ends p e below s kc ks Q T g) (hq : ∀ v h L, Q v h L → Q' v h L) : own_Ends p e below s kc ks Q' T g := by
  obtain ⟨s₂, o, h1, h2, h3, v, L, h4, h5, h6⟩ := h
  exact ⟨s₂, o, h1, h2, h3, v, L, h4, hq _ _ _ h5, h6⟩
theorem own_nn {v : Value} (h : v.isRef = true) (q : ¬ v = .null) : ∃ y, v = .ref y := (ref_cases h).resolve_left q
theorem own_eqR {Z : State} {args : Array Value} {X F : Term} {idx : List Nat} {y : Addr} (hF : F.eval args Z none idx Z = some (.ref y)) (h : (Cond.eq X F).value args Z none Z idx = some true) : X.eval args Z none idx Z = some (.ref y) := by
  obtain ⟨x, y', e1, e2, k1, k2⟩ := cmp_v (Or.inl h)
  cases hF.symm.trans e2
  have hx : x.isRef = true := k2.2
  have := gotT (eq_R e1 hF hx rfl) h
  exact e1.trans (congrArg some this)
section OwnRet
variable {p : Program} {l : Launch} {e : Env} {R : Room} {s : State} {m : MethodId} {args : Array Value} {below : List Frame} {meth : Method} {c : Code} {T : State} {locs : List Loc} {cells slots : Nat} {kc ks : Nat} {Q : Option Value → Heap → List Loc → Prop}
theorem own_retO (X : Stand p l e R s m args below meth c T locs cells slots) (hx : p.tables.exec = Jvm.exec) {t : FieldType} (hret : meth.sig.returnType = some t) (hlk : meth.locks = false) {pc : Nat} {Ls : Array Slot} {w : Value} {i : Instr} {rest : List Value} (hn : narrow t w = w)
    (hi : (i = .ireturn ∧ (t = .int ∨ t = .boolean ∨ t = .byte ∨ t = .char ∨ t = .short) ∧ ∃ z, w = .int z) ∨ (i = .lreturn ∧ t = .long ∧ ∃ z, w = .long z) ∨ (i = .dreturn ∧ t = .double ∧ ∃ z, w = .double z) ∨ (i = .freturn ∧ t = .float ∧ ∃ z, w = .float z) ∨ (i = .areturn ∧ t.isReference = true ∧ w.isRef = true))
    (hd : decode c.code pc = .ok (i, 1)) (hc : cells ≤ kc) (hs : slots ≤ ks) (hQ : Q (some w) T.heap locs) : own_Ends p e below s kc ks Q T (mkF m pc Ls (w :: rest)) := by
  obtain ⟨fs, hr, hrun, hended, hW, hsame⟩ := X.leave (v := some w) (fun h => by rw [hret] at h; cases h) hlk
  exact ⟨_, _, retOut X hx hret hn hi hd hr, hrun, hended, _, _, rfl, hQ, ⟨_, rfl⟩, hW, hsame.mono hc hs⟩
theorem own_retI (X : Stand p l e R s m args below meth c T locs cells slots) (hx : p.tables.exec = Jvm.exec) (hret : meth.sig.returnType = some .int) (hlk : meth.locks = false) {pc : Nat} {Ls : Array Slot} {z : Int32} {rest : List Value}
    (hd : decode c.code pc = .ok (.ireturn, 1)) (hc : cells ≤ kc) (hs : slots ≤ ks) (hQ : Q (some (.int z)) T.heap locs) : own_Ends p e below s kc ks Q T (mkF m pc Ls (.int z :: rest)) :=
  own_retO X hx hret hlk rfl (Or.inl ⟨rfl, Or.inl rfl, z, rfl⟩) hd hc hs hQ
theorem own_retJ (X : Stand p l e R s m args below meth c T locs cells slots) (hx : p.tables.exec = Jvm.exec) (hret : meth.sig.returnType = some .long) (hlk : meth.locks = false) {pc : Nat} {Ls : Array Slot} {z : Int64} {rest : List Value}
    (hd : decode c.code pc = .ok (.lreturn, 1)) (hc : cells ≤ kc) (hs : slots ≤ ks) (hQ : Q (some (.long z)) T.heap locs) : own_Ends p e below s kc ks Q T (mkF m pc Ls (.long z :: rest)) :=
  own_retO X hx hret hlk rfl (Or.inr (Or.inl ⟨rfl, rfl, z, rfl⟩)) hd hc hs hQ
theorem own_retR (X : Stand p l e R s m args below meth c T locs cells slots) (hx : p.tables.exec = Jvm.exec) {t : FieldType} (hret : meth.sig.returnType = some t) (hlk : meth.locks = false) {pc : Nat} {Ls : Array Slot} {w : Value} {rest : List Value}
    (hd : decode c.code pc = .ok (.areturn, 1)) (hc : cells ≤ kc) (hs : slots ≤ ks) (ht : t.isReference = true) (hw : w.isRef = true) (hQ : Q (some w) T.heap locs) : own_Ends p e below s kc ks Q T (mkF m pc Ls (w :: rest)) :=
  own_retO X hx hret hlk (by cases t <;> first | rfl | cases ht) (Or.inr (Or.inr (Or.inr (Or.inr ⟨rfl, ht, hw⟩)))) hd hc hs hQ
theorem own_retN (X : Stand p l e R s m args below meth c T locs cells slots) {t : FieldType} (hx : p.tables.exec = Jvm.exec) (hret : meth.sig.returnType = some t) (hlk : meth.locks = false) {pc : Nat} {Ls : Array Slot} {z : Int32} {rest : List Value}
    (hd : decode c.code pc = .ok (.ireturn, 1)) (hc : cells ≤ kc) (hs : slots ≤ ks) (ht : t = .boolean ∨ t = .byte ∨ t = .char ∨ t = .short) (hQ : Q (some (.int (nar t z))) T.heap locs) : own_Ends p e below s kc ks Q T (mkF m pc Ls (.int z :: rest)) := by
  obtain ⟨fs, hr, hrun, hended, hW, hsame⟩ := X.leave (v := some (.int (nar t z))) (fun h => by rw [hret] at h; cases h) hlk
  exact ⟨_, _, retN X hx hret ht hd hr, hrun, hended, _, _, rfl, hQ, ⟨_, rfl⟩, hW, hsame.mono hc hs⟩
theorem own_retV (X : Stand p l e R s m args below meth c T locs cells slots) (hx : p.tables.exec = Jvm.exec) (hret : meth.sig.returnType = none) (hlk : meth.locks = false) {pc : Nat} {Ls : Array Slot}
    (hd : decode c.code pc = .ok (.return_, 1)) (hc : cells ≤ kc) (hs : slots ≤ ks) (hQ : Q none T.heap locs) : own_Ends p e below s kc ks Q T (mkF m pc Ls []) := by
  obtain ⟨fs, hr, hrun, hended, hW, hsame⟩ := X.leave (v := none) (fun _ => rfl) hlk
  exact ⟨_, _, X.returnOut hx hret hd hr, hrun, hended, _, _, rfl, hQ, ⟨_, rfl⟩, hW, hsame.mono hc hs⟩
end OwnRet
/-! the same for a body that may load String constants (the wide frame) -/
def own_EndsW (p : Program) (e : Env) (below : List Frame) (s : State) (kc ks : Nat) (Q : Option Value → Heap → List Loc → Prop) (T : State) (g : JFrame) : Prop :=
  ∃ s₂ o, Steps p.tables e below (T.setTop g) s₂ ∧ s₂.status = .running ∧ Ended s₂ below o ∧ ∃ v L, o = .returned v ∧ Q v s₂.heap L ∧ ReturnedEndW s o s₂ L kc ks
theorem own_stepW {p : Program} {e : Env} {below : List Frame} {s : State} {kc ks : Nat} {Q : Option Value → Heap → List Loc → Prop} {T T' : State} {g g' : JFrame}
    (st : ∀ target, Steps p.tables e below (T'.setTop g') target → Steps p.tables e below (T.setTop g) target) (h : own_EndsW p e below s kc ks Q T' g') : own_EndsW p e below s kc ks Q T g := by
  obtain ⟨s₂, o, h1, r⟩ := h
  exact ⟨s₂, o, st _ h1, r⟩
section OwnRetW
variable {p : Program} {l : Launch} {e : Env} {R : Room} {s : State} {vm0 : Vm} {k0 : Nat} {m : MethodId} {args : Array Value} {below : List Frame} {meth : Method} {c : Code} {T : State} {locs : List Loc} {cells slots : Nat} {kc ks : Nat} {Q : Option Value → Heap → List Loc → Prop}
theorem own_retOW (X : Stand p l e R (s.setVm vm0) m args below meth c T locs cells slots) (hS : s.Since vm0 k0) (hk : k0 ≤ T.heap.size) (hx : p.tables.exec = Jvm.exec) {t : FieldType} (hret : meth.sig.returnType = some t) (hlk : meth.locks = false) {pc : Nat} {Ls : Array Slot} {w : Value} {i : Instr} {rest : List Value} (hn : narrow t w = w)
    (hi : (i = .ireturn ∧ (t = .int ∨ t = .boolean ∨ t = .byte ∨ t = .char ∨ t = .short) ∧ ∃ z, w = .int z) ∨ (i = .lreturn ∧ t = .long ∧ ∃ z, w = .long z) ∨ (i = .dreturn ∧ t = .double ∧ ∃ z, w = .double z) ∨ (i = .freturn ∧ t = .float ∧ ∃ z, w = .float z) ∨ (i = .areturn ∧ t.isReference = true ∧ w.isRef = true))
    (hd : decode c.code pc = .ok (i, 1)) (hc : cells ≤ kc) (hs : slots ≤ ks) (hQ : Q (some w) T.heap locs) : own_EndsW p e below s kc ks Q T (mkF m pc Ls (w :: rest)) := by
  obtain ⟨fs, hr, hrun, hended, e1, e2, e3, e4⟩ := X.leaveW hS hk (v := some w) (fun h => by rw [hret] at h; cases h) hlk
  exact ⟨_, _, retOut X hx hret hn hi hd hr, hrun, hended, _, _, rfl, hQ, e1, e2, e3, e4.mono hc hs⟩
theorem own_retRW (X : Stand p l e R (s.setVm vm0) m args below meth c T locs cells slots) (hS : s.Since vm0 k0) (hk : k0 ≤ T.heap.size) (hx : p.tables.exec = Jvm.exec) {t : FieldType} (hret : meth.sig.returnType = some t) (hlk : meth.locks = false) {pc : Nat} {Ls : Array Slot} {w : Value} {rest : List Value}
    (hd : decode c.code pc = .ok (.areturn, 1)) (hc : cells ≤ kc) (hs : slots ≤ ks) (ht : t.isReference = true) (hw : w.isRef = true) (hQ : Q (some w) T.heap locs) : own_EndsW p e below s kc ks Q T (mkF m pc Ls (w :: rest)) :=
  own_retOW X hS hk hx hret hlk (by cases t <;> first | rfl | cases ht) (Or.inr (Or.inr (Or.inr (Or.inr ⟨rfl, ht, hw⟩)))) hd hc hs hQ
theorem own_retNW (X : Stand p l e R (s.setVm vm0) m args below meth c T locs cells slots) (hS : s.Since vm0 k0) (hk : k0 ≤ T.heap.size) {t : FieldType} (hx : p.tables.exec = Jvm.exec) (hret : meth.sig.returnType = some t) (hlk : meth.locks = false) {pc : Nat} {Ls : Array Slot} {z : Int32} {rest : List Value}
    (hd : decode c.code pc = .ok (.ireturn, 1)) (hc : cells ≤ kc) (hs : slots ≤ ks) (ht : t = .boolean ∨ t = .byte ∨ t = .char ∨ t = .short) (hQ : Q (some (.int (nar t z))) T.heap locs) : own_EndsW p e below s kc ks Q T (mkF m pc Ls (.int z :: rest)) := by
  obtain ⟨fs, hr, hrun, hended, e1, e2, e3, e4⟩ := X.leaveW hS hk (v := some (.int (nar t z))) (fun h => by rw [hret] at h; cases h) hlk
  exact ⟨_, _, retN X hx hret ht hd hr, hrun, hended, _, _, rfl, hQ, e1, e2, e3, e4.mono hc hs⟩
end OwnRetW

def own_edges : List Int32 := [0, 9, 10, 13, 32, 55295, 55296, 57343, 57344, 65533, 65534, 65535, 65536, 1114111, 1114112, -2147483648, 2147483647]
def own_edge (j : Int32) : Int32 := own_edges.getD j.toNatClampNeg 0
theorem own_getD (l : List Int32) (n : Nat) : (l.map Value.int).getD n (.int 0) = .int (l.getD n 0) := by
  induction l generalizing n with
  | nil => rfl
  | cons a l ih => cases n with
    | zero => rfl
    | succ n => exact ih n
theorem own_mask31 (x : Int32) : 0 ≤ (x &&& (2147483647 : Int32)).toInt ∧ (x &&& (2147483647 : Int32)).toInt < 2147483648 := by
  have h1 : (x &&& (2147483647 : Int32)).toBitVec.toNat = x.toBitVec.toNat % 2 ^ 31 := by
    show (x.toBitVec &&& (2147483647 : Int32).toBitVec).toNat = _
    rw [BitVec.toNat_and, show (2147483647 : Int32).toBitVec.toNat = 2 ^ 31 - 1 from by decide, Nat.and_two_pow_sub_one_eq_mod]
  have h3 : x.toBitVec.toNat % 2 ^ 31 < 2 ^ 31 := Nat.mod_lt _ (Nat.two_pow_pos 31)
  show 0 ≤ (x &&& (2147483647 : Int32)).toBitVec.toInt ∧ (x &&& (2147483647 : Int32)).toBitVec.toInt < 2147483648
  rw [BitVec.toInt_eq_toNat_cond, h1, if_pos (by omega)]
  constructor <;> omega
theorem own_i17 (x : Int32) : ¬ ((x &&& (2147483647 : Int32)) % (17 : Int32)) < 0 ∧ ((x &&& (2147483647 : Int32)) % (17 : Int32)) < (17 : Int32) := by
  have h := own_mask31 x
  have e17 : (17 : Int32).toInt = 17 := rfl
  have e0 : (0 : Int32).toInt = 0 := rfl
  have hm : ((x &&& (2147483647 : Int32)) % (17 : Int32)).toInt = (x &&& (2147483647 : Int32)).toInt % 17 := by rw [Int32.toInt_mod, Int.tmod_eq_emod_of_nonneg h.1, e17]
  have h0 := Int.emod_nonneg (x &&& (2147483647 : Int32)).toInt (show (17 : Int) ≠ 0 by decide)
  have h1 := Int.emod_lt_of_pos (x &&& (2147483647 : Int32)).toInt (show (0 : Int) < 17 by decide)
  rw [Int32.lt_iff_toInt_lt, Int32.lt_iff_toInt_lt, hm, e17, e0]; omega

theorem pn_0 : plainName "lomwright/lom/Xml10" = true := by first | (simp [plainName, overriddenIn]; done) | decide +kernel
theorem pn_1 : plainName "lomwright/lom/Xml10AllowedPinLaw" = true := by first | (simp [plainName, overriddenIn]; done) | decide +kernel
theorem pd_0 : parseMethodDescriptor "(I)Z" = some ⟨[.int], some .boolean⟩ := by decide +kernel
theorem d1_0 : decode prog_110_method_10_code 0 = .ok (.iload_n 0, 1) := by decide +kernel
theorem d1_1 : decode prog_110_method_10_code 1 = .ok (.bipush 32, 2) := by decide +kernel
theorem d1_3 : decode prog_110_method_10_code 3 = .ok (.if_icmp .ge 27, 3) := by decide +kernel
theorem d1_6 : decode prog_110_method_10_code 6 = .ok (.iload_n 0, 1) := by decide +kernel
theorem d1_7 : decode prog_110_method_10_code 7 = .ok (.bipush 9, 2) := by decide +kernel
theorem d1_9 : decode prog_110_method_10_code 9 = .ok (.if_icmp .eq 15, 3) := by decide +kernel
theorem d1_12 : decode prog_110_method_10_code 12 = .ok (.iload_n 0, 1) := by decide +kernel
theorem d1_13 : decode prog_110_method_10_code 13 = .ok (.bipush 10, 2) := by decide +kernel
theorem d1_15 : decode prog_110_method_10_code 15 = .ok (.if_icmp .eq 9, 3) := by decide +kernel
theorem d1_18 : decode prog_110_method_10_code 18 = .ok (.iload_n 0, 1) := by decide +kernel
theorem d1_19 : decode prog_110_method_10_code 19 = .ok (.bipush 13, 2) := by decide +kernel
theorem d1_21 : decode prog_110_method_10_code 21 = .ok (.if_icmp .ne 7, 3) := by decide +kernel
theorem d1_24 : decode prog_110_method_10_code 24 = .ok (.iconst 1, 1) := by decide +kernel
theorem d1_25 : decode prog_110_method_10_code 25 = .ok (.goto 4, 3) := by decide +kernel
theorem d1_28 : decode prog_110_method_10_code 28 = .ok (.iconst 0, 1) := by decide +kernel
theorem d1_29 : decode prog_110_method_10_code 29 = .ok (.ireturn, 1) := by decide +kernel
theorem d1_30 : decode prog_110_method_10_code 30 = .ok (.iload_n 0, 1) := by decide +kernel
theorem d1_31 : decode prog_110_method_10_code 31 = .ok (.ldc 99, 2) := by decide +kernel
theorem d1_33 : decode prog_110_method_10_code 33 = .ok (.if_icmp .le 27, 3) := by decide +kernel
theorem d1_36 : decode prog_110_method_10_code 36 = .ok (.iload_n 0, 1) := by decide +kernel
theorem d1_37 : decode prog_110_method_10_code 37 = .ok (.ldc 100, 2) := by decide +kernel
theorem d1_39 : decode prog_110_method_10_code 39 = .ok (.if_icmp .lt 9, 3) := by decide +kernel
theorem d1_42 : decode prog_110_method_10_code 42 = .ok (.iload_n 0, 1) := by decide +kernel
theorem d1_43 : decode prog_110_method_10_code 43 = .ok (.ldc 101, 2) := by decide +kernel
theorem d1_45 : decode prog_110_method_10_code 45 = .ok (.if_icmp .le 15, 3) := by decide +kernel
theorem d1_48 : decode prog_110_method_10_code 48 = .ok (.iload_n 0, 1) := by decide +kernel
theorem d1_49 : decode prog_110_method_10_code 49 = .ok (.ldc 102, 2) := by decide +kernel
theorem d1_51 : decode prog_110_method_10_code 51 = .ok (.if_icmp .lt 13, 3) := by decide +kernel
theorem d1_54 : decode prog_110_method_10_code 54 = .ok (.iload_n 0, 1) := by decide +kernel
theorem d1_55 : decode prog_110_method_10_code 55 = .ok (.ldc 103, 2) := by decide +kernel
theorem d1_57 : decode prog_110_method_10_code 57 = .ok (.if_icmp .gt 7, 3) := by decide +kernel
theorem d1_60 : decode prog_110_method_10_code 60 = .ok (.iconst 1, 1) := by decide +kernel
theorem d1_61 : decode prog_110_method_10_code 61 = .ok (.goto 4, 3) := by decide +kernel
theorem d1_64 : decode prog_110_method_10_code 64 = .ok (.iconst 0, 1) := by decide +kernel
theorem d1_65 : decode prog_110_method_10_code 65 = .ok (.ireturn, 1) := by decide +kernel
def f1_48 (i0 : Int32) : Int32 := (if i0 < (65536 : Int32) then (0 : Int32) else (if (1114111 : Int32) < i0 then (0 : Int32) else (1 : Int32)))
set_option maxRecDepth 65536 in
set_option maxHeartbeats 40000000 in
theorem b1_48 {p : Program} {l : Launch} {e : Env} {s : State} {m : MethodId} {args : Array Value} {below : List Frame} {meth : Method} {c : Code} {Z : State} {a0 : Array Value} {h0 : Heap} {n0 : Nat} (C : own_C "lomwright/lom/Xml10" prog_110_method_10_code 1 (some .boolean) "allowed" p s m meth c Z a0) (Z0 : n0 ≤ h0.size) {T0 : State} {locs : List Loc} (X0 : Stand p l e ({ frames := 0, cells := 0, slots := 0, locals := 0 } : Room) s m args below meth c T0 locs 0 0) (e0 : T0.heap = h0) (N0 : Fr n0 locs) (i0 : Int32) (W : Int32) (hv : W = f1_48 i0) :
    own_Ends p e below s ({ frames := 0, cells := 0, slots := 0, locals := 0 } : Room).cells ({ frames := 0, cells := 0, slots := 0, locals := 0 } : Room).slots (own_Q n0 h0 (some (.int W))) T0 (mkF m 48 #[.val (.int i0)] []) := by
  obtain ⟨hx, hZ, hw, hby, hml, hown, hret, hlk, hnm⟩ := C
  have C : own_C "lomwright/lom/Xml10" prog_110_method_10_code 1 (some .boolean) "allowed" p s m meth c Z a0 := ⟨hx, hZ, hw, hby, hml, hown, hret, hlk, hnm⟩
  unfold f1_48 at hv
  refine own_step (fun _ => XS.iloadN X0.here hx rfl (hb hby d1_48) rfl) ?_
  show own_Ends p e below s _ _ _ T0 (mkF m 49 #[.val (.int i0)] [(.int i0)])
  refine own_step (fun _ => X0.ldcInt hx hown (mvT hZ (hw _ (List.mem_of_getElem? (i := 24) rfl))) (g := (mkF m 49 #[.val (.int i0)] [(.int i0)])) rfl (hb hby d1_49) _) ?_
  show own_Ends p e below s _ _ _ T0 (mkF m 51 #[.val (.int i0)] [(.int (65536 : Int32)), (.int i0)])
  by_cases hc51 : i0 < (65536 : Int32)
  · have hv_t := hv.trans (if_pos hc51)
    refine own_step (fun _ => XS.icmpYes X0.here hx rfl (pc0 := 51) (pc' := 64) rfl (hb hby d1_51) rfl (tlt hc51).1 (by decide) (by decide)) ?_
    show own_Ends p e below s _ _ _ T0 (mkF m 64 #[.val (.int i0)] [])
    refine own_step (fun _ => XS.iconst X0.here hx rfl (hb hby d1_64)) ?_
    show own_Ends p e below s _ _ _ T0 (mkF m 65 #[.val (.int i0)] [(.int (0 : Int32))])
    exact own_retN X0 (t := .boolean) hx hret hlk (hb hby d1_65) (by decide) (by decide) (by simp) ⟨congrArg (fun z => some (Value.int z)) hv_t.symm, N0, e0⟩
  · have hv_f := hv.trans (if_neg hc51)
    refine own_step (fun _ => XS.icmpNo X0.here hx rfl (hb hby d1_51) rfl (flt hc51).1) ?_
    show own_Ends p e below s _ _ _ T0 (mkF m 54 #[.val (.int i0)] [])
    refine own_step (fun _ => XS.iloadN X0.here hx rfl (hb hby d1_54) rfl) ?_
    show own_Ends p e below s _ _ _ T0 (mkF m 55 #[.val (.int i0)] [(.int i0)])
    refine own_step (fun _ => X0.ldcInt hx hown (mvT hZ (hw _ (List.mem_of_getElem? (i := 25) rfl))) (g := (mkF m 55 #[.val (.int i0)] [(.int i0)])) rfl (hb hby d1_55) _) ?_
    show own_Ends p e below s _ _ _ T0 (mkF m 57 #[.val (.int i0)] [(.int (1114111 : Int32)), (.int i0)])
    by_cases hc57 : (1114111 : Int32) < i0
    · have hv_f_t := hv_f.trans (if_pos hc57)
      refine own_step (fun _ => XS.icmpYes X0.here hx rfl (pc0 := 57) (pc' := 64) rfl (hb hby d1_57) rfl (tlt hc57).2.2.1 (by decide) (by decide)) ?_
      show own_Ends p e below s _ _ _ T0 (mkF m 64 #[.val (.int i0)] [])
      refine own_step (fun _ => XS.iconst X0.here hx rfl (hb hby d1_64)) ?_
      show own_Ends p e below s _ _ _ T0 (mkF m 65 #[.val (.int i0)] [(.int (0 : Int32))])
      exact own_retN X0 (t := .boolean) hx hret hlk (hb hby d1_65) (by decide) (by decide) (by simp) ⟨congrArg (fun z => some (Value.int z)) hv_f_t.symm, N0, e0⟩
    · have hv_f_f := hv_f.trans (if_neg hc57)
      refine own_step (fun _ => XS.icmpNo X0.here hx rfl (hb hby d1_57) rfl (flt hc57).2.2.1) ?_
      show own_Ends p e below s _ _ _ T0 (mkF m 60 #[.val (.int i0)] [])
      refine own_step (fun _ => XS.iconst X0.here hx rfl (hb hby d1_60)) ?_
      show own_Ends p e below s _ _ _ T0 (mkF m 61 #[.val (.int i0)] [(.int (1 : Int32))])
      refine own_step (fun _ => XS.goto X0.here hx rfl (pc0 := 61) (pc' := 65) rfl (hb hby d1_61) (by decide) (by decide)) ?_
      show own_Ends p e below s _ _ _ T0 (mkF m 65 #[.val (.int i0)] [(.int (1 : Int32))])
      exact own_retN X0 (t := .boolean) hx hret hlk (hb hby d1_65) (by decide) (by decide) (by simp) ⟨congrArg (fun z => some (Value.int z)) hv_f_f.symm, N0, e0⟩
def f1_0 (i0 : Int32) : Int32 := (if i0 < (32 : Int32) then (if i0 = (9 : Int32) then (1 : Int32) else (if i0 = (10 : Int32) then (1 : Int32) else (if i0 = (13 : Int32) then (1 : Int32) else (0 : Int32)))) else (if (55295 : Int32) < i0 then (if i0 < (57344 : Int32) then (f1_48 i0) else (if (65533 : Int32) < i0 then (f1_48 i0) else (1 : Int32))) else (1 : Int32)))
set_option maxRecDepth 65536 in
set_option maxHeartbeats 40000000 in
theorem b1_0 {p : Program} {l : Launch} {e : Env} {s : State} {m : MethodId} {args : Array Value} {below : List Frame} {meth : Method} {c : Code} {Z : State} {a0 : Array Value} {h0 : Heap} {n0 : Nat} (C : own_C "lomwright/lom/Xml10" prog_110_method_10_code 1 (some .boolean) "allowed" p s m meth c Z a0) (Z0 : n0 ≤ h0.size) {T0 : State} {locs : List Loc} (X0 : Stand p l e ({ frames := 0, cells := 0, slots := 0, locals := 0 } : Room) s m args below meth c T0 locs 0 0) (e0 : T0.heap = h0) (N0 : Fr n0 locs) (i0 : Int32) (W : Int32) (hv : W = f1_0 i0) :
    own_Ends p e below s ({ frames := 0, cells := 0, slots := 0, locals := 0 } : Room).cells ({ frames := 0, cells := 0, slots := 0, locals := 0 } : Room).slots (own_Q n0 h0 (some (.int W))) T0 (mkF m 0 #[.val (.int i0)] []) := by
  obtain ⟨hx, hZ, hw, hby, hml, hown, hret, hlk, hnm⟩ := C
  have C : own_C "lomwright/lom/Xml10" prog_110_method_10_code 1 (some .boolean) "allowed" p s m meth c Z a0 := ⟨hx, hZ, hw, hby, hml, hown, hret, hlk, hnm⟩
  unfold f1_0 at hv
  refine own_step (fun _ => XS.iloadN X0.here hx rfl (hb hby d1_0) rfl) ?_
  show own_Ends p e below s _ _ _ T0 (mkF m 1 #[.val (.int i0)] [(.int i0)])
  refine own_step (fun _ => XS.bipush X0.here hx rfl (hb hby d1_1)) ?_
  show own_Ends p e below s _ _ _ T0 (mkF m 3 #[.val (.int i0)] [(.int (32 : Int32)), (.int i0)])
  by_cases hc3 : i0 < (32 : Int32)
  · have hv_t := hv.trans (if_pos hc3)
    refine own_step (fun _ => XS.icmpNo X0.here hx rfl (hb hby d1_3) rfl (tlt hc3).2.1) ?_
    show own_Ends p e below s _ _ _ T0 (mkF m 6 #[.val (.int i0)] [])
    refine own_step (fun _ => XS.iloadN X0.here hx rfl (hb hby d1_6) rfl) ?_
    show own_Ends p e below s _ _ _ T0 (mkF m 7 #[.val (.int i0)] [(.int i0)])
    refine own_step (fun _ => XS.bipush X0.here hx rfl (hb hby d1_7)) ?_
    show own_Ends p e below s _ _ _ T0 (mkF m 9 #[.val (.int i0)] [(.int (9 : Int32)), (.int i0)])
    by_cases hc9 : i0 = (9 : Int32)
    · have hv_t_t := hv_t.trans (if_pos hc9)
      refine own_step (fun _ => XS.icmpYes X0.here hx rfl (pc0 := 9) (pc' := 24) rfl (hb hby d1_9) rfl (teq hc9).1 (by decide) (by decide)) ?_
      show own_Ends p e below s _ _ _ T0 (mkF m 24 #[.val (.int i0)] [])
      refine own_step (fun _ => XS.iconst X0.here hx rfl (hb hby d1_24)) ?_
      show own_Ends p e below s _ _ _ T0 (mkF m 25 #[.val (.int i0)] [(.int (1 : Int32))])
      refine own_step (fun _ => XS.goto X0.here hx rfl (pc0 := 25) (pc' := 29) rfl (hb hby d1_25) (by decide) (by decide)) ?_
      show own_Ends p e below s _ _ _ T0 (mkF m 29 #[.val (.int i0)] [(.int (1 : Int32))])
      exact own_retN X0 (t := .boolean) hx hret hlk (hb hby d1_29) (by decide) (by decide) (by simp) ⟨congrArg (fun z => some (Value.int z)) hv_t_t.symm, N0, e0⟩
    · have hv_t_f := hv_t.trans (if_neg hc9)
      refine own_step (fun _ => XS.icmpNo X0.here hx rfl (hb hby d1_9) rfl (feq hc9).1) ?_
      show own_Ends p e below s _ _ _ T0 (mkF m 12 #[.val (.int i0)] [])
      refine own_step (fun _ => XS.iloadN X0.here hx rfl (hb hby d1_12) rfl) ?_
      show own_Ends p e below s _ _ _ T0 (mkF m 13 #[.val (.int i0)] [(.int i0)])
      refine own_step (fun _ => XS.bipush X0.here hx rfl (hb hby d1_13)) ?_
      show own_Ends p e below s _ _ _ T0 (mkF m 15 #[.val (.int i0)] [(.int (10 : Int32)), (.int i0)])
      by_cases hc15 : i0 = (10 : Int32)
      · have hv_t_f_t := hv_t_f.trans (if_pos hc15)
        refine own_step (fun _ => XS.icmpYes X0.here hx rfl (pc0 := 15) (pc' := 24) rfl (hb hby d1_15) rfl (teq hc15).1 (by decide) (by decide)) ?_
        show own_Ends p e below s _ _ _ T0 (mkF m 24 #[.val (.int i0)] [])
        refine own_step (fun _ => XS.iconst X0.here hx rfl (hb hby d1_24)) ?_
        show own_Ends p e below s _ _ _ T0 (mkF m 25 #[.val (.int i0)] [(.int (1 : Int32))])
        refine own_step (fun _ => XS.goto X0.here hx rfl (pc0 := 25) (pc' := 29) rfl (hb hby d1_25) (by decide) (by decide)) ?_
        show own_Ends p e below s _ _ _ T0 (mkF m 29 #[.val (.int i0)] [(.int (1 : Int32))])
        exact own_retN X0 (t := .boolean) hx hret hlk (hb hby d1_29) (by decide) (by decide) (by simp) ⟨congrArg (fun z => some (Value.int z)) hv_t_f_t.symm, N0, e0⟩
      · have hv_t_f_f := hv_t_f.trans (if_neg hc15)
        refine own_step (fun _ => XS.icmpNo X0.here hx rfl (hb hby d1_15) rfl (feq hc15).1) ?_
        show own_Ends p e below s _ _ _ T0 (mkF m 18 #[.val (.int i0)] [])
        refine own_step (fun _ => XS.iloadN X0.here hx rfl (hb hby d1_18) rfl) ?_
        show own_Ends p e below s _ _ _ T0 (mkF m 19 #[.val (.int i0)] [(.int i0)])
        refine own_step (fun _ => XS.bipush X0.here hx rfl (hb hby d1_19)) ?_
        show own_Ends p e below s _ _ _ T0 (mkF m 21 #[.val (.int i0)] [(.int (13 : Int32)), (.int i0)])
        by_cases hc21 : i0 = (13 : Int32)
        · have hv_t_f_f_t := hv_t_f_f.trans (if_pos hc21)
          refine own_step (fun _ => XS.icmpNo X0.here hx rfl (hb hby d1_21) rfl (teq hc21).2) ?_
          show own_Ends p e below s _ _ _ T0 (mkF m 24 #[.val (.int i0)] [])
          refine own_step (fun _ => XS.iconst X0.here hx rfl (hb hby d1_24)) ?_
          show own_Ends p e below s _ _ _ T0 (mkF m 25 #[.val (.int i0)] [(.int (1 : Int32))])
          refine own_step (fun _ => XS.goto X0.here hx rfl (pc0 := 25) (pc' := 29) rfl (hb hby d1_25) (by decide) (by decide)) ?_
          show own_Ends p e below s _ _ _ T0 (mkF m 29 #[.val (.int i0)] [(.int (1 : Int32))])
          exact own_retN X0 (t := .boolean) hx hret hlk (hb hby d1_29) (by decide) (by decide) (by simp) ⟨congrArg (fun z => some (Value.int z)) hv_t_f_f_t.symm, N0, e0⟩
        · have hv_t_f_f_f := hv_t_f_f.trans (if_neg hc21)
          refine own_step (fun _ => XS.icmpYes X0.here hx rfl (pc0 := 21) (pc' := 28) rfl (hb hby d1_21) rfl (feq hc21).2 (by decide) (by decide)) ?_
          show own_Ends p e below s _ _ _ T0 (mkF m 28 #[.val (.int i0)] [])
          refine own_step (fun _ => XS.iconst X0.here hx rfl (hb hby d1_28)) ?_
          show own_Ends p e below s _ _ _ T0 (mkF m 29 #[.val (.int i0)] [(.int (0 : Int32))])
          exact own_retN X0 (t := .boolean) hx hret hlk (hb hby d1_29) (by decide) (by decide) (by simp) ⟨congrArg (fun z => some (Value.int z)) hv_t_f_f_f.symm, N0, e0⟩
  · have hv_f := hv.trans (if_neg hc3)
    refine own_step (fun _ => XS.icmpYes X0.here hx rfl (pc0 := 3) (pc' := 30) rfl (hb hby d1_3) rfl (flt hc3).2.1 (by decide) (by decide)) ?_
    show own_Ends p e below s _ _ _ T0 (mkF m 30 #[.val (.int i0)] [])
    refine own_step (fun _ => XS.iloadN X0.here hx rfl (hb hby d1_30) rfl) ?_
    show own_Ends p e below s _ _ _ T0 (mkF m 31 #[.val (.int i0)] [(.int i0)])
    refine own_step (fun _ => X0.ldcInt hx hown (mvT hZ (hw _ (List.mem_of_getElem? (i := 21) rfl))) (g := (mkF m 31 #[.val (.int i0)] [(.int i0)])) rfl (hb hby d1_31) _) ?_
    show own_Ends p e below s _ _ _ T0 (mkF m 33 #[.val (.int i0)] [(.int (55295 : Int32)), (.int i0)])
    by_cases hc33 : (55295 : Int32) < i0
    · have hv_f_t := hv_f.trans (if_pos hc33)
      refine own_step (fun _ => XS.icmpNo X0.here hx rfl (hb hby d1_33) rfl (tlt hc33).2.2.2) ?_
      show own_Ends p e below s _ _ _ T0 (mkF m 36 #[.val (.int i0)] [])
      refine own_step (fun _ => XS.iloadN X0.here hx rfl (hb hby d1_36) rfl) ?_
      show own_Ends p e below s _ _ _ T0 (mkF m 37 #[.val (.int i0)] [(.int i0)])
      refine own_step (fun _ => X0.ldcInt hx hown (mvT hZ (hw _ (List.mem_of_getElem? (i := 22) rfl))) (g := (mkF m 37 #[.val (.int i0)] [(.int i0)])) rfl (hb hby d1_37) _) ?_
      show own_Ends p e below s _ _ _ T0 (mkF m 39 #[.val (.int i0)] [(.int (57344 : Int32)), (.int i0)])
      by_cases hc39 : i0 < (57344 : Int32)
      · have hv_f_t_t := hv_f_t.trans (if_pos hc39)
        refine own_step (fun _ => XS.icmpYes X0.here hx rfl (pc0 := 39) (pc' := 48) rfl (hb hby d1_39) rfl (tlt hc39).1 (by decide) (by decide)) ?_
        show own_Ends p e below s _ _ _ T0 (mkF m 48 #[.val (.int i0)] [])
        exact b1_48 C Z0 X0 e0 N0 i0 _ hv_f_t_t
      · have hv_f_t_f := hv_f_t.trans (if_neg hc39)
        refine own_step (fun _ => XS.icmpNo X0.here hx rfl (hb hby d1_39) rfl (flt hc39).1) ?_
        show own_Ends p e below s _ _ _ T0 (mkF m 42 #[.val (.int i0)] [])
        refine own_step (fun _ => XS.iloadN X0.here hx rfl (hb hby d1_42) rfl) ?_
        show own_Ends p e below s _ _ _ T0 (mkF m 43 #[.val (.int i0)] [(.int i0)])
        refine own_step (fun _ => X0.ldcInt hx hown (mvT hZ (hw _ (List.mem_of_getElem? (i := 23) rfl))) (g := (mkF m 43 #[.val (.int i0)] [(.int i0)])) rfl (hb hby d1_43) _) ?_
        show own_Ends p e below s _ _ _ T0 (mkF m 45 #[.val (.int i0)] [(.int (65533 : Int32)), (.int i0)])
        by_cases hc45 : (65533 : Int32) < i0
        · have hv_f_t_f_t := hv_f_t_f.trans (if_pos hc45)
          refine own_step (fun _ => XS.icmpNo X0.here hx rfl (hb hby d1_45) rfl (tlt hc45).2.2.2) ?_
          show own_Ends p e below s _ _ _ T0 (mkF m 48 #[.val (.int i0)] [])
          exact b1_48 C Z0 X0 e0 N0 i0 _ hv_f_t_f_t
        · have hv_f_t_f_f := hv_f_t_f.trans (if_neg hc45)
          refine own_step (fun _ => XS.icmpYes X0.here hx rfl (pc0 := 45) (pc' := 60) rfl (hb hby d1_45) rfl (flt hc45).2.2.2 (by decide) (by decide)) ?_
          show own_Ends p e below s _ _ _ T0 (mkF m 60 #[.val (.int i0)] [])
          refine own_step (fun _ => XS.iconst X0.here hx rfl (hb hby d1_60)) ?_
          show own_Ends p e below s _ _ _ T0 (mkF m 61 #[.val (.int i0)] [(.int (1 : Int32))])
          refine own_step (fun _ => XS.goto X0.here hx rfl (pc0 := 61) (pc' := 65) rfl (hb hby d1_61) (by decide) (by decide)) ?_
          show own_Ends p e below s _ _ _ T0 (mkF m 65 #[.val (.int i0)] [(.int (1 : Int32))])
          exact own_retN X0 (t := .boolean) hx hret hlk (hb hby d1_65) (by decide) (by decide) (by simp) ⟨congrArg (fun z => some (Value.int z)) hv_f_t_f_f.symm, N0, e0⟩
    · have hv_f_f := hv_f.trans (if_neg hc33)
      refine own_step (fun _ => XS.icmpYes X0.here hx rfl (pc0 := 33) (pc' := 60) rfl (hb hby d1_33) rfl (flt hc33).2.2.2 (by decide) (by decide)) ?_
      show own_Ends p e below s _ _ _ T0 (mkF m 60 #[.val (.int i0)] [])
      refine own_step (fun _ => XS.iconst X0.here hx rfl (hb hby d1_60)) ?_
      show own_Ends p e below s _ _ _ T0 (mkF m 61 #[.val (.int i0)] [(.int (1 : Int32))])
      refine own_step (fun _ => XS.goto X0.here hx rfl (pc0 := 61) (pc' := 65) rfl (hb hby d1_61) (by decide) (by decide)) ?_
      show own_Ends p e below s _ _ _ T0 (mkF m 65 #[.val (.int i0)] [(.int (1 : Int32))])
      exact own_retN X0 (t := .boolean) hx hret hlk (hb hby d1_65) (by decide) (by decide) (by simp) ⟨congrArg (fun z => some (Value.int z)) hv_f_f.symm, N0, e0⟩
theorem ef_rm1 (m : MethodId) (i0 : Int32) : entryFrame m #[(.int i0)] 1 = mkF m 0 #[.val (.int i0)] [] := by first | (simp [entryFrame, mkF, argsToLocals, Value.category]; done) | rfl
set_option maxRecDepth 65536 in
set_option maxHeartbeats 40000000 in
theorem rm1 (l : Launch) (Z : State) (a0 : Array Value) (hw : ∀ d ∈ tables_1, d.before a0 Z = true) (ws : List Jvm.Cond) (i0 : Int32) (h0 : Heap) (n0 : Nat) (Z0 : n0 ≤ h0.size) :
    MetFree l (⟨"lomwright/lom/Xml10", "allowed", "(I)Z"⟩ : MethodName) (head1 (Jvm.Cond.code (⟨"lomwright/lom/Xml10", "allowed", "(I)Z"⟩ : MethodName) prog_110_method_10_code 1 (some .boolean) :: ws) ({ frames := 0, cells := 0, slots := 0, locals := 0 } : Room)) (fun a U => a = #[(.int i0)] ∧ Z.Warmed39 U.vm ∧ U.heap = h0) (fun _ _ _ _ _ => True) (fun _ U o U' => ∃ v L, o = .returned v ∧ (own_Q n0 h0 (some (.int (f1_0 i0)))) v U'.heap L ∧ FrameEnd U o U' L ({ frames := 0, cells := 0, slots := 0, locals := 0 } : Room).cells ({ frames := 0, cells := 0, slots := 0, locals := 0 } : Room).slots) := by
  refine MetFree.of_bodySF (plainFor_of_name pn_0) hisR ?_
  intro p e s m args below meth c s₁ Bd hml0 hP hK
  obtain ⟨rfl, hZ, hh⟩ := hP
  have X0 : Stand p l e ({ frames := 0, cells := 0, slots := 0, locals := 0 } : Room) s m #[(.int i0)] below meth c s₁ [] 0 0 := Stand.of_body Bd
  have e0 : s₁.heap = h0 := by rw [← hh, Bd.state]; rfl
  have C : own_C "lomwright/lom/Xml10" prog_110_method_10_code 1 (some .boolean) "allowed" p s m meth c Z a0 := ⟨Bd.exec, hZ, hw, Bd.bytes, hml0, findClass_of_methodNamed Bd.named, Bd.returns, Bd.notSynchronized, (name_of_methodNamed Bd.named Bd.method).1⟩
  have r := b1_0 C Z0 X0 e0 (Fr.nil n0) i0 _ rfl
  rw [ef_rm1 m i0]
  exact r
theorem d2_0 : decode method_2_code 0 = .ok (.iload_n 0, 1) := by decide +kernel
theorem d2_1 : decode method_2_code 1 = .ok (.ifCond .ge 5, 3) := by decide +kernel
theorem d2_4 : decode method_2_code 4 = .ok (.iconst 1, 1) := by decide +kernel
theorem d2_5 : decode method_2_code 5 = .ok (.ireturn, 1) := by decide +kernel
theorem d2_6 : decode method_2_code 6 = .ok (.iload_n 0, 1) := by decide +kernel
theorem d2_7 : decode method_2_code 7 = .ok (.bipush 32, 2) := by decide +kernel
theorem d2_9 : decode method_2_code 9 = .ok (.if_icmp .ge 27, 3) := by decide +kernel
theorem d2_12 : decode method_2_code 12 = .ok (.iload_n 0, 1) := by decide +kernel
theorem d2_13 : decode method_2_code 13 = .ok (.bipush 9, 2) := by decide +kernel
theorem d2_15 : decode method_2_code 15 = .ok (.if_icmp .eq 19, 3) := by decide +kernel
theorem d2_18 : decode method_2_code 18 = .ok (.iload_n 0, 1) := by decide +kernel
theorem d2_19 : decode method_2_code 19 = .ok (.bipush 10, 2) := by decide +kernel
theorem d2_21 : decode method_2_code 21 = .ok (.if_icmp .eq 13, 3) := by decide +kernel
theorem d2_24 : decode method_2_code 24 = .ok (.iload_n 0, 1) := by decide +kernel
theorem d2_25 : decode method_2_code 25 = .ok (.bipush 13, 2) := by decide +kernel
theorem d2_27 : decode method_2_code 27 = .ok (.if_icmp .eq 7, 3) := by decide +kernel
theorem d2_30 : decode method_2_code 30 = .ok (.iconst 1, 1) := by decide +kernel
theorem d2_31 : decode method_2_code 31 = .ok (.goto 4, 3) := by decide +kernel
theorem d2_34 : decode method_2_code 34 = .ok (.iconst 0, 1) := by decide +kernel
theorem d2_35 : decode method_2_code 35 = .ok (.ireturn, 1) := by decide +kernel
theorem d2_36 : decode method_2_code 36 = .ok (.iload_n 0, 1) := by decide +kernel
theorem d2_37 : decode method_2_code 37 = .ok (.ldc 7, 2) := by decide +kernel
theorem d2_39 : decode method_2_code 39 = .ok (.if_icmp .lt 11, 3) := by decide +kernel
theorem d2_42 : decode method_2_code 42 = .ok (.iload_n 0, 1) := by decide +kernel
theorem d2_43 : decode method_2_code 43 = .ok (.ldc 8, 2) := by decide +kernel
theorem d2_45 : decode method_2_code 45 = .ok (.if_icmp .gt 5, 3) := by decide +kernel
theorem d2_48 : decode method_2_code 48 = .ok (.iconst 1, 1) := by decide +kernel
theorem d2_49 : decode method_2_code 49 = .ok (.ireturn, 1) := by decide +kernel
theorem d2_50 : decode method_2_code 50 = .ok (.iload_n 0, 1) := by decide +kernel
theorem d2_51 : decode method_2_code 51 = .ok (.ldc 9, 2) := by decide +kernel
theorem d2_53 : decode method_2_code 53 = .ok (.if_icmp .eq 9, 3) := by decide +kernel
theorem d2_56 : decode method_2_code 56 = .ok (.iload_n 0, 1) := by decide +kernel
theorem d2_57 : decode method_2_code 57 = .ok (.ldc 10, 2) := by decide +kernel
theorem d2_59 : decode method_2_code 59 = .ok (.if_icmp .ne 5, 3) := by decide +kernel
theorem d2_62 : decode method_2_code 62 = .ok (.iconst 1, 1) := by decide +kernel
theorem d2_63 : decode method_2_code 63 = .ok (.ireturn, 1) := by decide +kernel
theorem d2_64 : decode method_2_code 64 = .ok (.iload_n 0, 1) := by decide +kernel
theorem d2_65 : decode method_2_code 65 = .ok (.ldc 11, 2) := by decide +kernel
theorem d2_67 : decode method_2_code 67 = .ok (.if_icmp .le 7, 3) := by decide +kernel
theorem d2_70 : decode method_2_code 70 = .ok (.iconst 1, 1) := by decide +kernel
theorem d2_71 : decode method_2_code 71 = .ok (.goto 4, 3) := by decide +kernel
theorem d2_74 : decode method_2_code 74 = .ok (.iconst 0, 1) := by decide +kernel
theorem d2_75 : decode method_2_code 75 = .ok (.ireturn, 1) := by decide +kernel
def f2_50 (i0 : Int32) : Int32 := (if i0 = (65534 : Int32) then (1 : Int32) else (if i0 = (65535 : Int32) then (1 : Int32) else (if (1114111 : Int32) < i0 then (1 : Int32) else (0 : Int32))))
set_option maxRecDepth 65536 in
set_option maxHeartbeats 40000000 in
theorem b2_50 {p : Program} {l : Launch} {e : Env} {s : State} {m : MethodId} {args : Array Value} {below : List Frame} {meth : Method} {c : Code} {Z : State} {a0 : Array Value} {h0 : Heap} {n0 : Nat} (C : own_C "lomwright/lom/Xml10AllowedPinLaw" method_2_code 1 (some .boolean) "excluded" p s m meth c Z a0) (Z0 : n0 ≤ h0.size) {T0 : State} {locs : List Loc} (X0 : Stand p l e ({ frames := 0, cells := 0, slots := 0, locals := 0 } : Room) s m args below meth c T0 locs 0 0) (e0 : T0.heap = h0) (N0 : Fr n0 locs) (i0 : Int32) (W : Int32) (hv : W = f2_50 i0) :
    own_Ends p e below s ({ frames := 0, cells := 0, slots := 0, locals := 0 } : Room).cells ({ frames := 0, cells := 0, slots := 0, locals := 0 } : Room).slots (own_Q n0 h0 (some (.int W))) T0 (mkF m 50 #[.val (.int i0)] []) := by
  obtain ⟨hx, hZ, hw, hby, hml, hown, hret, hlk, hnm⟩ := C
  have C : own_C "lomwright/lom/Xml10AllowedPinLaw" method_2_code 1 (some .boolean) "excluded" p s m meth c Z a0 := ⟨hx, hZ, hw, hby, hml, hown, hret, hlk, hnm⟩
  unfold f2_50 at hv
  refine own_step (fun _ => XS.iloadN X0.here hx rfl (hb hby d2_50) rfl) ?_
  show own_Ends p e below s _ _ _ T0 (mkF m 51 #[.val (.int i0)] [(.int i0)])
  refine own_step (fun _ => X0.ldcInt hx hown (mvT hZ (hw _ (List.mem_of_getElem? (i := 6) rfl))) (g := (mkF m 51 #[.val (.int i0)] [(.int i0)])) rfl (hb hby d2_51) _) ?_
  show own_Ends p e below s _ _ _ T0 (mkF m 53 #[.val (.int i0)] [(.int (65534 : Int32)), (.int i0)])
  by_cases hc53 : i0 = (65534 : Int32)
  · have hv_t := hv.trans (if_pos hc53)
    refine own_step (fun _ => XS.icmpYes X0.here hx rfl (pc0 := 53) (pc' := 62) rfl (hb hby d2_53) rfl (teq hc53).1 (by decide) (by decide)) ?_
    show own_Ends p e below s _ _ _ T0 (mkF m 62 #[.val (.int i0)] [])
    refine own_step (fun _ => XS.iconst X0.here hx rfl (hb hby d2_62)) ?_
    show own_Ends p e below s _ _ _ T0 (mkF m 63 #[.val (.int i0)] [(.int (1 : Int32))])
    exact own_retN X0 (t := .boolean) hx hret hlk (hb hby d2_63) (by decide) (by decide) (by simp) ⟨congrArg (fun z => some (Value.int z)) hv_t.symm, N0, e0⟩
  · have hv_f := hv.trans (if_neg hc53)
    refine own_step (fun _ => XS.icmpNo X0.here hx rfl (hb hby d2_53) rfl (feq hc53).1) ?_
    show own_Ends p e below s _ _ _ T0 (mkF m 56 #[.val (.int i0)] [])
    refine own_step (fun _ => XS.iloadN X0.here hx rfl (hb hby d2_56) rfl) ?_
    show own_Ends p e below s _ _ _ T0 (mkF m 57 #[.val (.int i0)] [(.int i0)])
    refine own_step (fun _ => X0.ldcInt hx hown (mvT hZ (hw _ (List.mem_of_getElem? (i := 7) rfl))) (g := (mkF m 57 #[.val (.int i0)] [(.int i0)])) rfl (hb hby d2_57) _) ?_
    show own_Ends p e below s _ _ _ T0 (mkF m 59 #[.val (.int i0)] [(.int (65535 : Int32)), (.int i0)])
    by_cases hc59 : i0 = (65535 : Int32)
    · have hv_f_t := hv_f.trans (if_pos hc59)
      refine own_step (fun _ => XS.icmpNo X0.here hx rfl (hb hby d2_59) rfl (teq hc59).2) ?_
      show own_Ends p e below s _ _ _ T0 (mkF m 62 #[.val (.int i0)] [])
      refine own_step (fun _ => XS.iconst X0.here hx rfl (hb hby d2_62)) ?_
      show own_Ends p e below s _ _ _ T0 (mkF m 63 #[.val (.int i0)] [(.int (1 : Int32))])
      exact own_retN X0 (t := .boolean) hx hret hlk (hb hby d2_63) (by decide) (by decide) (by simp) ⟨congrArg (fun z => some (Value.int z)) hv_f_t.symm, N0, e0⟩
    · have hv_f_f := hv_f.trans (if_neg hc59)
      refine own_step (fun _ => XS.icmpYes X0.here hx rfl (pc0 := 59) (pc' := 64) rfl (hb hby d2_59) rfl (feq hc59).2 (by decide) (by decide)) ?_
      show own_Ends p e below s _ _ _ T0 (mkF m 64 #[.val (.int i0)] [])
      refine own_step (fun _ => XS.iloadN X0.here hx rfl (hb hby d2_64) rfl) ?_
      show own_Ends p e below s _ _ _ T0 (mkF m 65 #[.val (.int i0)] [(.int i0)])
      refine own_step (fun _ => X0.ldcInt hx hown (mvT hZ (hw _ (List.mem_of_getElem? (i := 9) rfl))) (g := (mkF m 65 #[.val (.int i0)] [(.int i0)])) rfl (hb hby d2_65) _) ?_
      show own_Ends p e below s _ _ _ T0 (mkF m 67 #[.val (.int i0)] [(.int (1114111 : Int32)), (.int i0)])
      by_cases hc67 : (1114111 : Int32) < i0
      · have hv_f_f_t := hv_f_f.trans (if_pos hc67)
        refine own_step (fun _ => XS.icmpNo X0.here hx rfl (hb hby d2_67) rfl (tlt hc67).2.2.2) ?_
        show own_Ends p e below s _ _ _ T0 (mkF m 70 #[.val (.int i0)] [])
        refine own_step (fun _ => XS.iconst X0.here hx rfl (hb hby d2_70)) ?_
        show own_Ends p e below s _ _ _ T0 (mkF m 71 #[.val (.int i0)] [(.int (1 : Int32))])
        refine own_step (fun _ => XS.goto X0.here hx rfl (pc0 := 71) (pc' := 75) rfl (hb hby d2_71) (by decide) (by decide)) ?_
        show own_Ends p e below s _ _ _ T0 (mkF m 75 #[.val (.int i0)] [(.int (1 : Int32))])
        exact own_retN X0 (t := .boolean) hx hret hlk (hb hby d2_75) (by decide) (by decide) (by simp) ⟨congrArg (fun z => some (Value.int z)) hv_f_f_t.symm, N0, e0⟩
      · have hv_f_f_f := hv_f_f.trans (if_neg hc67)
        refine own_step (fun _ => XS.icmpYes X0.here hx rfl (pc0 := 67) (pc' := 74) rfl (hb hby d2_67) rfl (flt hc67).2.2.2 (by decide) (by decide)) ?_
        show own_Ends p e below s _ _ _ T0 (mkF m 74 #[.val (.int i0)] [])
        refine own_step (fun _ => XS.iconst X0.here hx rfl (hb hby d2_74)) ?_
        show own_Ends p e below s _ _ _ T0 (mkF m 75 #[.val (.int i0)] [(.int (0 : Int32))])
        exact own_retN X0 (t := .boolean) hx hret hlk (hb hby d2_75) (by decide) (by decide) (by simp) ⟨congrArg (fun z => some (Value.int z)) hv_f_f_f.symm, N0, e0⟩
def f2_0 (i0 : Int32) : Int32 := (if i0 < (0 : Int32) then (1 : Int32) else (if i0 < (32 : Int32) then (if i0 = (9 : Int32) then (0 : Int32) else (if i0 = (10 : Int32) then (0 : Int32) else (if i0 = (13 : Int32) then (0 : Int32) else (1 : Int32)))) else (if i0 < (55296 : Int32) then (f2_50 i0) else (if (57343 : Int32) < i0 then (f2_50 i0) else (1 : Int32)))))
set_option maxRecDepth 65536 in
set_option maxHeartbeats 40000000 in
theorem b2_0 {p : Program} {l : Launch} {e : Env} {s : State} {m : MethodId} {args : Array Value} {below : List Frame} {meth : Method} {c : Code} {Z : State} {a0 : Array Value} {h0 : Heap} {n0 : Nat} (C : own_C "lomwright/lom/Xml10AllowedPinLaw" method_2_code 1 (some .boolean) "excluded" p s m meth c Z a0) (Z0 : n0 ≤ h0.size) {T0 : State} {locs : List Loc} (X0 : Stand p l e ({ frames := 0, cells := 0, slots := 0, locals := 0 } : Room) s m args below meth c T0 locs 0 0) (e0 : T0.heap = h0) (N0 : Fr n0 locs) (i0 : Int32) (W : Int32) (hv : W = f2_0 i0) :
    own_Ends p e below s ({ frames := 0, cells := 0, slots := 0, locals := 0 } : Room).cells ({ frames := 0, cells := 0, slots := 0, locals := 0 } : Room).slots (own_Q n0 h0 (some (.int W))) T0 (mkF m 0 #[.val (.int i0)] []) := by
  obtain ⟨hx, hZ, hw, hby, hml, hown, hret, hlk, hnm⟩ := C
  have C : own_C "lomwright/lom/Xml10AllowedPinLaw" method_2_code 1 (some .boolean) "excluded" p s m meth c Z a0 := ⟨hx, hZ, hw, hby, hml, hown, hret, hlk, hnm⟩
  unfold f2_0 at hv
  refine own_step (fun _ => XS.iloadN X0.here hx rfl (hb hby d2_0) rfl) ?_
  show own_Ends p e below s _ _ _ T0 (mkF m 1 #[.val (.int i0)] [(.int i0)])
  by_cases hc1 : i0 < (0 : Int32)
  · have hv_t := hv.trans (if_pos hc1)
    refine own_step (fun _ => XS.ifNo X0.here hx rfl (hb hby d2_1) rfl ((if0 _ _).trans (tlt hc1).2.1)) ?_
    show own_Ends p e below s _ _ _ T0 (mkF m 4 #[.val (.int i0)] [])
    refine own_step (fun _ => XS.iconst X0.here hx rfl (hb hby d2_4)) ?_
    show own_Ends p e below s _ _ _ T0 (mkF m 5 #[.val (.int i0)] [(.int (1 : Int32))])
    exact own_retN X0 (t := .boolean) hx hret hlk (hb hby d2_5) (by decide) (by decide) (by simp) ⟨congrArg (fun z => some (Value.int z)) hv_t.symm, N0, e0⟩
  · have hv_f := hv.trans (if_neg hc1)
    refine own_step (fun _ => XS.ifYes X0.here hx rfl (pc0 := 1) (pc' := 6) rfl (hb hby d2_1) rfl ((if0 _ _).trans (flt hc1).2.1) (by decide) (by decide)) ?_
    show own_Ends p e below s _ _ _ T0 (mkF m 6 #[.val (.int i0)] [])
    refine own_step (fun _ => XS.iloadN X0.here hx rfl (hb hby d2_6) rfl) ?_
    show own_Ends p e below s _ _ _ T0 (mkF m 7 #[.val (.int i0)] [(.int i0)])
    refine own_step (fun _ => XS.bipush X0.here hx rfl (hb hby d2_7)) ?_
    show own_Ends p e below s _ _ _ T0 (mkF m 9 #[.val (.int i0)] [(.int (32 : Int32)), (.int i0)])
    by_cases hc9 : i0 < (32 : Int32)
    · have hv_f_t := hv_f.trans (if_pos hc9)
      refine own_step (fun _ => XS.icmpNo X0.here hx rfl (hb hby d2_9) rfl (tlt hc9).2.1) ?_
      show own_Ends p e below s _ _ _ T0 (mkF m 12 #[.val (.int i0)] [])
      refine own_step (fun _ => XS.iloadN X0.here hx rfl (hb hby d2_12) rfl) ?_
      show own_Ends p e below s _ _ _ T0 (mkF m 13 #[.val (.int i0)] [(.int i0)])
      refine own_step (fun _ => XS.bipush X0.here hx rfl (hb hby d2_13)) ?_
      show own_Ends p e below s _ _ _ T0 (mkF m 15 #[.val (.int i0)] [(.int (9 : Int32)), (.int i0)])
      by_cases hc15 : i0 = (9 : Int32)
      · have hv_f_t_t := hv_f_t.trans (if_pos hc15)
        refine own_step (fun _ => XS.icmpYes X0.here hx rfl (pc0 := 15) (pc' := 34) rfl (hb hby d2_15) rfl (teq hc15).1 (by decide) (by decide)) ?_
        show own_Ends p e below s _ _ _ T0 (mkF m 34 #[.val (.int i0)] [])
        refine own_step (fun _ => XS.iconst X0.here hx rfl (hb hby d2_34)) ?_
        show own_Ends p e below s _ _ _ T0 (mkF m 35 #[.val (.int i0)] [(.int (0 : Int32))])
        exact own_retN X0 (t := .boolean) hx hret hlk (hb hby d2_35) (by decide) (by decide) (by simp) ⟨congrArg (fun z => some (Value.int z)) hv_f_t_t.symm, N0, e0⟩
      · have hv_f_t_f := hv_f_t.trans (if_neg hc15)
        refine own_step (fun _ => XS.icmpNo X0.here hx rfl (hb hby d2_15) rfl (feq hc15).1) ?_
        show own_Ends p e below s _ _ _ T0 (mkF m 18 #[.val (.int i0)] [])
        refine own_step (fun _ => XS.iloadN X0.here hx rfl (hb hby d2_18) rfl) ?_
        show own_Ends p e below s _ _ _ T0 (mkF m 19 #[.val (.int i0)] [(.int i0)])
        refine own_step (fun _ => XS.bipush X0.here hx rfl (hb hby d2_19)) ?_
        show own_Ends p e below s _ _ _ T0 (mkF m 21 #[.val (.int i0)] [(.int (10 : Int32)), (.int i0)])
        by_cases hc21 : i0 = (10 : Int32)
        · have hv_f_t_f_t := hv_f_t_f.trans (if_pos hc21)
          refine own_step (fun _ => XS.icmpYes X0.here hx rfl (pc0 := 21) (pc' := 34) rfl (hb hby d2_21) rfl (teq hc21).1 (by decide) (by decide)) ?_
          show own_Ends p e below s _ _ _ T0 (mkF m 34 #[.val (.int i0)] [])
          refine own_step (fun _ => XS.iconst X0.here hx rfl (hb hby d2_34)) ?_
          show own_Ends p e below s _ _ _ T0 (mkF m 35 #[.val (.int i0)] [(.int (0 : Int32))])
          exact own_retN X0 (t := .boolean) hx hret hlk (hb hby d2_35) (by decide) (by decide) (by simp) ⟨congrArg (fun z => some (Value.int z)) hv_f_t_f_t.symm, N0, e0⟩
        · have hv_f_t_f_f := hv_f_t_f.trans (if_neg hc21)
          refine own_step (fun _ => XS.icmpNo X0.here hx rfl (hb hby d2_21) rfl (feq hc21).1) ?_
          show own_Ends p e below s _ _ _ T0 (mkF m 24 #[.val (.int i0)] [])
          refine own_step (fun _ => XS.iloadN X0.here hx rfl (hb hby d2_24) rfl) ?_
          show own_Ends p e below s _ _ _ T0 (mkF m 25 #[.val (.int i0)] [(.int i0)])
          refine own_step (fun _ => XS.bipush X0.here hx rfl (hb hby d2_25)) ?_
          show own_Ends p e below s _ _ _ T0 (mkF m 27 #[.val (.int i0)] [(.int (13 : Int32)), (.int i0)])
          by_cases hc27 : i0 = (13 : Int32)
          · have hv_f_t_f_f_t := hv_f_t_f_f.trans (if_pos hc27)
            refine own_step (fun _ => XS.icmpYes X0.here hx rfl (pc0 := 27) (pc' := 34) rfl (hb hby d2_27) rfl (teq hc27).1 (by decide) (by decide)) ?_
            show own_Ends p e below s _ _ _ T0 (mkF m 34 #[.val (.int i0)] [])
            refine own_step (fun _ => XS.iconst X0.here hx rfl (hb hby d2_34)) ?_
            show own_Ends p e below s _ _ _ T0 (mkF m 35 #[.val (.int i0)] [(.int (0 : Int32))])
            exact own_retN X0 (t := .boolean) hx hret hlk (hb hby d2_35) (by decide) (by decide) (by simp) ⟨congrArg (fun z => some (Value.int z)) hv_f_t_f_f_t.symm, N0, e0⟩
          · have hv_f_t_f_f_f := hv_f_t_f_f.trans (if_neg hc27)
            refine own_step (fun _ => XS.icmpNo X0.here hx rfl (hb hby d2_27) rfl (feq hc27).1) ?_
            show own_Ends p e below s _ _ _ T0 (mkF m 30 #[.val (.int i0)] [])
            refine own_step (fun _ => XS.iconst X0.here hx rfl (hb hby d2_30)) ?_
            show own_Ends p e below s _ _ _ T0 (mkF m 31 #[.val (.int i0)] [(.int (1 : Int32))])
            refine own_step (fun _ => XS.goto X0.here hx rfl (pc0 := 31) (pc' := 35) rfl (hb hby d2_31) (by decide) (by decide)) ?_
            show own_Ends p e below s _ _ _ T0 (mkF m 35 #[.val (.int i0)] [(.int (1 : Int32))])
            exact own_retN X0 (t := .boolean) hx hret hlk (hb hby d2_35) (by decide) (by decide) (by simp) ⟨congrArg (fun z => some (Value.int z)) hv_f_t_f_f_f.symm, N0, e0⟩
    · have hv_f_f := hv_f.trans (if_neg hc9)
      refine own_step (fun _ => XS.icmpYes X0.here hx rfl (pc0 := 9) (pc' := 36) rfl (hb hby d2_9) rfl (flt hc9).2.1 (by decide) (by decide)) ?_
      show own_Ends p e below s _ _ _ T0 (mkF m 36 #[.val (.int i0)] [])
      refine own_step (fun _ => XS.iloadN X0.here hx rfl (hb hby d2_36) rfl) ?_
      show own_Ends p e below s _ _ _ T0 (mkF m 37 #[.val (.int i0)] [(.int i0)])
      refine own_step (fun _ => X0.ldcInt hx hown (mvT hZ (hw _ (List.mem_of_getElem? (i := 2) rfl))) (g := (mkF m 37 #[.val (.int i0)] [(.int i0)])) rfl (hb hby d2_37) _) ?_
      show own_Ends p e below s _ _ _ T0 (mkF m 39 #[.val (.int i0)] [(.int (55296 : Int32)), (.int i0)])
      by_cases hc39 : i0 < (55296 : Int32)
      · have hv_f_f_t := hv_f_f.trans (if_pos hc39)
        refine own_step (fun _ => XS.icmpYes X0.here hx rfl (pc0 := 39) (pc' := 50) rfl (hb hby d2_39) rfl (tlt hc39).1 (by decide) (by decide)) ?_
        show own_Ends p e below s _ _ _ T0 (mkF m 50 #[.val (.int i0)] [])
        exact b2_50 C Z0 X0 e0 N0 i0 _ hv_f_f_t
      · have hv_f_f_f := hv_f_f.trans (if_neg hc39)
        refine own_step (fun _ => XS.icmpNo X0.here hx rfl (hb hby d2_39) rfl (flt hc39).1) ?_
        show own_Ends p e below s _ _ _ T0 (mkF m 42 #[.val (.int i0)] [])
        refine own_step (fun _ => XS.iloadN X0.here hx rfl (hb hby d2_42) rfl) ?_
        show own_Ends p e below s _ _ _ T0 (mkF m 43 #[.val (.int i0)] [(.int i0)])
        refine own_step (fun _ => X0.ldcInt hx hown (mvT hZ (hw _ (List.mem_of_getElem? (i := 3) rfl))) (g := (mkF m 43 #[.val (.int i0)] [(.int i0)])) rfl (hb hby d2_43) _) ?_
        show own_Ends p e below s _ _ _ T0 (mkF m 45 #[.val (.int i0)] [(.int (57343 : Int32)), (.int i0)])
        by_cases hc45 : (57343 : Int32) < i0
        · have hv_f_f_f_t := hv_f_f_f.trans (if_pos hc45)
          refine own_step (fun _ => XS.icmpYes X0.here hx rfl (pc0 := 45) (pc' := 50) rfl (hb hby d2_45) rfl (tlt hc45).2.2.1 (by decide) (by decide)) ?_
          show own_Ends p e below s _ _ _ T0 (mkF m 50 #[.val (.int i0)] [])
          exact b2_50 C Z0 X0 e0 N0 i0 _ hv_f_f_f_t
        · have hv_f_f_f_f := hv_f_f_f.trans (if_neg hc45)
          refine own_step (fun _ => XS.icmpNo X0.here hx rfl (hb hby d2_45) rfl (flt hc45).2.2.1) ?_
          show own_Ends p e below s _ _ _ T0 (mkF m 48 #[.val (.int i0)] [])
          refine own_step (fun _ => XS.iconst X0.here hx rfl (hb hby d2_48)) ?_
          show own_Ends p e below s _ _ _ T0 (mkF m 49 #[.val (.int i0)] [(.int (1 : Int32))])
          exact own_retN X0 (t := .boolean) hx hret hlk (hb hby d2_49) (by decide) (by decide) (by simp) ⟨congrArg (fun z => some (Value.int z)) hv_f_f_f_f.symm, N0, e0⟩
theorem ef_rm2 (m : MethodId) (i0 : Int32) : entryFrame m #[(.int i0)] 1 = mkF m 0 #[.val (.int i0)] [] := by first | (simp [entryFrame, mkF, argsToLocals, Value.category]; done) | rfl
set_option maxRecDepth 65536 in
set_option maxHeartbeats 40000000 in
theorem rm2 (l : Launch) (Z : State) (a0 : Array Value) (hw : ∀ d ∈ tables_1, d.before a0 Z = true) (ws : List Jvm.Cond) (i0 : Int32) (h0 : Heap) (n0 : Nat) (Z0 : n0 ≤ h0.size) :
    MetFree l (⟨"lomwright/lom/Xml10AllowedPinLaw", "excluded", "(I)Z"⟩ : MethodName) (head1 (Jvm.Cond.code (⟨"lomwright/lom/Xml10AllowedPinLaw", "excluded", "(I)Z"⟩ : MethodName) method_2_code 1 (some .boolean) :: ws) ({ frames := 0, cells := 0, slots := 0, locals := 0 } : Room)) (fun a U => a = #[(.int i0)] ∧ Z.Warmed39 U.vm ∧ U.heap = h0) (fun _ _ _ _ _ => True) (fun _ U o U' => ∃ v L, o = .returned v ∧ (own_Q n0 h0 (some (.int (f2_0 i0)))) v U'.heap L ∧ FrameEnd U o U' L ({ frames := 0, cells := 0, slots := 0, locals := 0 } : Room).cells ({ frames := 0, cells := 0, slots := 0, locals := 0 } : Room).slots) := by
  refine MetFree.of_bodySF (plainFor_of_name pn_1) hisR ?_
  intro p e s m args below meth c s₁ Bd hml0 hP hK
  obtain ⟨rfl, hZ, hh⟩ := hP
  have X0 : Stand p l e ({ frames := 0, cells := 0, slots := 0, locals := 0 } : Room) s m #[(.int i0)] below meth c s₁ [] 0 0 := Stand.of_body Bd
  have e0 : s₁.heap = h0 := by rw [← hh, Bd.state]; rfl
  have C : own_C "lomwright/lom/Xml10AllowedPinLaw" method_2_code 1 (some .boolean) "excluded" p s m meth c Z a0 := ⟨Bd.exec, hZ, hw, Bd.bytes, hml0, findClass_of_methodNamed Bd.named, Bd.returns, Bd.notSynchronized, (name_of_methodNamed Bd.named Bd.method).1⟩
  have r := b2_0 C Z0 X0 e0 (Fr.nil n0) i0 _ rfl
  rw [ef_rm2 m i0]
  exact r
def f0_160 (i0 : Int32) (i1 : Int32) (i2 : Int32) (il4_142 : Int32) (is0_160 : Int32) : Int32 := (if (f1_0 il4_142) = is0_160 then (1 : Int32) else (0 : Int32))
set_option maxRecDepth 65536 in
set_option maxHeartbeats 40000000 in
theorem b0_160 {p : Program} {l : Launch} {e : Env} {s : State} {m : MethodId} {args : Array Value} {below : List Frame} {meth : Method} {c : Code} {Z : State} {a0 : Array Value} {h0 : Heap} {n0 : Nat} (C : own_C "lomwright/lom/Xml10AllowedPinLaw" code maxLocals ret x.name p s m meth c Z a0) (Z0 : n0 ≤ h0.size) {T0 : State} {locs : List Loc} (X0 : Stand p l e room_1 s m args below meth c T0 locs 1 17) (e0 : T0.heap = h0) (N0 : Fr n0 locs) (i0 : Int32) (i1 : Int32) (i2 : Int32) (al3_142 : Addr) (il4_142 : Int32) (sl5_142 : Slot) (sl6_142 : Slot) (is0_160 : Int32) (W : Int32) (hv : W = f0_160 i0 i1 i2 il4_142 is0_160) :
    own_Ends p e below s room_1.cells room_1.slots (own_QL n0 (some (.int W))) T0 (mkF m 160 #[.val (.int i0), .val (.int i1), .val (.int i2), .val (.ref al3_142), .val (.int il4_142), sl5_142, sl6_142] [(.int is0_160), (.int (f1_0 il4_142))]) := by
  obtain ⟨hx, hZ, hw, hby, hml, hown, hret, hlk, hnm⟩ := C
  have C : own_C "lomwright/lom/Xml10AllowedPinLaw" code maxLocals ret x.name p s m meth c Z a0 := ⟨hx, hZ, hw, hby, hml, hown, hret, hlk, hnm⟩
  unfold f0_160 at hv
  by_cases hc160 : (f1_0 il4_142) = is0_160
  · have hv_t := hv.trans (if_pos hc160)
    refine own_step (fun _ => XS.icmpNo X0.here hx rfl (hb hby at_160) rfl (teq hc160).2) ?_
    show own_Ends p e below s _ _ _ T0 (mkF m 163 #[.val (.int i0), .val (.int i1), .val (.int i2), .val (.ref al3_142), .val (.int il4_142), sl5_142, sl6_142] [])
    refine own_step (fun _ => XS.iconst X0.here hx rfl (hb hby at_163)) ?_
    show own_Ends p e below s _ _ _ T0 (mkF m 164 #[.val (.int i0), .val (.int i1), .val (.int i2), .val (.ref al3_142), .val (.int il4_142), sl5_142, sl6_142] [(.int (1 : Int32))])
    refine own_step (fun _ => XS.goto X0.here hx rfl (pc0 := 164) (pc' := 168) rfl (hb hby at_164) (by decide) (by decide)) ?_
    show own_Ends p e below s _ _ _ T0 (mkF m 168 #[.val (.int i0), .val (.int i1), .val (.int i2), .val (.ref al3_142), .val (.int il4_142), sl5_142, sl6_142] [(.int (1 : Int32))])
    exact own_retN X0 (t := .boolean) hx hret hlk (hb hby at_168) (by decide) (by decide) (by simp) ⟨congrArg (fun z => some (Value.int z)) hv_t.symm, N0, trivial⟩
  · have hv_f := hv.trans (if_neg hc160)
    refine own_step (fun _ => XS.icmpYes X0.here hx rfl (pc0 := 160) (pc' := 167) rfl (hb hby at_160) rfl (feq hc160).2 (by decide) (by decide)) ?_
    show own_Ends p e below s _ _ _ T0 (mkF m 167 #[.val (.int i0), .val (.int i1), .val (.int i2), .val (.ref al3_142), .val (.int il4_142), sl5_142, sl6_142] [])
    refine own_step (fun _ => XS.iconst X0.here hx rfl (hb hby at_167)) ?_
    show own_Ends p e below s _ _ _ T0 (mkF m 168 #[.val (.int i0), .val (.int i1), .val (.int i2), .val (.ref al3_142), .val (.int il4_142), sl5_142, sl6_142] [(.int (0 : Int32))])
    exact own_retN X0 (t := .boolean) hx hret hlk (hb hby at_168) (by decide) (by decide) (by simp) ⟨congrArg (fun z => some (Value.int z)) hv_f.symm, N0, trivial⟩
def f0_142 (i0 : Int32) (i1 : Int32) (i2 : Int32) (il4_142 : Int32) : Int32 := (if (f2_0 il4_142) = (0 : Int32) then (f0_160 i0 i1 i2 il4_142 (1 : Int32)) else (f0_160 i0 i1 i2 il4_142 (0 : Int32)))
set_option maxRecDepth 65536 in
set_option maxHeartbeats 40000000 in
theorem b0_142 {p : Program} {l : Launch} {e : Env} {s : State} {m : MethodId} {args : Array Value} {below : List Frame} {meth : Method} {c : Code} {Z : State} {a0 : Array Value} {h0 : Heap} {n0 : Nat} (C : own_C "lomwright/lom/Xml10AllowedPinLaw" code maxLocals ret x.name p s m meth c Z a0) (Z0 : n0 ≤ h0.size) {T0 : State} {locs : List Loc} (X0 : Stand p l e room_1 s m args below meth c T0 locs 1 17) (e0 : T0.heap = h0) (N0 : Fr n0 locs) (i0 : Int32) (i1 : Int32) (i2 : Int32) (al3_142 : Addr) (il4_142 : Int32) (sl5_142 : Slot) (sl6_142 : Slot) (W : Int32) (hv : W = f0_142 i0 i1 i2 il4_142) :
    own_Ends p e below s room_1.cells room_1.slots (own_QL n0 (some (.int W))) T0 (mkF m 142 #[.val (.int i0), .val (.int i1), .val (.int i2), .val (.ref al3_142), .val (.int il4_142), sl5_142, sl6_142] []) := by
  obtain ⟨hx, hZ, hw, hby, hml, hown, hret, hlk, hnm⟩ := C
  have C : own_C "lomwright/lom/Xml10AllowedPinLaw" code maxLocals ret x.name p s m meth c Z a0 := ⟨hx, hZ, hw, hby, hml, hown, hret, hlk, hnm⟩
  unfold f0_142 at hv
  refine own_step (fun _ => XS.iload X0.here hx rfl (hb hby at_142) rfl) ?_
  show own_Ends p e below s _ _ _ T0 (mkF m 144 #[.val (.int i0), .val (.int i1), .val (.int i2), .val (.ref al3_142), .val (.int il4_142), sl5_142, sl6_142] [(.int il4_142)])
  obtain ⟨_, _, ⟨T24, L24, k24, n24⟩, -, X24, ⟨Lc24, hQ24, l24, y24, z24⟩, st24⟩ := Jvm.LawKit.callS X0 hx (y := (⟨"lomwright/lom/Xml10", "allowed", "(I)Z"⟩ : MethodName)) hown (mvT hZ (hw _ (List.mem_of_getElem? (i := 13) rfl))) (mvT hZ (hw _ (List.mem_of_getElem? (i := 14) rfl))) (mvT hZ (hw _ (List.mem_of_getElem? (i := 15) rfl))) (mvT hZ (hw _ (List.mem_of_getElem? (i := 16) rfl))) (by decide) (backOf (W := 0) (rm1 l Z a0 hw [] il4_142 h0 n0 Z0) hZ (hw _ (List.mem_of_getElem? (i := 16) rfl)) (hw _ (List.mem_of_getElem? (i := 15) rfl)) (by decide) (by decide)) (g := (mkF m 144 #[.val (.int i0), .val (.int i1), .val (.int i2), .val (.ref al3_142), .val (.int il4_142), sl5_142, sl6_142] [(.int il4_142)])) rfl (by rw [hml]; rfl) (argsL := [(.int il4_142)]) (rest := []) (lenOf pd_0 rfl) rfl (by show 2 * 0 + _ ≤ _; exact Nat.le_of_eq rfl) (hb hby at_144) (fun _ _ => ⟨rfl, e0, (by decide : 1 + 0 ≤ _), (by decide : 17 + 0 ≤ _)⟩)
  dsimp only [Pt.U, Pt.locs, Pt.cells, Pt.slots] at X24 l24 y24 z24 st24 hQ24
  subst l24 y24 z24
  obtain ⟨rfl, N24q, hh24⟩ := hQ24
  have N24 := Fr.app N0 N24q
  refine own_step st24 ?_
  show own_Ends p e below s _ _ _ T24 (mkF m 147 #[.val (.int i0), .val (.int i1), .val (.int i2), .val (.ref al3_142), .val (.int il4_142), sl5_142, sl6_142] [(.int (f1_0 il4_142))])
  refine own_step (fun _ => XS.iload X24.here hx rfl (hb hby at_147) rfl) ?_
  show own_Ends p e below s _ _ _ T24 (mkF m 149 #[.val (.int i0), .val (.int i1), .val (.int i2), .val (.ref al3_142), .val (.int il4_142), sl5_142, sl6_142] [(.int il4_142), (.int (f1_0 il4_142))])
  obtain ⟨_, _, ⟨T25, L25, k25, n25⟩, -, X25, ⟨Lc25, hQ25, l25, y25, z25⟩, st25⟩ := Jvm.LawKit.callS X24 hx (y := (⟨"lomwright/lom/Xml10AllowedPinLaw", "excluded", "(I)Z"⟩ : MethodName)) hown (mvT hZ (hw _ (List.mem_of_getElem? (i := 17) rfl))) (mvT hZ (hw _ (List.mem_of_getElem? (i := 18) rfl))) (mvT hZ (hw _ (List.mem_of_getElem? (i := 19) rfl))) (mvT hZ (hw _ (List.mem_of_getElem? (i := 20) rfl))) (by decide) (backOf (W := 1) (rm2 l Z a0 hw [] il4_142 h0 n0 Z0) hZ (hw _ (List.mem_of_getElem? (i := 20) rfl)) (hw _ (List.mem_of_getElem? (i := 19) rfl)) (by decide) (by decide)) (g := (mkF m 149 #[.val (.int i0), .val (.int i1), .val (.int i2), .val (.ref al3_142), .val (.int il4_142), sl5_142, sl6_142] [(.int il4_142), (.int (f1_0 il4_142))])) rfl (by rw [hml]; rfl) (argsL := [(.int il4_142)]) (rest := [(.int (f1_0 il4_142))]) (lenOf pd_0 rfl) rfl (by show 2 * 0 + _ ≤ _; exact Nat.le_of_eq rfl) (hb hby at_149) (fun _ _ => ⟨rfl, hh24, (by decide : 1 + 0 ≤ _), (by decide : 17 + 0 ≤ _)⟩)
  dsimp only [Pt.U, Pt.locs, Pt.cells, Pt.slots] at X25 l25 y25 z25 st25 hQ25
  subst l25 y25 z25
  obtain ⟨rfl, N25q, hh25⟩ := hQ25
  have N25 := Fr.app N24 N25q
  refine own_step st25 ?_
  show own_Ends p e below s _ _ _ T25 (mkF m 152 #[.val (.int i0), .val (.int i1), .val (.int i2), .val (.ref al3_142), .val (.int il4_142), sl5_142, sl6_142] [(.int (f2_0 il4_142)), (.int (f1_0 il4_142))])
  by_cases hc152 : (f2_0 il4_142) = (0 : Int32)
  · have hv_t := hv.trans (if_pos hc152)
    refine own_step (fun _ => XS.ifNo X25.here hx rfl (hb hby at_152) rfl ((if0 _ _).trans (teq hc152).2)) ?_
    show own_Ends p e below s _ _ _ T25 (mkF m 155 #[.val (.int i0), .val (.int i1), .val (.int i2), .val (.ref al3_142), .val (.int il4_142), sl5_142, sl6_142] [(.int (f1_0 il4_142))])
    refine own_step (fun _ => XS.iconst X25.here hx rfl (hb hby at_155)) ?_
    show own_Ends p e below s _ _ _ T25 (mkF m 156 #[.val (.int i0), .val (.int i1), .val (.int i2), .val (.ref al3_142), .val (.int il4_142), sl5_142, sl6_142] [(.int (1 : Int32)), (.int (f1_0 il4_142))])
    refine own_step (fun _ => XS.goto X25.here hx rfl (pc0 := 156) (pc' := 160) rfl (hb hby at_156) (by decide) (by decide)) ?_
    show own_Ends p e below s _ _ _ T25 (mkF m 160 #[.val (.int i0), .val (.int i1), .val (.int i2), .val (.ref al3_142), .val (.int il4_142), sl5_142, sl6_142] [(.int (1 : Int32)), (.int (f1_0 il4_142))])
    exact b0_160 C Z0 X25 hh25 N25 i0 i1 i2 al3_142 il4_142 sl5_142 sl6_142 (1 : Int32) _ hv_t
  · have hv_f := hv.trans (if_neg hc152)
    refine own_step (fun _ => XS.ifYes X25.here hx rfl (pc0 := 152) (pc' := 159) rfl (hb hby at_152) rfl ((if0 _ _).trans (feq hc152).2) (by decide) (by decide)) ?_
    show own_Ends p e below s _ _ _ T25 (mkF m 159 #[.val (.int i0), .val (.int i1), .val (.int i2), .val (.ref al3_142), .val (.int il4_142), sl5_142, sl6_142] [(.int (f1_0 il4_142))])
    refine own_step (fun _ => XS.iconst X25.here hx rfl (hb hby at_159)) ?_
    show own_Ends p e below s _ _ _ T25 (mkF m 160 #[.val (.int i0), .val (.int i1), .val (.int i2), .val (.ref al3_142), .val (.int il4_142), sl5_142, sl6_142] [(.int (0 : Int32)), (.int (f1_0 il4_142))])
    exact b0_160 C Z0 X25 hh25 N25 i0 i1 i2 al3_142 il4_142 sl5_142 sl6_142 (0 : Int32) _ hv_f
def f0_0 (i0 : Int32) (i1 : Int32) (i2 : Int32) : Int32 := (if (i1 &&& (1 : Int32)) = (0 : Int32) then (f0_142 i0 i1 i2 i0) else (f0_142 i0 i1 i2 ((own_edge ((((i1.toUInt32 >>> ((1 : Int32) &&& 31).toUInt32).toInt32) &&& (2147483647 : Int32)) % (17 : Int32))) + (((i2 &&& (2147483647 : Int32)) % (3 : Int32)) - (1 : Int32)))))
set_option maxRecDepth 65536 in
set_option maxHeartbeats 40000000 in
theorem b0_0 {p : Program} {l : Launch} {e : Env} {s : State} {m : MethodId} {args : Array Value} {below : List Frame} {meth : Method} {c : Code} {Z : State} {a0 : Array Value} {h0 : Heap} {n0 : Nat} (C : own_C "lomwright/lom/Xml10AllowedPinLaw" code maxLocals ret x.name p s m meth c Z a0) (Z0 : n0 ≤ h0.size) {T0 : State} {locs : List Loc} (X0 : Stand p l e room_1 s m args below meth c T0 locs 0 0) (e0 : T0.heap = h0) (N0 : Fr n0 locs) (i0 : Int32) (i1 : Int32) (i2 : Int32) (W : Int32) (hv : W = f0_0 i0 i1 i2) :
    own_Ends p e below s room_1.cells room_1.slots (own_QL n0 (some (.int W))) T0 (mkF m 0 #[.val (.int i0), .val (.int i1), .val (.int i2), .unset, .unset, .unset, .unset] []) := by
  obtain ⟨hx, hZ, hw, hby, hml, hown, hret, hlk, hnm⟩ := C
  have C : own_C "lomwright/lom/Xml10AllowedPinLaw" code maxLocals ret x.name p s m meth c Z a0 := ⟨hx, hZ, hw, hby, hml, hown, hret, hlk, hnm⟩
  unfold f0_0 at hv
  refine own_step (fun _ => XS.bipush X0.here hx rfl (hb hby at_0)) ?_
  show own_Ends p e below s _ _ _ T0 (mkF m 2 #[.val (.int i0), .val (.int i1), .val (.int i2), .unset, .unset, .unset, .unset] [(.int (17 : Int32))])
  obtain ⟨T26, h26, k26, X26, e26, E26, A26, st26⟩ := newP X0 hx hZ (hw _ (List.mem_of_getElem? (i := 0) rfl)) e0 (g := (mkF m 2 #[.val (.int i0), .val (.int i1), .val (.int i2), .unset, .unset, .unset, .unset] [(.int (17 : Int32))])) rfl (hb hby at_2) rfl (by decide) (cap := 17) (by decide) (by decide) (by decide) (by decide)
  obtain ⟨b26, g26⟩ : ∃ z, z = h0.size := ⟨_, rfl⟩
  rw [← g26] at A26 st26
  have V26 : Arv Z h26 b26 k26 .int (17 : Int32) [(.int (0 : Int32)), (.int (0 : Int32)), (.int (0 : Int32)), (.int (0 : Int32)), (.int (0 : Int32)), (.int (0 : Int32)), (.int (0 : Int32)), (.int (0 : Int32)), (.int (0 : Int32)), (.int (0 : Int32)), (.int (0 : Int32)), (.int (0 : Int32)), (.int (0 : Int32)), (.int (0 : Int32)), (.int (0 : Int32)), (.int (0 : Int32)), (.int (0 : Int32))] (.int (0 : Int32)) := (Arv.new A26 (by decide)).pad (pad_rep [] (.int (0 : Int32)) 17)
  have g_b26 : n0 ≤ b26 := Nat.le_trans Z0 (Nat.le_of_eq g26.symm)
  have Zs26 : n0 ≤ h26.size := Nat.le_trans Z0 E26.1
  refine own_step st26 ?_
  show own_Ends p e below s _ _ _ T26 (mkF m 4 #[.val (.int i0), .val (.int i1), .val (.int i2), .unset, .unset, .unset, .unset] [(.ref b26)])
  refine own_step (fun _ => XS.dup X26.here hx rfl (hb hby at_4) rfl rfl) ?_
  show own_Ends p e below s _ _ _ T26 (mkF m 5 #[.val (.int i0), .val (.int i1), .val (.int i2), .unset, .unset, .unset, .unset] [(.ref b26), (.ref b26)])
  refine own_step (fun _ => XS.iconst X26.here hx rfl (hb hby at_5)) ?_
  show own_Ends p e below s _ _ _ T26 (mkF m 6 #[.val (.int i0), .val (.int i1), .val (.int i2), .unset, .unset, .unset, .unset] [(.int (0 : Int32)), (.ref b26), (.ref b26)])
  refine own_step (fun _ => XS.iconst X26.here hx rfl (hb hby at_6)) ?_
  show own_Ends p e below s _ _ _ T26 (mkF m 7 #[.val (.int i0), .val (.int i1), .val (.int i2), .unset, .unset, .unset, .unset] [(.int (0 : Int32)), (.int (0 : Int32)), (.ref b26), (.ref b26)])
  obtain ⟨cl27, Ar27, q27, S27, N27_, H27, G27⟩ := V26
  have hin27 : ¬ ((0 : Int32) < 0 ∨ cl27.slots.size ≤ ((0 : Int32)).toNatClampNeg) := inb_of S27 ⟨by decide, by decide⟩
  obtain ⟨T27, h27, X27, e27, W27, st27⟩ := stI X26 hx hZ e26 Ar27 (j := (0 : Int32)) hin27 (g := (mkF m 7 #[.val (.int i0), .val (.int i1), .val (.int i2), .unset, .unset, .unset, .unset] [(.int (0 : Int32)), (.int (0 : Int32)), (.ref b26), (.ref b26)])) rfl rfl (hb hby at_7)
  have V27 : Arv Z h27 b26 k26 .int (17 : Int32) [(.int (0 : Int32)), (.int (0 : Int32)), (.int (0 : Int32)), (.int (0 : Int32)), (.int (0 : Int32)), (.int (0 : Int32)), (.int (0 : Int32)), (.int (0 : Int32)), (.int (0 : Int32)), (.int (0 : Int32)), (.int (0 : Int32)), (.int (0 : Int32)), (.int (0 : Int32)), (.int (0 : Int32)), (.int (0 : Int32)), (.int (0 : Int32)), (.int (0 : Int32))] (.int (0 : Int32)) := Arv.set Ar27 q27 S27 N27_ H27 G27 rfl W27 0 rfl (Nat.le_of_ble_eq_true rfl)
  have Zs27 : n0 ≤ h27.size := (by rw [W27.size]; exact Zs26)
  have N27 := Fr.snoc X27 N0 g_b26
  refine own_step st27 ?_
  show own_Ends p e below s _ _ _ T27 (mkF m 8 #[.val (.int i0), .val (.int i1), .val (.int i2), .unset, .unset, .unset, .unset] [(.ref b26)])
  refine own_step (fun _ => XS.dup X27.here hx rfl (hb hby at_8) rfl rfl) ?_
  show own_Ends p e below s _ _ _ T27 (mkF m 9 #[.val (.int i0), .val (.int i1), .val (.int i2), .unset, .unset, .unset, .unset] [(.ref b26), (.ref b26)])
  refine own_step (fun _ => XS.iconst X27.here hx rfl (hb hby at_9)) ?_
  show own_Ends p e below s _ _ _ T27 (mkF m 10 #[.val (.int i0), .val (.int i1), .val (.int i2), .unset, .unset, .unset, .unset] [(.int (1 : Int32)), (.ref b26), (.ref b26)])
  refine own_step (fun _ => XS.bipush X27.here hx rfl (hb hby at_10)) ?_
  show own_Ends p e below s _ _ _ T27 (mkF m 12 #[.val (.int i0), .val (.int i1), .val (.int i2), .unset, .unset, .unset, .unset] [(.int (9 : Int32)), (.int (1 : Int32)), (.ref b26), (.ref b26)])
  obtain ⟨cl28, Ar28, q28, S28, N28_, H28, G28⟩ := V27
  have hin28 : ¬ ((1 : Int32) < 0 ∨ cl28.slots.size ≤ ((1 : Int32)).toNatClampNeg) := inb_of S28 ⟨by decide, by decide⟩
  obtain ⟨T28, h28, X28, e28, W28, st28⟩ := stI X27 hx hZ e27 Ar28 (j := (1 : Int32)) hin28 (g := (mkF m 12 #[.val (.int i0), .val (.int i1), .val (.int i2), .unset, .unset, .unset, .unset] [(.int (9 : Int32)), (.int (1 : Int32)), (.ref b26), (.ref b26)])) rfl rfl (hb hby at_12)
  have V28 : Arv Z h28 b26 k26 .int (17 : Int32) [(.int (0 : Int32)), (.int (9 : Int32)), (.int (0 : Int32)), (.int (0 : Int32)), (.int (0 : Int32)), (.int (0 : Int32)), (.int (0 : Int32)), (.int (0 : Int32)), (.int (0 : Int32)), (.int (0 : Int32)), (.int (0 : Int32)), (.int (0 : Int32)), (.int (0 : Int32)), (.int (0 : Int32)), (.int (0 : Int32)), (.int (0 : Int32)), (.int (0 : Int32))] (.int (0 : Int32)) := Arv.set Ar28 q28 S28 N28_ H28 G28 rfl W28 1 rfl (Nat.le_of_ble_eq_true rfl)
  have Zs28 : n0 ≤ h28.size := (by rw [W28.size]; exact Zs27)
  have N28 := Fr.snoc X28 N27 g_b26
  refine own_step st28 ?_
  show own_Ends p e below s _ _ _ T28 (mkF m 13 #[.val (.int i0), .val (.int i1), .val (.int i2), .unset, .unset, .unset, .unset] [(.ref b26)])
  refine own_step (fun _ => XS.dup X28.here hx rfl (hb hby at_13) rfl rfl) ?_
  show own_Ends p e below s _ _ _ T28 (mkF m 14 #[.val (.int i0), .val (.int i1), .val (.int i2), .unset, .unset, .unset, .unset] [(.ref b26), (.ref b26)])
  refine own_step (fun _ => XS.iconst X28.here hx rfl (hb hby at_14)) ?_
  show own_Ends p e below s _ _ _ T28 (mkF m 15 #[.val (.int i0), .val (.int i1), .val (.int i2), .unset, .unset, .unset, .unset] [(.int (2 : Int32)), (.ref b26), (.ref b26)])
  refine own_step (fun _ => XS.bipush X28.here hx rfl (hb hby at_15)) ?_
  show own_Ends p e below s _ _ _ T28 (mkF m 17 #[.val (.int i0), .val (.int i1), .val (.int i2), .unset, .unset, .unset, .unset] [(.int (10 : Int32)), (.int (2 : Int32)), (.ref b26), (.ref b26)])
  obtain ⟨cl29, Ar29, q29, S29, N29_, H29, G29⟩ := V28
  have hin29 : ¬ ((2 : Int32) < 0 ∨ cl29.slots.size ≤ ((2 : Int32)).toNatClampNeg) := inb_of S29 ⟨by decide, by decide⟩
  obtain ⟨T29, h29, X29, e29, W29, st29⟩ := stI X28 hx hZ e28 Ar29 (j := (2 : Int32)) hin29 (g := (mkF m 17 #[.val (.int i0), .val (.int i1), .val (.int i2), .unset, .unset, .unset, .unset] [(.int (10 : Int32)), (.int (2 : Int32)), (.ref b26), (.ref b26)])) rfl rfl (hb hby at_17)
  have V29 : Arv Z h29 b26 k26 .int (17 : Int32) [(.int (0 : Int32)), (.int (9 : Int32)), (.int (10 : Int32)), (.int (0 : Int32)), (.int (0 : Int32)), (.int (0 : Int32)), (.int (0 : Int32)), (.int (0 : Int32)), (.int (0 : Int32)), (.int (0 : Int32)), (.int (0 : Int32)), (.int (0 : Int32)), (.int (0 : Int32)), (.int (0 : Int32)), (.int (0 : Int32)), (.int (0 : Int32)), (.int (0 : Int32))] (.int (0 : Int32)) := Arv.set Ar29 q29 S29 N29_ H29 G29 rfl W29 2 rfl (Nat.le_of_ble_eq_true rfl)
  have Zs29 : n0 ≤ h29.size := (by rw [W29.size]; exact Zs28)
  have N29 := Fr.snoc X29 N28 g_b26
  refine own_step st29 ?_
  show own_Ends p e below s _ _ _ T29 (mkF m 18 #[.val (.int i0), .val (.int i1), .val (.int i2), .unset, .unset, .unset, .unset] [(.ref b26)])
  refine own_step (fun _ => XS.dup X29.here hx rfl (hb hby at_18) rfl rfl) ?_
  show own_Ends p e below s _ _ _ T29 (mkF m 19 #[.val (.int i0), .val (.int i1), .val (.int i2), .unset, .unset, .unset, .unset] [(.ref b26), (.ref b26)])
  refine own_step (fun _ => XS.iconst X29.here hx rfl (hb hby at_19)) ?_
  show own_Ends p e below s _ _ _ T29 (mkF m 20 #[.val (.int i0), .val (.int i1), .val (.int i2), .unset, .unset, .unset, .unset] [(.int (3 : Int32)), (.ref b26), (.ref b26)])
  refine own_step (fun _ => XS.bipush X29.here hx rfl (hb hby at_20)) ?_
  show own_Ends p e below s _ _ _ T29 (mkF m 22 #[.val (.int i0), .val (.int i1), .val (.int i2), .unset, .unset, .unset, .unset] [(.int (13 : Int32)), (.int (3 : Int32)), (.ref b26), (.ref b26)])
  obtain ⟨cl30, Ar30, q30, S30, N30_, H30, G30⟩ := V29
  have hin30 : ¬ ((3 : Int32) < 0 ∨ cl30.slots.size ≤ ((3 : Int32)).toNatClampNeg) := inb_of S30 ⟨by decide, by decide⟩
  obtain ⟨T30, h30, X30, e30, W30, st30⟩ := stI X29 hx hZ e29 Ar30 (j := (3 : Int32)) hin30 (g := (mkF m 22 #[.val (.int i0), .val (.int i1), .val (.int i2), .unset, .unset, .unset, .unset] [(.int (13 : Int32)), (.int (3 : Int32)), (.ref b26), (.ref b26)])) rfl rfl (hb hby at_22)
  have V30 : Arv Z h30 b26 k26 .int (17 : Int32) [(.int (0 : Int32)), (.int (9 : Int32)), (.int (10 : Int32)), (.int (13 : Int32)), (.int (0 : Int32)), (.int (0 : Int32)), (.int (0 : Int32)), (.int (0 : Int32)), (.int (0 : Int32)), (.int (0 : Int32)), (.int (0 : Int32)), (.int (0 : Int32)), (.int (0 : Int32)), (.int (0 : Int32)), (.int (0 : Int32)), (.int (0 : Int32)), (.int (0 : Int32))] (.int (0 : Int32)) := Arv.set Ar30 q30 S30 N30_ H30 G30 rfl W30 3 rfl (Nat.le_of_ble_eq_true rfl)
  have Zs30 : n0 ≤ h30.size := (by rw [W30.size]; exact Zs29)
  have N30 := Fr.snoc X30 N29 g_b26
  refine own_step st30 ?_
  show own_Ends p e below s _ _ _ T30 (mkF m 23 #[.val (.int i0), .val (.int i1), .val (.int i2), .unset, .unset, .unset, .unset] [(.ref b26)])
  refine own_step (fun _ => XS.dup X30.here hx rfl (hb hby at_23) rfl rfl) ?_
  show own_Ends p e below s _ _ _ T30 (mkF m 24 #[.val (.int i0), .val (.int i1), .val (.int i2), .unset, .unset, .unset, .unset] [(.ref b26), (.ref b26)])
  refine own_step (fun _ => XS.iconst X30.here hx rfl (hb hby at_24)) ?_
  show own_Ends p e below s _ _ _ T30 (mkF m 25 #[.val (.int i0), .val (.int i1), .val (.int i2), .unset, .unset, .unset, .unset] [(.int (4 : Int32)), (.ref b26), (.ref b26)])
  refine own_step (fun _ => XS.bipush X30.here hx rfl (hb hby at_25)) ?_
  show own_Ends p e below s _ _ _ T30 (mkF m 27 #[.val (.int i0), .val (.int i1), .val (.int i2), .unset, .unset, .unset, .unset] [(.int (32 : Int32)), (.int (4 : Int32)), (.ref b26), (.ref b26)])
  obtain ⟨cl31, Ar31, q31, S31, N31_, H31, G31⟩ := V30
  have hin31 : ¬ ((4 : Int32) < 0 ∨ cl31.slots.size ≤ ((4 : Int32)).toNatClampNeg) := inb_of S31 ⟨by decide, by decide⟩
  obtain ⟨T31, h31, X31, e31, W31, st31⟩ := stI X30 hx hZ e30 Ar31 (j := (4 : Int32)) hin31 (g := (mkF m 27 #[.val (.int i0), .val (.int i1), .val (.int i2), .unset, .unset, .unset, .unset] [(.int (32 : Int32)), (.int (4 : Int32)), (.ref b26), (.ref b26)])) rfl rfl (hb hby at_27)
  have V31 : Arv Z h31 b26 k26 .int (17 : Int32) [(.int (0 : Int32)), (.int (9 : Int32)), (.int (10 : Int32)), (.int (13 : Int32)), (.int (32 : Int32)), (.int (0 : Int32)), (.int (0 : Int32)), (.int (0 : Int32)), (.int (0 : Int32)), (.int (0 : Int32)), (.int (0 : Int32)), (.int (0 : Int32)), (.int (0 : Int32)), (.int (0 : Int32)), (.int (0 : Int32)), (.int (0 : Int32)), (.int (0 : Int32))] (.int (0 : Int32)) := Arv.set Ar31 q31 S31 N31_ H31 G31 rfl W31 4 rfl (Nat.le_of_ble_eq_true rfl)
  have Zs31 : n0 ≤ h31.size := (by rw [W31.size]; exact Zs30)
  have N31 := Fr.snoc X31 N30 g_b26
  refine own_step st31 ?_
  show own_Ends p e below s _ _ _ T31 (mkF m 28 #[.val (.int i0), .val (.int i1), .val (.int i2), .unset, .unset, .unset, .unset] [(.ref b26)])
  refine own_step (fun _ => XS.dup X31.here hx rfl (hb hby at_28) rfl rfl) ?_
  show own_Ends p e below s _ _ _ T31 (mkF m 29 #[.val (.int i0), .val (.int i1), .val (.int i2), .unset, .unset, .unset, .unset] [(.ref b26), (.ref b26)])
  refine own_step (fun _ => XS.iconst X31.here hx rfl (hb hby at_29)) ?_
  show own_Ends p e below s _ _ _ T31 (mkF m 30 #[.val (.int i0), .val (.int i1), .val (.int i2), .unset, .unset, .unset, .unset] [(.int (5 : Int32)), (.ref b26), (.ref b26)])
  refine own_step (fun _ => X31.ldcInt hx hown (mvT hZ (hw _ (List.mem_of_getElem? (i := 1) rfl))) (g := (mkF m 30 #[.val (.int i0), .val (.int i1), .val (.int i2), .unset, .unset, .unset, .unset] [(.int (5 : Int32)), (.ref b26), (.ref b26)])) rfl (hb hby at_30) _) ?_
  show own_Ends p e below s _ _ _ T31 (mkF m 32 #[.val (.int i0), .val (.int i1), .val (.int i2), .unset, .unset, .unset, .unset] [(.int (55295 : Int32)), (.int (5 : Int32)), (.ref b26), (.ref b26)])
  obtain ⟨cl32, Ar32, q32, S32, N32_, H32, G32⟩ := V31
  have hin32 : ¬ ((5 : Int32) < 0 ∨ cl32.slots.size ≤ ((5 : Int32)).toNatClampNeg) := inb_of S32 ⟨by decide, by decide⟩
  obtain ⟨T32, h32, X32, e32, W32, st32⟩ := stI X31 hx hZ e31 Ar32 (j := (5 : Int32)) hin32 (g := (mkF m 32 #[.val (.int i0), .val (.int i1), .val (.int i2), .unset, .unset, .unset, .unset] [(.int (55295 : Int32)), (.int (5 : Int32)), (.ref b26), (.ref b26)])) rfl rfl (hb hby at_32)
  have V32 : Arv Z h32 b26 k26 .int (17 : Int32) [(.int (0 : Int32)), (.int (9 : Int32)), (.int (10 : Int32)), (.int (13 : Int32)), (.int (32 : Int32)), (.int (55295 : Int32)), (.int (0 : Int32)), (.int (0 : Int32)), (.int (0 : Int32)), (.int (0 : Int32)), (.int (0 : Int32)), (.int (0 : Int32)), (.int (0 : Int32)), (.int (0 : Int32)), (.int (0 : Int32)), (.int (0 : Int32)), (.int (0 : Int32))] (.int (0 : Int32)) := Arv.set Ar32 q32 S32 N32_ H32 G32 rfl W32 5 rfl (Nat.le_of_ble_eq_true rfl)
  have Zs32 : n0 ≤ h32.size := (by rw [W32.size]; exact Zs31)
  have N32 := Fr.snoc X32 N31 g_b26
  refine own_step st32 ?_
  show own_Ends p e below s _ _ _ T32 (mkF m 33 #[.val (.int i0), .val (.int i1), .val (.int i2), .unset, .unset, .unset, .unset] [(.ref b26)])
  refine own_step (fun _ => XS.dup X32.here hx rfl (hb hby at_33) rfl rfl) ?_
  show own_Ends p e below s _ _ _ T32 (mkF m 34 #[.val (.int i0), .val (.int i1), .val (.int i2), .unset, .unset, .unset, .unset] [(.ref b26), (.ref b26)])
  refine own_step (fun _ => XS.bipush X32.here hx rfl (hb hby at_34)) ?_
  show own_Ends p e below s _ _ _ T32 (mkF m 36 #[.val (.int i0), .val (.int i1), .val (.int i2), .unset, .unset, .unset, .unset] [(.int (6 : Int32)), (.ref b26), (.ref b26)])
  refine own_step (fun _ => X32.ldcInt hx hown (mvT hZ (hw _ (List.mem_of_getElem? (i := 2) rfl))) (g := (mkF m 36 #[.val (.int i0), .val (.int i1), .val (.int i2), .unset, .unset, .unset, .unset] [(.int (6 : Int32)), (.ref b26), (.ref b26)])) rfl (hb hby at_36) _) ?_
  show own_Ends p e below s _ _ _ T32 (mkF m 38 #[.val (.int i0), .val (.int i1), .val (.int i2), .unset, .unset, .unset, .unset] [(.int (55296 : Int32)), (.int (6 : Int32)), (.ref b26), (.ref b26)])
  obtain ⟨cl33, Ar33, q33, S33, N33_, H33, G33⟩ := V32
  have hin33 : ¬ ((6 : Int32) < 0 ∨ cl33.slots.size ≤ ((6 : Int32)).toNatClampNeg) := inb_of S33 ⟨by decide, by decide⟩
  obtain ⟨T33, h33, X33, e33, W33, st33⟩ := stI X32 hx hZ e32 Ar33 (j := (6 : Int32)) hin33 (g := (mkF m 38 #[.val (.int i0), .val (.int i1), .val (.int i2), .unset, .unset, .unset, .unset] [(.int (55296 : Int32)), (.int (6 : Int32)), (.ref b26), (.ref b26)])) rfl rfl (hb hby at_38)
  have V33 : Arv Z h33 b26 k26 .int (17 : Int32) [(.int (0 : Int32)), (.int (9 : Int32)), (.int (10 : Int32)), (.int (13 : Int32)), (.int (32 : Int32)), (.int (55295 : Int32)), (.int (55296 : Int32)), (.int (0 : Int32)), (.int (0 : Int32)), (.int (0 : Int32)), (.int (0 : Int32)), (.int (0 : Int32)), (.int (0 : Int32)), (.int (0 : Int32)), (.int (0 : Int32)), (.int (0 : Int32)), (.int (0 : Int32))] (.int (0 : Int32)) := Arv.set Ar33 q33 S33 N33_ H33 G33 rfl W33 6 rfl (Nat.le_of_ble_eq_true rfl)
  have Zs33 : n0 ≤ h33.size := (by rw [W33.size]; exact Zs32)
  have N33 := Fr.snoc X33 N32 g_b26
  refine own_step st33 ?_
  show own_Ends p e below s _ _ _ T33 (mkF m 39 #[.val (.int i0), .val (.int i1), .val (.int i2), .unset, .unset, .unset, .unset] [(.ref b26)])
  refine own_step (fun _ => XS.dup X33.here hx rfl (hb hby at_39) rfl rfl) ?_
  show own_Ends p e below s _ _ _ T33 (mkF m 40 #[.val (.int i0), .val (.int i1), .val (.int i2), .unset, .unset, .unset, .unset] [(.ref b26), (.ref b26)])
  refine own_step (fun _ => XS.bipush X33.here hx rfl (hb hby at_40)) ?_
  show own_Ends p e below s _ _ _ T33 (mkF m 42 #[.val (.int i0), .val (.int i1), .val (.int i2), .unset, .unset, .unset, .unset] [(.int (7 : Int32)), (.ref b26), (.ref b26)])
  refine own_step (fun _ => X33.ldcInt hx hown (mvT hZ (hw _ (List.mem_of_getElem? (i := 3) rfl))) (g := (mkF m 42 #[.val (.int i0), .val (.int i1), .val (.int i2), .unset, .unset, .unset, .unset] [(.int (7 : Int32)), (.ref b26), (.ref b26)])) rfl (hb hby at_42) _) ?_
  show own_Ends p e below s _ _ _ T33 (mkF m 44 #[.val (.int i0), .val (.int i1), .val (.int i2), .unset, .unset, .unset, .unset] [(.int (57343 : Int32)), (.int (7 : Int32)), (.ref b26), (.ref b26)])
  obtain ⟨cl34, Ar34, q34, S34, N34_, H34, G34⟩ := V33
  have hin34 : ¬ ((7 : Int32) < 0 ∨ cl34.slots.size ≤ ((7 : Int32)).toNatClampNeg) := inb_of S34 ⟨by decide, by decide⟩
  obtain ⟨T34, h34, X34, e34, W34, st34⟩ := stI X33 hx hZ e33 Ar34 (j := (7 : Int32)) hin34 (g := (mkF m 44 #[.val (.int i0), .val (.int i1), .val (.int i2), .unset, .unset, .unset, .unset] [(.int (57343 : Int32)), (.int (7 : Int32)), (.ref b26), (.ref b26)])) rfl rfl (hb hby at_44)
  have V34 : Arv Z h34 b26 k26 .int (17 : Int32) [(.int (0 : Int32)), (.int (9 : Int32)), (.int (10 : Int32)), (.int (13 : Int32)), (.int (32 : Int32)), (.int (55295 : Int32)), (.int (55296 : Int32)), (.int (57343 : Int32)), (.int (0 : Int32)), (.int (0 : Int32)), (.int (0 : Int32)), (.int (0 : Int32)), (.int (0 : Int32)), (.int (0 : Int32)), (.int (0 : Int32)), (.int (0 : Int32)), (.int (0 : Int32))] (.int (0 : Int32)) := Arv.set Ar34 q34 S34 N34_ H34 G34 rfl W34 7 rfl (Nat.le_of_ble_eq_true rfl)
  have Zs34 : n0 ≤ h34.size := (by rw [W34.size]; exact Zs33)
  have N34 := Fr.snoc X34 N33 g_b26
  refine own_step st34 ?_
  show own_Ends p e below s _ _ _ T34 (mkF m 45 #[.val (.int i0), .val (.int i1), .val (.int i2), .unset, .unset, .unset, .unset] [(.ref b26)])
  refine own_step (fun _ => XS.dup X34.here hx rfl (hb hby at_45) rfl rfl) ?_
  show own_Ends p e below s _ _ _ T34 (mkF m 46 #[.val (.int i0), .val (.int i1), .val (.int i2), .unset, .unset, .unset, .unset] [(.ref b26), (.ref b26)])
  refine own_step (fun _ => XS.bipush X34.here hx rfl (hb hby at_46)) ?_
  show own_Ends p e below s _ _ _ T34 (mkF m 48 #[.val (.int i0), .val (.int i1), .val (.int i2), .unset, .unset, .unset, .unset] [(.int (8 : Int32)), (.ref b26), (.ref b26)])
  refine own_step (fun _ => X34.ldcInt hx hown (mvT hZ (hw _ (List.mem_of_getElem? (i := 4) rfl))) (g := (mkF m 48 #[.val (.int i0), .val (.int i1), .val (.int i2), .unset, .unset, .unset, .unset] [(.int (8 : Int32)), (.ref b26), (.ref b26)])) rfl (hb hby at_48) _) ?_
  show own_Ends p e below s _ _ _ T34 (mkF m 50 #[.val (.int i0), .val (.int i1), .val (.int i2), .unset, .unset, .unset, .unset] [(.int (57344 : Int32)), (.int (8 : Int32)), (.ref b26), (.ref b26)])
  obtain ⟨cl35, Ar35, q35, S35, N35_, H35, G35⟩ := V34
  have hin35 : ¬ ((8 : Int32) < 0 ∨ cl35.slots.size ≤ ((8 : Int32)).toNatClampNeg) := inb_of S35 ⟨by decide, by decide⟩
  obtain ⟨T35, h35, X35, e35, W35, st35⟩ := stI X34 hx hZ e34 Ar35 (j := (8 : Int32)) hin35 (g := (mkF m 50 #[.val (.int i0), .val (.int i1), .val (.int i2), .unset, .unset, .unset, .unset] [(.int (57344 : Int32)), (.int (8 : Int32)), (.ref b26), (.ref b26)])) rfl rfl (hb hby at_50)
  have V35 : Arv Z h35 b26 k26 .int (17 : Int32) [(.int (0 : Int32)), (.int (9 : Int32)), (.int (10 : Int32)), (.int (13 : Int32)), (.int (32 : Int32)), (.int (55295 : Int32)), (.int (55296 : Int32)), (.int (57343 : Int32)), (.int (57344 : Int32)), (.int (0 : Int32)), (.int (0 : Int32)), (.int (0 : Int32)), (.int (0 : Int32)), (.int (0 : Int32)), (.int (0 : Int32)), (.int (0 : Int32)), (.int (0 : Int32))] (.int (0 : Int32)) := Arv.set Ar35 q35 S35 N35_ H35 G35 rfl W35 8 rfl (Nat.le_of_ble_eq_true rfl)
  have Zs35 : n0 ≤ h35.size := (by rw [W35.size]; exact Zs34)
  have N35 := Fr.snoc X35 N34 g_b26
  refine own_step st35 ?_
  show own_Ends p e below s _ _ _ T35 (mkF m 51 #[.val (.int i0), .val (.int i1), .val (.int i2), .unset, .unset, .unset, .unset] [(.ref b26)])
  refine own_step (fun _ => XS.dup X35.here hx rfl (hb hby at_51) rfl rfl) ?_
  show own_Ends p e below s _ _ _ T35 (mkF m 52 #[.val (.int i0), .val (.int i1), .val (.int i2), .unset, .unset, .unset, .unset] [(.ref b26), (.ref b26)])
  refine own_step (fun _ => XS.bipush X35.here hx rfl (hb hby at_52)) ?_
  show own_Ends p e below s _ _ _ T35 (mkF m 54 #[.val (.int i0), .val (.int i1), .val (.int i2), .unset, .unset, .unset, .unset] [(.int (9 : Int32)), (.ref b26), (.ref b26)])
  refine own_step (fun _ => X35.ldcInt hx hown (mvT hZ (hw _ (List.mem_of_getElem? (i := 5) rfl))) (g := (mkF m 54 #[.val (.int i0), .val (.int i1), .val (.int i2), .unset, .unset, .unset, .unset] [(.int (9 : Int32)), (.ref b26), (.ref b26)])) rfl (hb hby at_54) _) ?_
  show own_Ends p e below s _ _ _ T35 (mkF m 56 #[.val (.int i0), .val (.int i1), .val (.int i2), .unset, .unset, .unset, .unset] [(.int (65533 : Int32)), (.int (9 : Int32)), (.ref b26), (.ref b26)])
  obtain ⟨cl36, Ar36, q36, S36, N36_, H36, G36⟩ := V35
  have hin36 : ¬ ((9 : Int32) < 0 ∨ cl36.slots.size ≤ ((9 : Int32)).toNatClampNeg) := inb_of S36 ⟨by decide, by decide⟩
  obtain ⟨T36, h36, X36, e36, W36, st36⟩ := stI X35 hx hZ e35 Ar36 (j := (9 : Int32)) hin36 (g := (mkF m 56 #[.val (.int i0), .val (.int i1), .val (.int i2), .unset, .unset, .unset, .unset] [(.int (65533 : Int32)), (.int (9 : Int32)), (.ref b26), (.ref b26)])) rfl rfl (hb hby at_56)
  have V36 : Arv Z h36 b26 k26 .int (17 : Int32) [(.int (0 : Int32)), (.int (9 : Int32)), (.int (10 : Int32)), (.int (13 : Int32)), (.int (32 : Int32)), (.int (55295 : Int32)), (.int (55296 : Int32)), (.int (57343 : Int32)), (.int (57344 : Int32)), (.int (65533 : Int32)), (.int (0 : Int32)), (.int (0 : Int32)), (.int (0 : Int32)), (.int (0 : Int32)), (.int (0 : Int32)), (.int (0 : Int32)), (.int (0 : Int32))] (.int (0 : Int32)) := Arv.set Ar36 q36 S36 N36_ H36 G36 rfl W36 9 rfl (Nat.le_of_ble_eq_true rfl)
  have Zs36 : n0 ≤ h36.size := (by rw [W36.size]; exact Zs35)
  have N36 := Fr.snoc X36 N35 g_b26
  refine own_step st36 ?_
  show own_Ends p e below s _ _ _ T36 (mkF m 57 #[.val (.int i0), .val (.int i1), .val (.int i2), .unset, .unset, .unset, .unset] [(.ref b26)])
  refine own_step (fun _ => XS.dup X36.here hx rfl (hb hby at_57) rfl rfl) ?_
  show own_Ends p e below s _ _ _ T36 (mkF m 58 #[.val (.int i0), .val (.int i1), .val (.int i2), .unset, .unset, .unset, .unset] [(.ref b26), (.ref b26)])
  refine own_step (fun _ => XS.bipush X36.here hx rfl (hb hby at_58)) ?_
  show own_Ends p e below s _ _ _ T36 (mkF m 60 #[.val (.int i0), .val (.int i1), .val (.int i2), .unset, .unset, .unset, .unset] [(.int (10 : Int32)), (.ref b26), (.ref b26)])
  refine own_step (fun _ => X36.ldcInt hx hown (mvT hZ (hw _ (List.mem_of_getElem? (i := 6) rfl))) (g := (mkF m 60 #[.val (.int i0), .val (.int i1), .val (.int i2), .unset, .unset, .unset, .unset] [(.int (10 : Int32)), (.ref b26), (.ref b26)])) rfl (hb hby at_60) _) ?_
  show own_Ends p e below s _ _ _ T36 (mkF m 62 #[.val (.int i0), .val (.int i1), .val (.int i2), .unset, .unset, .unset, .unset] [(.int (65534 : Int32)), (.int (10 : Int32)), (.ref b26), (.ref b26)])
  obtain ⟨cl37, Ar37, q37, S37, N37_, H37, G37⟩ := V36
  have hin37 : ¬ ((10 : Int32) < 0 ∨ cl37.slots.size ≤ ((10 : Int32)).toNatClampNeg) := inb_of S37 ⟨by decide, by decide⟩
  obtain ⟨T37, h37, X37, e37, W37, st37⟩ := stI X36 hx hZ e36 Ar37 (j := (10 : Int32)) hin37 (g := (mkF m 62 #[.val (.int i0), .val (.int i1), .val (.int i2), .unset, .unset, .unset, .unset] [(.int (65534 : Int32)), (.int (10 : Int32)), (.ref b26), (.ref b26)])) rfl rfl (hb hby at_62)
  have V37 : Arv Z h37 b26 k26 .int (17 : Int32) [(.int (0 : Int32)), (.int (9 : Int32)), (.int (10 : Int32)), (.int (13 : Int32)), (.int (32 : Int32)), (.int (55295 : Int32)), (.int (55296 : Int32)), (.int (57343 : Int32)), (.int (57344 : Int32)), (.int (65533 : Int32)), (.int (65534 : Int32)), (.int (0 : Int32)), (.int (0 : Int32)), (.int (0 : Int32)), (.int (0 : Int32)), (.int (0 : Int32)), (.int (0 : Int32))] (.int (0 : Int32)) := Arv.set Ar37 q37 S37 N37_ H37 G37 rfl W37 10 rfl (Nat.le_of_ble_eq_true rfl)
  have Zs37 : n0 ≤ h37.size := (by rw [W37.size]; exact Zs36)
  have N37 := Fr.snoc X37 N36 g_b26
  refine own_step st37 ?_
  show own_Ends p e below s _ _ _ T37 (mkF m 63 #[.val (.int i0), .val (.int i1), .val (.int i2), .unset, .unset, .unset, .unset] [(.ref b26)])
  refine own_step (fun _ => XS.dup X37.here hx rfl (hb hby at_63) rfl rfl) ?_
  show own_Ends p e below s _ _ _ T37 (mkF m 64 #[.val (.int i0), .val (.int i1), .val (.int i2), .unset, .unset, .unset, .unset] [(.ref b26), (.ref b26)])
  refine own_step (fun _ => XS.bipush X37.here hx rfl (hb hby at_64)) ?_
  show own_Ends p e below s _ _ _ T37 (mkF m 66 #[.val (.int i0), .val (.int i1), .val (.int i2), .unset, .unset, .unset, .unset] [(.int (11 : Int32)), (.ref b26), (.ref b26)])
  refine own_step (fun _ => X37.ldcInt hx hown (mvT hZ (hw _ (List.mem_of_getElem? (i := 7) rfl))) (g := (mkF m 66 #[.val (.int i0), .val (.int i1), .val (.int i2), .unset, .unset, .unset, .unset] [(.int (11 : Int32)), (.ref b26), (.ref b26)])) rfl (hb hby at_66) _) ?_
  show own_Ends p e below s _ _ _ T37 (mkF m 68 #[.val (.int i0), .val (.int i1), .val (.int i2), .unset, .unset, .unset, .unset] [(.int (65535 : Int32)), (.int (11 : Int32)), (.ref b26), (.ref b26)])
  obtain ⟨cl38, Ar38, q38, S38, N38_, H38, G38⟩ := V37
  have hin38 : ¬ ((11 : Int32) < 0 ∨ cl38.slots.size ≤ ((11 : Int32)).toNatClampNeg) := inb_of S38 ⟨by decide, by decide⟩
  obtain ⟨T38, h38, X38, e38, W38, st38⟩ := stI X37 hx hZ e37 Ar38 (j := (11 : Int32)) hin38 (g := (mkF m 68 #[.val (.int i0), .val (.int i1), .val (.int i2), .unset, .unset, .unset, .unset] [(.int (65535 : Int32)), (.int (11 : Int32)), (.ref b26), (.ref b26)])) rfl rfl (hb hby at_68)
  have V38 : Arv Z h38 b26 k26 .int (17 : Int32) [(.int (0 : Int32)), (.int (9 : Int32)), (.int (10 : Int32)), (.int (13 : Int32)), (.int (32 : Int32)), (.int (55295 : Int32)), (.int (55296 : Int32)), (.int (57343 : Int32)), (.int (57344 : Int32)), (.int (65533 : Int32)), (.int (65534 : Int32)), (.int (65535 : Int32)), (.int (0 : Int32)), (.int (0 : Int32)), (.int (0 : Int32)), (.int (0 : Int32)), (.int (0 : Int32))] (.int (0 : Int32)) := Arv.set Ar38 q38 S38 N38_ H38 G38 rfl W38 11 rfl (Nat.le_of_ble_eq_true rfl)
  have Zs38 : n0 ≤ h38.size := (by rw [W38.size]; exact Zs37)
  have N38 := Fr.snoc X38 N37 g_b26
  refine own_step st38 ?_
  show own_Ends p e below s _ _ _ T38 (mkF m 69 #[.val (.int i0), .val (.int i1), .val (.int i2), .unset, .unset, .unset, .unset] [(.ref b26)])
  refine own_step (fun _ => XS.dup X38.here hx rfl (hb hby at_69) rfl rfl) ?_
  show own_Ends p e below s _ _ _ T38 (mkF m 70 #[.val (.int i0), .val (.int i1), .val (.int i2), .unset, .unset, .unset, .unset] [(.ref b26), (.ref b26)])
  refine own_step (fun _ => XS.bipush X38.here hx rfl (hb hby at_70)) ?_
  show own_Ends p e below s _ _ _ T38 (mkF m 72 #[.val (.int i0), .val (.int i1), .val (.int i2), .unset, .unset, .unset, .unset] [(.int (12 : Int32)), (.ref b26), (.ref b26)])
  refine own_step (fun _ => X38.ldcInt hx hown (mvT hZ (hw _ (List.mem_of_getElem? (i := 8) rfl))) (g := (mkF m 72 #[.val (.int i0), .val (.int i1), .val (.int i2), .unset, .unset, .unset, .unset] [(.int (12 : Int32)), (.ref b26), (.ref b26)])) rfl (hb hby at_72) _) ?_
  show own_Ends p e below s _ _ _ T38 (mkF m 74 #[.val (.int i0), .val (.int i1), .val (.int i2), .unset, .unset, .unset, .unset] [(.int (65536 : Int32)), (.int (12 : Int32)), (.ref b26), (.ref b26)])
  obtain ⟨cl39, Ar39, q39, S39, N39_, H39, G39⟩ := V38
  have hin39 : ¬ ((12 : Int32) < 0 ∨ cl39.slots.size ≤ ((12 : Int32)).toNatClampNeg) := inb_of S39 ⟨by decide, by decide⟩
  obtain ⟨T39, h39, X39, e39, W39, st39⟩ := stI X38 hx hZ e38 Ar39 (j := (12 : Int32)) hin39 (g := (mkF m 74 #[.val (.int i0), .val (.int i1), .val (.int i2), .unset, .unset, .unset, .unset] [(.int (65536 : Int32)), (.int (12 : Int32)), (.ref b26), (.ref b26)])) rfl rfl (hb hby at_74)
  have V39 : Arv Z h39 b26 k26 .int (17 : Int32) [(.int (0 : Int32)), (.int (9 : Int32)), (.int (10 : Int32)), (.int (13 : Int32)), (.int (32 : Int32)), (.int (55295 : Int32)), (.int (55296 : Int32)), (.int (57343 : Int32)), (.int (57344 : Int32)), (.int (65533 : Int32)), (.int (65534 : Int32)), (.int (65535 : Int32)), (.int (65536 : Int32)), (.int (0 : Int32)), (.int (0 : Int32)), (.int (0 : Int32)), (.int (0 : Int32))] (.int (0 : Int32)) := Arv.set Ar39 q39 S39 N39_ H39 G39 rfl W39 12 rfl (Nat.le_of_ble_eq_true rfl)
  have Zs39 : n0 ≤ h39.size := (by rw [W39.size]; exact Zs38)
  have N39 := Fr.snoc X39 N38 g_b26
  refine own_step st39 ?_
  show own_Ends p e below s _ _ _ T39 (mkF m 75 #[.val (.int i0), .val (.int i1), .val (.int i2), .unset, .unset, .unset, .unset] [(.ref b26)])
  refine own_step (fun _ => XS.dup X39.here hx rfl (hb hby at_75) rfl rfl) ?_
  show own_Ends p e below s _ _ _ T39 (mkF m 76 #[.val (.int i0), .val (.int i1), .val (.int i2), .unset, .unset, .unset, .unset] [(.ref b26), (.ref b26)])
  refine own_step (fun _ => XS.bipush X39.here hx rfl (hb hby at_76)) ?_
  show own_Ends p e below s _ _ _ T39 (mkF m 78 #[.val (.int i0), .val (.int i1), .val (.int i2), .unset, .unset, .unset, .unset] [(.int (13 : Int32)), (.ref b26), (.ref b26)])
  refine own_step (fun _ => X39.ldcInt hx hown (mvT hZ (hw _ (List.mem_of_getElem? (i := 9) rfl))) (g := (mkF m 78 #[.val (.int i0), .val (.int i1), .val (.int i2), .unset, .unset, .unset, .unset] [(.int (13 : Int32)), (.ref b26), (.ref b26)])) rfl (hb hby at_78) _) ?_
  show own_Ends p e below s _ _ _ T39 (mkF m 80 #[.val (.int i0), .val (.int i1), .val (.int i2), .unset, .unset, .unset, .unset] [(.int (1114111 : Int32)), (.int (13 : Int32)), (.ref b26), (.ref b26)])
  obtain ⟨cl40, Ar40, q40, S40, N40_, H40, G40⟩ := V39
  have hin40 : ¬ ((13 : Int32) < 0 ∨ cl40.slots.size ≤ ((13 : Int32)).toNatClampNeg) := inb_of S40 ⟨by decide, by decide⟩
  obtain ⟨T40, h40, X40, e40, W40, st40⟩ := stI X39 hx hZ e39 Ar40 (j := (13 : Int32)) hin40 (g := (mkF m 80 #[.val (.int i0), .val (.int i1), .val (.int i2), .unset, .unset, .unset, .unset] [(.int (1114111 : Int32)), (.int (13 : Int32)), (.ref b26), (.ref b26)])) rfl rfl (hb hby at_80)
  have V40 : Arv Z h40 b26 k26 .int (17 : Int32) [(.int (0 : Int32)), (.int (9 : Int32)), (.int (10 : Int32)), (.int (13 : Int32)), (.int (32 : Int32)), (.int (55295 : Int32)), (.int (55296 : Int32)), (.int (57343 : Int32)), (.int (57344 : Int32)), (.int (65533 : Int32)), (.int (65534 : Int32)), (.int (65535 : Int32)), (.int (65536 : Int32)), (.int (1114111 : Int32)), (.int (0 : Int32)), (.int (0 : Int32)), (.int (0 : Int32))] (.int (0 : Int32)) := Arv.set Ar40 q40 S40 N40_ H40 G40 rfl W40 13 rfl (Nat.le_of_ble_eq_true rfl)
  have Zs40 : n0 ≤ h40.size := (by rw [W40.size]; exact Zs39)
  have N40 := Fr.snoc X40 N39 g_b26
  refine own_step st40 ?_
  show own_Ends p e below s _ _ _ T40 (mkF m 81 #[.val (.int i0), .val (.int i1), .val (.int i2), .unset, .unset, .unset, .unset] [(.ref b26)])
  refine own_step (fun _ => XS.dup X40.here hx rfl (hb hby at_81) rfl rfl) ?_
  show own_Ends p e below s _ _ _ T40 (mkF m 82 #[.val (.int i0), .val (.int i1), .val (.int i2), .unset, .unset, .unset, .unset] [(.ref b26), (.ref b26)])
  refine own_step (fun _ => XS.bipush X40.here hx rfl (hb hby at_82)) ?_
  show own_Ends p e below s _ _ _ T40 (mkF m 84 #[.val (.int i0), .val (.int i1), .val (.int i2), .unset, .unset, .unset, .unset] [(.int (14 : Int32)), (.ref b26), (.ref b26)])
  refine own_step (fun _ => X40.ldcInt hx hown (mvT hZ (hw _ (List.mem_of_getElem? (i := 10) rfl))) (g := (mkF m 84 #[.val (.int i0), .val (.int i1), .val (.int i2), .unset, .unset, .unset, .unset] [(.int (14 : Int32)), (.ref b26), (.ref b26)])) rfl (hb hby at_84) _) ?_
  show own_Ends p e below s _ _ _ T40 (mkF m 86 #[.val (.int i0), .val (.int i1), .val (.int i2), .unset, .unset, .unset, .unset] [(.int (1114112 : Int32)), (.int (14 : Int32)), (.ref b26), (.ref b26)])
  obtain ⟨cl41, Ar41, q41, S41, N41_, H41, G41⟩ := V40
  have hin41 : ¬ ((14 : Int32) < 0 ∨ cl41.slots.size ≤ ((14 : Int32)).toNatClampNeg) := inb_of S41 ⟨by decide, by decide⟩
  obtain ⟨T41, h41, X41, e41, W41, st41⟩ := stI X40 hx hZ e40 Ar41 (j := (14 : Int32)) hin41 (g := (mkF m 86 #[.val (.int i0), .val (.int i1), .val (.int i2), .unset, .unset, .unset, .unset] [(.int (1114112 : Int32)), (.int (14 : Int32)), (.ref b26), (.ref b26)])) rfl rfl (hb hby at_86)
  have V41 : Arv Z h41 b26 k26 .int (17 : Int32) [(.int (0 : Int32)), (.int (9 : Int32)), (.int (10 : Int32)), (.int (13 : Int32)), (.int (32 : Int32)), (.int (55295 : Int32)), (.int (55296 : Int32)), (.int (57343 : Int32)), (.int (57344 : Int32)), (.int (65533 : Int32)), (.int (65534 : Int32)), (.int (65535 : Int32)), (.int (65536 : Int32)), (.int (1114111 : Int32)), (.int (1114112 : Int32)), (.int (0 : Int32)), (.int (0 : Int32))] (.int (0 : Int32)) := Arv.set Ar41 q41 S41 N41_ H41 G41 rfl W41 14 rfl (Nat.le_of_ble_eq_true rfl)
  have Zs41 : n0 ≤ h41.size := (by rw [W41.size]; exact Zs40)
  have N41 := Fr.snoc X41 N40 g_b26
  refine own_step st41 ?_
  show own_Ends p e below s _ _ _ T41 (mkF m 87 #[.val (.int i0), .val (.int i1), .val (.int i2), .unset, .unset, .unset, .unset] [(.ref b26)])
  refine own_step (fun _ => XS.dup X41.here hx rfl (hb hby at_87) rfl rfl) ?_
  show own_Ends p e below s _ _ _ T41 (mkF m 88 #[.val (.int i0), .val (.int i1), .val (.int i2), .unset, .unset, .unset, .unset] [(.ref b26), (.ref b26)])
  refine own_step (fun _ => XS.bipush X41.here hx rfl (hb hby at_88)) ?_
  show own_Ends p e below s _ _ _ T41 (mkF m 90 #[.val (.int i0), .val (.int i1), .val (.int i2), .unset, .unset, .unset, .unset] [(.int (15 : Int32)), (.ref b26), (.ref b26)])
  refine own_step (fun _ => X41.ldcInt hx hown (mvT hZ (hw _ (List.mem_of_getElem? (i := 11) rfl))) (g := (mkF m 90 #[.val (.int i0), .val (.int i1), .val (.int i2), .unset, .unset, .unset, .unset] [(.int (15 : Int32)), (.ref b26), (.ref b26)])) rfl (hb hby at_90) _) ?_
  show own_Ends p e below s _ _ _ T41 (mkF m 92 #[.val (.int i0), .val (.int i1), .val (.int i2), .unset, .unset, .unset, .unset] [(.int (-2147483648 : Int32)), (.int (15 : Int32)), (.ref b26), (.ref b26)])
  obtain ⟨cl42, Ar42, q42, S42, N42_, H42, G42⟩ := V41
  have hin42 : ¬ ((15 : Int32) < 0 ∨ cl42.slots.size ≤ ((15 : Int32)).toNatClampNeg) := inb_of S42 ⟨by decide, by decide⟩
  obtain ⟨T42, h42, X42, e42, W42, st42⟩ := stI X41 hx hZ e41 Ar42 (j := (15 : Int32)) hin42 (g := (mkF m 92 #[.val (.int i0), .val (.int i1), .val (.int i2), .unset, .unset, .unset, .unset] [(.int (-2147483648 : Int32)), (.int (15 : Int32)), (.ref b26), (.ref b26)])) rfl rfl (hb hby at_92)
  have V42 : Arv Z h42 b26 k26 .int (17 : Int32) [(.int (0 : Int32)), (.int (9 : Int32)), (.int (10 : Int32)), (.int (13 : Int32)), (.int (32 : Int32)), (.int (55295 : Int32)), (.int (55296 : Int32)), (.int (57343 : Int32)), (.int (57344 : Int32)), (.int (65533 : Int32)), (.int (65534 : Int32)), (.int (65535 : Int32)), (.int (65536 : Int32)), (.int (1114111 : Int32)), (.int (1114112 : Int32)), (.int (-2147483648 : Int32)), (.int (0 : Int32))] (.int (0 : Int32)) := Arv.set Ar42 q42 S42 N42_ H42 G42 rfl W42 15 rfl (Nat.le_of_ble_eq_true rfl)
  have Zs42 : n0 ≤ h42.size := (by rw [W42.size]; exact Zs41)
  have N42 := Fr.snoc X42 N41 g_b26
  refine own_step st42 ?_
  show own_Ends p e below s _ _ _ T42 (mkF m 93 #[.val (.int i0), .val (.int i1), .val (.int i2), .unset, .unset, .unset, .unset] [(.ref b26)])
  refine own_step (fun _ => XS.dup X42.here hx rfl (hb hby at_93) rfl rfl) ?_
  show own_Ends p e below s _ _ _ T42 (mkF m 94 #[.val (.int i0), .val (.int i1), .val (.int i2), .unset, .unset, .unset, .unset] [(.ref b26), (.ref b26)])
  refine own_step (fun _ => XS.bipush X42.here hx rfl (hb hby at_94)) ?_
  show own_Ends p e below s _ _ _ T42 (mkF m 96 #[.val (.int i0), .val (.int i1), .val (.int i2), .unset, .unset, .unset, .unset] [(.int (16 : Int32)), (.ref b26), (.ref b26)])
  refine own_step (fun _ => X42.ldcInt hx hown (mvT hZ (hw _ (List.mem_of_getElem? (i := 12) rfl))) (g := (mkF m 96 #[.val (.int i0), .val (.int i1), .val (.int i2), .unset, .unset, .unset, .unset] [(.int (16 : Int32)), (.ref b26), (.ref b26)])) rfl (hb hby at_96) _) ?_
  show own_Ends p e below s _ _ _ T42 (mkF m 98 #[.val (.int i0), .val (.int i1), .val (.int i2), .unset, .unset, .unset, .unset] [(.int (2147483647 : Int32)), (.int (16 : Int32)), (.ref b26), (.ref b26)])
  obtain ⟨cl43, Ar43, q43, S43, N43_, H43, G43⟩ := V42
  have hin43 : ¬ ((16 : Int32) < 0 ∨ cl43.slots.size ≤ ((16 : Int32)).toNatClampNeg) := inb_of S43 ⟨by decide, by decide⟩
  obtain ⟨T43, h43, X43, e43, W43, st43⟩ := stI X42 hx hZ e42 Ar43 (j := (16 : Int32)) hin43 (g := (mkF m 98 #[.val (.int i0), .val (.int i1), .val (.int i2), .unset, .unset, .unset, .unset] [(.int (2147483647 : Int32)), (.int (16 : Int32)), (.ref b26), (.ref b26)])) rfl rfl (hb hby at_98)
  have V43 : Arv Z h43 b26 k26 .int (17 : Int32) [(.int (0 : Int32)), (.int (9 : Int32)), (.int (10 : Int32)), (.int (13 : Int32)), (.int (32 : Int32)), (.int (55295 : Int32)), (.int (55296 : Int32)), (.int (57343 : Int32)), (.int (57344 : Int32)), (.int (65533 : Int32)), (.int (65534 : Int32)), (.int (65535 : Int32)), (.int (65536 : Int32)), (.int (1114111 : Int32)), (.int (1114112 : Int32)), (.int (-2147483648 : Int32)), (.int (2147483647 : Int32))] (.int (0 : Int32)) := Arv.set Ar43 q43 S43 N43_ H43 G43 rfl W43 16 rfl (Nat.le_of_ble_eq_true rfl)
  have Zs43 : n0 ≤ h43.size := (by rw [W43.size]; exact Zs42)
  have N43 := Fr.snoc X43 N42 g_b26
  refine own_step st43 ?_
  show own_Ends p e below s _ _ _ T43 (mkF m 99 #[.val (.int i0), .val (.int i1), .val (.int i2), .unset, .unset, .unset, .unset] [(.ref b26)])
  refine own_step (fun _ => XS.astoreN X43.here hx rfl (hb hby at_99) rfl rfl (l' := #[.val (.int i0), .val (.int i1), .val (.int i2), .val (.ref b26), .unset, .unset, .unset]) rfl) ?_
  show own_Ends p e below s _ _ _ T43 (mkF m 100 #[.val (.int i0), .val (.int i1), .val (.int i2), .val (.ref b26), .unset, .unset, .unset] [])
  refine own_step (fun _ => XS.iloadN X43.here hx rfl (hb hby at_100) rfl) ?_
  show own_Ends p e below s _ _ _ T43 (mkF m 101 #[.val (.int i0), .val (.int i1), .val (.int i2), .val (.ref b26), .unset, .unset, .unset] [(.int i1)])
  refine own_step (fun _ => XS.iconst X43.here hx rfl (hb hby at_101)) ?_
  show own_Ends p e below s _ _ _ T43 (mkF m 102 #[.val (.int i0), .val (.int i1), .val (.int i2), .val (.ref b26), .unset, .unset, .unset] [(.int (1 : Int32)), (.int i1)])
  refine own_step (fun _ => XS.iand X43.here hx rfl (hb hby at_102) rfl) ?_
  show own_Ends p e below s _ _ _ T43 (mkF m 103 #[.val (.int i0), .val (.int i1), .val (.int i2), .val (.ref b26), .unset, .unset, .unset] [(.int (i1 &&& (1 : Int32)))])
  by_cases hc103 : (i1 &&& (1 : Int32)) = (0 : Int32)
  · have hv_t := hv.trans (if_pos hc103)
    refine own_step (fun _ => XS.ifNo X43.here hx rfl (hb hby at_103) rfl ((if0 _ _).trans (teq hc103).2)) ?_
    show own_Ends p e below s _ _ _ T43 (mkF m 106 #[.val (.int i0), .val (.int i1), .val (.int i2), .val (.ref b26), .unset, .unset, .unset] [])
    refine own_step (fun _ => XS.iloadN X43.here hx rfl (hb hby at_106) rfl) ?_
    show own_Ends p e below s _ _ _ T43 (mkF m 107 #[.val (.int i0), .val (.int i1), .val (.int i2), .val (.ref b26), .unset, .unset, .unset] [(.int i0)])
    refine own_step (fun _ => XS.istore X43.here hx rfl (hb hby at_107) rfl (l' := #[.val (.int i0), .val (.int i1), .val (.int i2), .val (.ref b26), .val (.int i0), .unset, .unset]) rfl) ?_
    show own_Ends p e below s _ _ _ T43 (mkF m 109 #[.val (.int i0), .val (.int i1), .val (.int i2), .val (.ref b26), .val (.int i0), .unset, .unset] [])
    refine own_step (fun _ => XS.goto X43.here hx rfl (pc0 := 109) (pc' := 142) rfl (hb hby at_109) (by decide) (by decide)) ?_
    show own_Ends p e below s _ _ _ T43 (mkF m 142 #[.val (.int i0), .val (.int i1), .val (.int i2), .val (.ref b26), .val (.int i0), .unset, .unset] [])
    exact b0_142 C Zs43 X43 e43 N43 i0 i1 i2 b26 i0 (.unset) (.unset) _ hv_t
  · have hv_f := hv.trans (if_neg hc103)
    refine own_step (fun _ => XS.ifYes X43.here hx rfl (pc0 := 103) (pc' := 112) rfl (hb hby at_103) rfl ((if0 _ _).trans (feq hc103).2) (by decide) (by decide)) ?_
    show own_Ends p e below s _ _ _ T43 (mkF m 112 #[.val (.int i0), .val (.int i1), .val (.int i2), .val (.ref b26), .unset, .unset, .unset] [])
    refine own_step (fun _ => XS.iloadN X43.here hx rfl (hb hby at_112) rfl) ?_
    show own_Ends p e below s _ _ _ T43 (mkF m 113 #[.val (.int i0), .val (.int i1), .val (.int i2), .val (.ref b26), .unset, .unset, .unset] [(.int i1)])
    refine own_step (fun _ => XS.iconst X43.here hx rfl (hb hby at_113)) ?_
    show own_Ends p e below s _ _ _ T43 (mkF m 114 #[.val (.int i0), .val (.int i1), .val (.int i2), .val (.ref b26), .unset, .unset, .unset] [(.int (1 : Int32)), (.int i1)])
    refine own_step (fun _ => XS.iushr X43.here hx rfl (hb hby at_114) rfl) ?_
    show own_Ends p e below s _ _ _ T43 (mkF m 115 #[.val (.int i0), .val (.int i1), .val (.int i2), .val (.ref b26), .unset, .unset, .unset] [(.int ((i1.toUInt32 >>> ((1 : Int32) &&& 31).toUInt32).toInt32))])
    refine own_step (fun _ => X43.ldcInt hx hown (mvT hZ (hw _ (List.mem_of_getElem? (i := 12) rfl))) (g := (mkF m 115 #[.val (.int i0), .val (.int i1), .val (.int i2), .val (.ref b26), .unset, .unset, .unset] [(.int ((i1.toUInt32 >>> ((1 : Int32) &&& 31).toUInt32).toInt32))])) rfl (hb hby at_115) _) ?_
    show own_Ends p e below s _ _ _ T43 (mkF m 117 #[.val (.int i0), .val (.int i1), .val (.int i2), .val (.ref b26), .unset, .unset, .unset] [(.int (2147483647 : Int32)), (.int ((i1.toUInt32 >>> ((1 : Int32) &&& 31).toUInt32).toInt32))])
    refine own_step (fun _ => XS.iand X43.here hx rfl (hb hby at_117) rfl) ?_
    show own_Ends p e below s _ _ _ T43 (mkF m 118 #[.val (.int i0), .val (.int i1), .val (.int i2), .val (.ref b26), .unset, .unset, .unset] [(.int (((i1.toUInt32 >>> ((1 : Int32) &&& 31).toUInt32).toInt32) &&& (2147483647 : Int32)))])
    refine own_step (fun _ => XS.bipush X43.here hx rfl (hb hby at_118)) ?_
    show own_Ends p e below s _ _ _ T43 (mkF m 120 #[.val (.int i0), .val (.int i1), .val (.int i2), .val (.ref b26), .unset, .unset, .unset] [(.int (17 : Int32)), (.int (((i1.toUInt32 >>> ((1 : Int32) &&& 31).toUInt32).toInt32) &&& (2147483647 : Int32)))])
    refine own_step (fun _ => iremM X43 hx rfl (hb hby at_120) rfl (by decide)) ?_
    show own_Ends p e below s _ _ _ T43 (mkF m 121 #[.val (.int i0), .val (.int i1), .val (.int i2), .val (.ref b26), .unset, .unset, .unset] [(.int ((((i1.toUInt32 >>> ((1 : Int32) &&& 31).toUInt32).toInt32) &&& (2147483647 : Int32)) % (17 : Int32)))])
    refine own_step (fun _ => XS.istore X43.here hx rfl (hb hby at_121) rfl (l' := #[.val (.int i0), .val (.int i1), .val (.int i2), .val (.ref b26), .unset, .val (.int ((((i1.toUInt32 >>> ((1 : Int32) &&& 31).toUInt32).toInt32) &&& (2147483647 : Int32)) % (17 : Int32))), .unset]) rfl) ?_
    show own_Ends p e below s _ _ _ T43 (mkF m 123 #[.val (.int i0), .val (.int i1), .val (.int i2), .val (.ref b26), .unset, .val (.int ((((i1.toUInt32 >>> ((1 : Int32) &&& 31).toUInt32).toInt32) &&& (2147483647 : Int32)) % (17 : Int32))), .unset] [])
    refine own_step (fun _ => XS.iloadN X43.here hx rfl (hb hby at_123) rfl) ?_
    show own_Ends p e below s _ _ _ T43 (mkF m 124 #[.val (.int i0), .val (.int i1), .val (.int i2), .val (.ref b26), .unset, .val (.int ((((i1.toUInt32 >>> ((1 : Int32) &&& 31).toUInt32).toInt32) &&& (2147483647 : Int32)) % (17 : Int32))), .unset] [(.int i2)])
    refine own_step (fun _ => X43.ldcInt hx hown (mvT hZ (hw _ (List.mem_of_getElem? (i := 12) rfl))) (g := (mkF m 124 #[.val (.int i0), .val (.int i1), .val (.int i2), .val (.ref b26), .unset, .val (.int ((((i1.toUInt32 >>> ((1 : Int32) &&& 31).toUInt32).toInt32) &&& (2147483647 : Int32)) % (17 : Int32))), .unset] [(.int i2)])) rfl (hb hby at_124) _) ?_
    show own_Ends p e below s _ _ _ T43 (mkF m 126 #[.val (.int i0), .val (.int i1), .val (.int i2), .val (.ref b26), .unset, .val (.int ((((i1.toUInt32 >>> ((1 : Int32) &&& 31).toUInt32).toInt32) &&& (2147483647 : Int32)) % (17 : Int32))), .unset] [(.int (2147483647 : Int32)), (.int i2)])
    refine own_step (fun _ => XS.iand X43.here hx rfl (hb hby at_126) rfl) ?_
    show own_Ends p e below s _ _ _ T43 (mkF m 127 #[.val (.int i0), .val (.int i1), .val (.int i2), .val (.ref b26), .unset, .val (.int ((((i1.toUInt32 >>> ((1 : Int32) &&& 31).toUInt32).toInt32) &&& (2147483647 : Int32)) % (17 : Int32))), .unset] [(.int (i2 &&& (2147483647 : Int32)))])
    refine own_step (fun _ => XS.iconst X43.here hx rfl (hb hby at_127)) ?_
    show own_Ends p e below s _ _ _ T43 (mkF m 128 #[.val (.int i0), .val (.int i1), .val (.int i2), .val (.ref b26), .unset, .val (.int ((((i1.toUInt32 >>> ((1 : Int32) &&& 31).toUInt32).toInt32) &&& (2147483647 : Int32)) % (17 : Int32))), .unset] [(.int (3 : Int32)), (.int (i2 &&& (2147483647 : Int32)))])
    refine own_step (fun _ => iremM X43 hx rfl (hb hby at_128) rfl (by decide)) ?_
    show own_Ends p e below s _ _ _ T43 (mkF m 129 #[.val (.int i0), .val (.int i1), .val (.int i2), .val (.ref b26), .unset, .val (.int ((((i1.toUInt32 >>> ((1 : Int32) &&& 31).toUInt32).toInt32) &&& (2147483647 : Int32)) % (17 : Int32))), .unset] [(.int ((i2 &&& (2147483647 : Int32)) % (3 : Int32)))])
    refine own_step (fun _ => XS.iconst X43.here hx rfl (hb hby at_129)) ?_
    show own_Ends p e below s _ _ _ T43 (mkF m 130 #[.val (.int i0), .val (.int i1), .val (.int i2), .val (.ref b26), .unset, .val (.int ((((i1.toUInt32 >>> ((1 : Int32) &&& 31).toUInt32).toInt32) &&& (2147483647 : Int32)) % (17 : Int32))), .unset] [(.int (1 : Int32)), (.int ((i2 &&& (2147483647 : Int32)) % (3 : Int32)))])
    refine own_step (fun _ => XS.isub X43.here hx rfl (hb hby at_130) rfl) ?_
    show own_Ends p e below s _ _ _ T43 (mkF m 131 #[.val (.int i0), .val (.int i1), .val (.int i2), .val (.ref b26), .unset, .val (.int ((((i1.toUInt32 >>> ((1 : Int32) &&& 31).toUInt32).toInt32) &&& (2147483647 : Int32)) % (17 : Int32))), .unset] [(.int (((i2 &&& (2147483647 : Int32)) % (3 : Int32)) - (1 : Int32)))])
    refine own_step (fun _ => XS.istore X43.here hx rfl (hb hby at_131) rfl (l' := #[.val (.int i0), .val (.int i1), .val (.int i2), .val (.ref b26), .unset, .val (.int ((((i1.toUInt32 >>> ((1 : Int32) &&& 31).toUInt32).toInt32) &&& (2147483647 : Int32)) % (17 : Int32))), .val (.int (((i2 &&& (2147483647 : Int32)) % (3 : Int32)) - (1 : Int32)))]) rfl) ?_
    show own_Ends p e below s _ _ _ T43 (mkF m 133 #[.val (.int i0), .val (.int i1), .val (.int i2), .val (.ref b26), .unset, .val (.int ((((i1.toUInt32 >>> ((1 : Int32) &&& 31).toUInt32).toInt32) &&& (2147483647 : Int32)) % (17 : Int32))), .val (.int (((i2 &&& (2147483647 : Int32)) % (3 : Int32)) - (1 : Int32)))] [])
    refine own_step (fun _ => XS.aloadN X43.here hx rfl (hb hby at_133) rfl rfl) ?_
    show own_Ends p e below s _ _ _ T43 (mkF m 134 #[.val (.int i0), .val (.int i1), .val (.int i2), .val (.ref b26), .unset, .val (.int ((((i1.toUInt32 >>> ((1 : Int32) &&& 31).toUInt32).toInt32) &&& (2147483647 : Int32)) % (17 : Int32))), .val (.int (((i2 &&& (2147483647 : Int32)) % (3 : Int32)) - (1 : Int32)))] [(.ref b26)])
    refine own_step (fun _ => XS.iload X43.here hx rfl (hb hby at_134) rfl) ?_
    show own_Ends p e below s _ _ _ T43 (mkF m 136 #[.val (.int i0), .val (.int i1), .val (.int i2), .val (.ref b26), .unset, .val (.int ((((i1.toUInt32 >>> ((1 : Int32) &&& 31).toUInt32).toInt32) &&& (2147483647 : Int32)) % (17 : Int32))), .val (.int (((i2 &&& (2147483647 : Int32)) % (3 : Int32)) - (1 : Int32)))] [(.int ((((i1.toUInt32 >>> ((1 : Int32) &&& 31).toUInt32).toInt32) &&& (2147483647 : Int32)) % (17 : Int32))), (.ref b26)])
    obtain ⟨cl44, Ar44, q44, S44, N44_, H44, G44⟩ := V43
    have hin44 : ¬ (((((i1.toUInt32 >>> ((1 : Int32) &&& 31).toUInt32).toInt32) &&& (2147483647 : Int32)) % (17 : Int32)) < 0 ∨ cl44.slots.size ≤ (((((i1.toUInt32 >>> ((1 : Int32) &&& 31).toUInt32).toInt32) &&& (2147483647 : Int32)) % (17 : Int32))).toNatClampNeg) := inb_of S44 (own_i17 _)
    have hat44 : cl44.slots[(((((i1.toUInt32 >>> ((1 : Int32) &&& 31).toUInt32).toInt32) &&& (2147483647 : Int32)) % (17 : Int32))).toNatClampNeg]? = some (.int (own_edge ((((i1.toUInt32 >>> ((1 : Int32) &&& 31).toUInt32).toInt32) &&& (2147483647 : Int32)) % (17 : Int32)))) := H44.at hin44 (own_getD own_edges _)
    refine own_step (fun _ => X43.iaload hx (j := ((((i1.toUInt32 >>> ((1 : Int32) &&& 31).toUInt32).toInt32) &&& (2147483647 : Int32)) % (17 : Int32))) (v := (.int (own_edge ((((i1.toUInt32 >>> ((1 : Int32) &&& 31).toUInt32).toInt32) &&& (2147483647 : Int32)) % (17 : Int32))))) (by rw [e43]; exact Ar44.1) (State.isArrayOf_alike hZ.alike Ar44.2.1) Ar44.2.2 hin44 hat44 (g := (mkF m 136 #[.val (.int i0), .val (.int i1), .val (.int i2), .val (.ref b26), .unset, .val (.int ((((i1.toUInt32 >>> ((1 : Int32) &&& 31).toUInt32).toInt32) &&& (2147483647 : Int32)) % (17 : Int32))), .val (.int (((i2 &&& (2147483647 : Int32)) % (3 : Int32)) - (1 : Int32)))] [(.int ((((i1.toUInt32 >>> ((1 : Int32) &&& 31).toUInt32).toInt32) &&& (2147483647 : Int32)) % (17 : Int32))), (.ref b26)])) rfl rfl (hb hby at_136) _) ?_
    show own_Ends p e below s _ _ _ T43 (mkF m 137 #[.val (.int i0), .val (.int i1), .val (.int i2), .val (.ref b26), .unset, .val (.int ((((i1.toUInt32 >>> ((1 : Int32) &&& 31).toUInt32).toInt32) &&& (2147483647 : Int32)) % (17 : Int32))), .val (.int (((i2 &&& (2147483647 : Int32)) % (3 : Int32)) - (1 : Int32)))] [(.int (own_edge ((((i1.toUInt32 >>> ((1 : Int32) &&& 31).toUInt32).toInt32) &&& (2147483647 : Int32)) % (17 : Int32))))])
    refine own_step (fun _ => XS.iload X43.here hx rfl (hb hby at_137) rfl) ?_
    show own_Ends p e below s _ _ _ T43 (mkF m 139 #[.val (.int i0), .val (.int i1), .val (.int i2), .val (.ref b26), .unset, .val (.int ((((i1.toUInt32 >>> ((1 : Int32) &&& 31).toUInt32).toInt32) &&& (2147483647 : Int32)) % (17 : Int32))), .val (.int (((i2 &&& (2147483647 : Int32)) % (3 : Int32)) - (1 : Int32)))] [(.int (((i2 &&& (2147483647 : Int32)) % (3 : Int32)) - (1 : Int32))), (.int (own_edge ((((i1.toUInt32 >>> ((1 : Int32) &&& 31).toUInt32).toInt32) &&& (2147483647 : Int32)) % (17 : Int32))))])
    refine own_step (fun _ => XS.iadd X43.here hx rfl (hb hby at_139) rfl) ?_
    show own_Ends p e below s _ _ _ T43 (mkF m 140 #[.val (.int i0), .val (.int i1), .val (.int i2), .val (.ref b26), .unset, .val (.int ((((i1.toUInt32 >>> ((1 : Int32) &&& 31).toUInt32).toInt32) &&& (2147483647 : Int32)) % (17 : Int32))), .val (.int (((i2 &&& (2147483647 : Int32)) % (3 : Int32)) - (1 : Int32)))] [(.int ((own_edge ((((i1.toUInt32 >>> ((1 : Int32) &&& 31).toUInt32).toInt32) &&& (2147483647 : Int32)) % (17 : Int32))) + (((i2 &&& (2147483647 : Int32)) % (3 : Int32)) - (1 : Int32))))])
    refine own_step (fun _ => XS.istore X43.here hx rfl (hb hby at_140) rfl (l' := #[.val (.int i0), .val (.int i1), .val (.int i2), .val (.ref b26), .val (.int ((own_edge ((((i1.toUInt32 >>> ((1 : Int32) &&& 31).toUInt32).toInt32) &&& (2147483647 : Int32)) % (17 : Int32))) + (((i2 &&& (2147483647 : Int32)) % (3 : Int32)) - (1 : Int32)))), .val (.int ((((i1.toUInt32 >>> ((1 : Int32) &&& 31).toUInt32).toInt32) &&& (2147483647 : Int32)) % (17 : Int32))), .val (.int (((i2 &&& (2147483647 : Int32)) % (3 : Int32)) - (1 : Int32)))]) rfl) ?_
    show own_Ends p e below s _ _ _ T43 (mkF m 142 #[.val (.int i0), .val (.int i1), .val (.int i2), .val (.ref b26), .val (.int ((own_edge ((((i1.toUInt32 >>> ((1 : Int32) &&& 31).toUInt32).toInt32) &&& (2147483647 : Int32)) % (17 : Int32))) + (((i2 &&& (2147483647 : Int32)) % (3 : Int32)) - (1 : Int32)))), .val (.int ((((i1.toUInt32 >>> ((1 : Int32) &&& 31).toUInt32).toInt32) &&& (2147483647 : Int32)) % (17 : Int32))), .val (.int (((i2 &&& (2147483647 : Int32)) % (3 : Int32)) - (1 : Int32)))] [])
    exact b0_142 C Zs43 X43 e43 N43 i0 i1 i2 b26 ((own_edge ((((i1.toUInt32 >>> ((1 : Int32) &&& 31).toUInt32).toInt32) &&& (2147483647 : Int32)) % (17 : Int32))) + (((i2 &&& (2147483647 : Int32)) % (3 : Int32)) - (1 : Int32))) (.val (.int ((((i1.toUInt32 >>> ((1 : Int32) &&& 31).toUInt32).toInt32) &&& (2147483647 : Int32)) % (17 : Int32)))) (.val (.int (((i2 &&& (2147483647 : Int32)) % (3 : Int32)) - (1 : Int32)))) _ hv_f
theorem ef_rm0 (m : MethodId) (i0 : Int32) (i1 : Int32) (i2 : Int32) : entryFrame m #[(.int i0), (.int i1), (.int i2)] maxLocals = mkF m 0 #[.val (.int i0), .val (.int i1), .val (.int i2), .unset, .unset, .unset, .unset] [] := by first | (simp [entryFrame, mkF, argsToLocals, Value.category, maxLocals]; done) | rfl
set_option maxRecDepth 65536 in
set_option maxHeartbeats 40000000 in
theorem rm0 (l : Launch) (Z : State) (a0 : Array Value) (hw : ∀ d ∈ tables_1, d.before a0 Z = true) (ws : List Jvm.Cond) (i0 : Int32) (i1 : Int32) (i2 : Int32) (h0 : Heap) (n0 : Nat) (Z0 : n0 ≤ h0.size) :
    MetFree l x (head1 (Jvm.Cond.code x code maxLocals ret :: ws) room_1) (fun a U => a = #[(.int i0), (.int i1), (.int i2)] ∧ Z.Warmed39 U.vm ∧ U.heap = h0) (fun _ _ _ _ _ => True) (fun _ U o U' => ∃ v L, o = .returned v ∧ (own_QL n0 (some (.int (f0_0 i0 i1 i2)))) v U'.heap L ∧ FrameEnd U o U' L room_1.cells room_1.slots) := by
  refine MetFree.of_bodySF (plainFor_of_name pn_1) hisR ?_
  intro p e s m args below meth c s₁ Bd hml0 hP hK
  obtain ⟨rfl, hZ, hh⟩ := hP
  have X0 : Stand p l e room_1 s m #[(.int i0), (.int i1), (.int i2)] below meth c s₁ [] 0 0 := Stand.of_body Bd
  have e0 : s₁.heap = h0 := by rw [← hh, Bd.state]; rfl
  have C : own_C "lomwright/lom/Xml10AllowedPinLaw" code maxLocals ret x.name p s m meth c Z a0 := ⟨Bd.exec, hZ, hw, Bd.bytes, hml0, findClass_of_methodNamed Bd.named, Bd.returns, Bd.notSynchronized, (name_of_methodNamed Bd.named Bd.method).1⟩
  have r := b0_0 C Z0 X0 e0 (Fr.nil n0) i0 i1 i2 _ rfl
  rw [ef_rm0 m i0 i1 i2]
  exact r
theorem own_same (c : Int32) : f1_0 c = if f2_0 c = 0 then (1 : Int32) else 0 := by
  have q : ∀ k : Int32, (c = k ↔ c.toInt = k.toInt) := fun k => Int32.toInt_inj.symm
  unfold f1_0 f2_0 f1_48 f2_50
  simp only [Int32.lt_iff_toInt_lt, q, show (32 : Int32).toInt = 32 from rfl, show (9 : Int32).toInt = 9 from rfl, show (10 : Int32).toInt = 10 from rfl, show (13 : Int32).toInt = 13 from rfl, show (55295 : Int32).toInt = 55295 from rfl, show (57344 : Int32).toInt = 57344 from rfl, show (65533 : Int32).toInt = 65533 from rfl, show (65536 : Int32).toInt = 65536 from rfl, show (1114111 : Int32).toInt = 1114111 from rfl, show (0 : Int32).toInt = 0 from rfl, show (55296 : Int32).toInt = 55296 from rfl, show (57343 : Int32).toInt = 57343 from rfl, show (65534 : Int32).toInt = 65534 from rfl, show (65535 : Int32).toInt = 65535 from rfl]
  generalize c.toInt = z
  by_cases h1 : z < 32
  · by_cases h0 : z < 0
    · simp [h1, h0, show z ≠ 9 by omega, show z ≠ 10 by omega, show z ≠ 13 by omega]
    · by_cases h9 : z = 9
      · subst h9; decide
      · by_cases h10 : z = 10
        · subst h10; decide
        · by_cases h13 : z = 13
          · subst h13; decide
          · simp [h1, h0, h9, h10, h13]
  · have h0 : ¬ z < 0 := by omega
    by_cases h2 : 55295 < z
    · by_cases h3 : z < 57344
      · simp [h1, h0, h2, h3, show z < 65536 by omega, show ¬ z < 55296 by omega, show ¬ 57343 < z by omega]
      · by_cases h4 : 65533 < z
        · by_cases h5 : z < 65536
          · by_cases h6 : z = 65534
            · subst h6; decide
            · have h7 : z = 65535 := by omega
              subst h7; decide
          · by_cases h6 : 1114111 < z
            · simp [h1, h0, h2, h3, h4, h5, h6, show ¬ z < 55296 by omega, show 57343 < z by omega, show ¬ z = 65534 by omega, show ¬ z = 65535 by omega]
            · simp [h1, h0, h2, h3, h4, h5, h6, show ¬ z < 55296 by omega, show 57343 < z by omega, show ¬ z = 65534 by omega, show ¬ z = 65535 by omega]
        · simp [h1, h0, h2, h3, h4, show ¬ z < 55296 by omega, show 57343 < z by omega, show ¬ z = 65534 by omega, show ¬ z = 65535 by omega, show ¬ 1114111 < z by omega]
    · simp [h1, h0, h2, show z < 55296 by omega, show ¬ z = 65534 by omega, show ¬ z = 65535 by omega, show ¬ 1114111 < z by omega]
theorem own_law2 (c i0 i1 i2 : Int32) : f0_142 i0 i1 i2 c = 1 := by
  unfold f0_142 f0_160
  rw [own_same c]
  split <;> rename_i h <;> simp [h]
theorem own_law (i0 i1 i2 : Int32) : f0_0 i0 i1 i2 = 1 := by
  unfold f0_0
  split <;> exact own_law2 _ _ _ _

set_option maxRecDepth 65536 in
set_option maxHeartbeats 40000000 in
theorem comes_1 {Post : Tables → Env → Array Value → State → Outcome → State → Prop} (hpost : ∀ tb e args s v u, (limb_1_1.after args s (.returned v) u = true ∧ limb_1_2.after args s (.returned v) u = true ∧ True) → FrameEnd s (.returned v) u (Jvm.fieldLocs frame_1_writes args s ++ Jvm.arrayLocs frame_1_arrays args s ++ Jvm.staticLocs frame_1_statics s) 16 128 → Post tb e args s (.returned v) u) :
    ArmFor flags0 classFile x code maxLocals ret World_1 tables_1 room_1 Calls_1 rest_1 Pre_1 Post := by
  intro l hfl _ _ p e ha hc hk s m args below hf hA hF happ hP
  obtain ⟨hcalls, hrest, hpre⟩ := hP
  obtain ⟨-, -, -, hnamed, -, -, -, hat⟩ := (Spec.applies_iff hf).mp happ
  obtain ⟨hg, hn⟩ := and_e (Cond.before_iff.mp (show (Jvm.Cond.and given_1 narrow_1).before args s = true from hpre))
  obtain ⟨g1, g2⟩ := and_e hg
  obtain ⟨g3, g4⟩ := and_e g2
  obtain ⟨g5, g6⟩ := and_e g4
  obtain ⟨w0, w1, w2, rfl⟩ : ∃ w0 w1 w2 : Value, args = #[w0, w1, w2] := by
    have hs : args.size = 3 := by simpa [Cond.value, given_1] using g1
    obtain ⟨L⟩ := args
    match L, hs with
    | [w0, w1, w2], _ => exact ⟨w0, w1, w2, rfl⟩
  have hw := fun d (hd : d ∈ tables_1) => atoms_spec (ws := Jvm.Cond.code x code maxLocals ret :: tables_1) hat d (List.mem_cons_of_mem _ hd)
  have hfit : Fit s := fun {y c} hc i hi => by
    obtain ⟨ha, rfl⟩ := Array.getElem?_eq_some_iff.mp hc
    have q := List.all_eq_true.mp ((Array.all_eq_true_iff_forall_mem.mp hF) _ (Array.getElem_mem ha)) i (List.mem_range.mpr hi)
    simpa [Array.getElem?_eq_getElem hi] using q
  obtain ⟨i0, ei0⟩ := is_v g3
  obtain rfl : w0 = (.int i0) := Option.some.inj ei0
  obtain ⟨i1, ei1⟩ := is_v g5
  obtain rfl : w1 = (.int i1) := Option.some.inj ei1
  obtain ⟨i2, ei2⟩ := is_v g6
  obtain rfl : w2 = (.int i2) := Option.some.inj ei2
  obtain ⟨n, o, h1, h2, h3, _, L, rfl, ⟨rfl, N, -⟩, hq⟩ := rm0 l s _ hw tables_1 i0 i1 i2 s.heap s.heap.size (Nat.le_refl _) p e ha hc hk s m _ below hf ((Spec.applies_iff_loose hf).mp happ).1 ⟨rfl, State.Warmed39.refl s, rfl⟩ trivial
  refine ⟨n, _, h1, h2, h3, hpost _ _ _ _ _ _ ⟨Cond.after_iff.mpr rfl, Cond.after_iff.mpr (eq_i res_at (Term.int_eval (1)) (congrArg Value.int (own_law i0 i1 i2))), trivial⟩ ⟨hq.1, hq.2.1, (hq.2.2.sift fun y hy => Or.inr (N y hy)).mono (by decide) (by decide)⟩⟩
theorem main_1_1 : Claimed_1_1 := comes_1 fun _ _ _ _ _ _ h hF => ⟨h.1, hF⟩
theorem main_1_2 : Claimed_1_2 := comes_1 fun _ _ _ _ _ _ h hF => ⟨h.2.1, hF⟩
end Jvm.Pilot.@@N@@
namespace Jvm.Pilot.@@N@@
open Jvm Jvm.ClassFile Sem Op Lib Jvm.Free Jvm.Stand Jvm.Pilot.@@N@@.Jvm.D
/-! MADE BY PROGRAM (witnessworld.py) out of the Statement's table words and the real class files: 9 classes; the members and pool entries that the words name. The judged class is class 1, her method 2. -/
namespace start1
open Jvm.ClassFile
def u (s : String) : CpInfo := .utf8 (stringToUtf16 s)
/-- a pool by its gaps: so many unusable entries, then the entry; so many at the end -/
def gap : Nat → List CpInfo → List CpInfo
  | 0, r => r
  | n + 1, r => .unusable :: gap n r
def poolList (es : List (Nat × CpInfo)) (last : Nat) : List CpInfo := es.foldr (fun e r => gap e.1 (e.2 :: r)) (gap last [])
def pool (es : List (Nat × CpInfo)) (last : Nat) : Array CpInfo := ⟨poolList es last⟩
def fileOf (pool : Array CpInfo) (this : Nat) (attrs : Array Attribute := #[]) (ms : Array MethodInfo := #[]) (fl : Nat := 33) (sup : Nat := 0) (ifs : Array Nat := #[]) (fds : Array FieldInfo := #[]) : ClassFile where
  minorVersion := 0
  majorVersion := 65
  constantPool := pool
  accessFlags := fl
  thisClass := this
  superClass := sup
  interfaces := ifs
  fields := fds
  methods := ms
  attributes := attrs
def plain (name : String) (sup : Option ClassId) : Class where
  name := name
  kind := .ordinary
  loader := none
  accessFlags := 33
  super := sup
  interfaces := #[]
  cf := none
  fields := #[]
  methods := #[]
  instanceTypes := #[]
  staticTypes := #[]
  resolved := #[]
  callSites := []
  init := .initialized
  statics := none
  mirror := none

def pool0 : Array CpInfo := pool [(5, u "<init>"), (0, u "()V"), (1, .class_ 10), (1, u "java/lang/Object")] 113

def k0m0 : Method := { name := "<init>", desc := "()V", sig := { parameters := [], returnType := none }, accessFlags := 1, code := none }
/-- java/lang/Object -/
def k0 : Class := { plain "java/lang/Object" none with
  accessFlags := 33
  interfaces := #[]
  cf := some (fileOf pool0 8 #[] #[{ accessFlags := 1, nameIndex := 5, descriptorIndex := 6, attributes := #[] }] 33 0 #[] #[])
  fields := #[]
  methods := #[k0m0]
  instanceTypes := #[]
  staticTypes := #[]
  resolved := Array.replicate 124 none
  statics := none }

def pool1 : Array CpInfo := pool [(2, .class_ 4), (1, u "java/lang/Object"), (0, u "<init>"), (0, u "()V"), (0, .integer 55296), (0, .integer 57343), (0, .integer 65534), (0, .integer 65535), (0, .integer 1114111), (0, .integer 55295), (0, .integer 57344), (0, .integer 65533), (0, .integer 65536), (0, .integer 1114112), (2, .integer 2147483648), (0, .integer 2147483647), (0, .methodref 22 23), (0, .class_ 24), (0, .nameAndType 25 26), (0, u "lomwright/lom/Xml10"), (0, u "allowed"), (0, u "(I)Z"), (0, .methodref 28 29), (0, .class_ 30), (0, .nameAndType 31 26), (0, u "lomwright/lom/Xml10AllowedPinLaw"), (0, u "excluded"), (3, u "law"), (0, u "(III)Z")] 4

def k1m0 : Method := { name := "<init>", desc := "()V", sig := { parameters := [], returnType := none }, accessFlags := 2, code := none }
def k1c1 : Code := { maxStack := 2, maxLocals := 1, code := method_2_code, exceptionTable := #[], attributes := #[] }
def k1m1 : Method := { name := "excluded", desc := "(I)Z", sig := { parameters := [.int], returnType := some .boolean }, accessFlags := 10, code := some k1c1 }
def k1c2 : Code := { maxStack := 4, maxLocals := 7, code := code, exceptionTable := #[], attributes := #[] }
def k1m2 : Method := { name := "law", desc := "(III)Z", sig := { parameters := [.int, .int, .int], returnType := some .boolean }, accessFlags := 9, code := some k1c2 }
/-- lomwright/lom/Xml10AllowedPinLaw -/
def k1 : Class := { plain "lomwright/lom/Xml10AllowedPinLaw" (some 0) with
  accessFlags := 49
  interfaces := #[]
  cf := some (fileOf pool1 28 #[] #[{ accessFlags := 2, nameIndex := 5, descriptorIndex := 6, attributes := #[] }, { accessFlags := 10, nameIndex := 31, descriptorIndex := 26, attributes := #[] }, { accessFlags := 9, nameIndex := 35, descriptorIndex := 36, attributes := #[] }] 49 2 #[] #[])
  fields := #[]
  methods := #[k1m0, k1m1, k1m2]
  instanceTypes := #[]
  staticTypes := #[]
  resolved := Array.replicate 41 none
  statics := none }

def pool2 : Array CpInfo := pool [(2, .class_ 4), (1, u "java/lang/Object"), (0, u "<init>"), (0, u "()V"), (18, .class_ 27), (1, u "lomwright/lom/Xml10"), (0, u "allowed"), (0, u "(I)Z"), (69, .integer 55295), (0, .integer 57344), (0, .integer 65533), (0, .integer 65536), (0, .integer 1114111)] 16

def k2m0 : Method := { name := "<init>", desc := "()V", sig := { parameters := [], returnType := none }, accessFlags := 2, code := none }
def k2c1 : Code := { maxStack := 2, maxLocals := 1, code := prog_110_method_10_code, exceptionTable := #[], attributes := #[] }
def k2m1 : Method := { name := "allowed", desc := "(I)Z", sig := { parameters := [.int], returnType := some .boolean }, accessFlags := 8, code := some k2c1 }
/-- lomwright/lom/Xml10 -/
def k2 : Class := { plain "lomwright/lom/Xml10" (some 0) with
  accessFlags := 48
  interfaces := #[]
  cf := some (fileOf pool2 25 #[] #[{ accessFlags := 2, nameIndex := 5, descriptorIndex := 6, attributes := #[] }, { accessFlags := 8, nameIndex := 28, descriptorIndex := 29, attributes := #[] }] 48 2 #[] #[])
  fields := #[]
  methods := #[k2m0, k2m1]
  instanceTypes := #[]
  staticTypes := #[]
  resolved := Array.replicate 120 none
  statics := none }

def pool3 : Array CpInfo := pool [(1, u "java/lang/Cloneable"), (0, .class_ 1), (0, u "java/lang/Object"), (0, .class_ 3)] 3

/-- java/lang/Cloneable -/
def k3 : Class := { plain "java/lang/Cloneable" (some 0) with
  accessFlags := 1537
  interfaces := #[]
  cf := some (fileOf pool3 2 #[] #[] 1537 4 #[] #[])
  fields := #[]
  methods := #[]
  instanceTypes := #[]
  staticTypes := #[]
  resolved := Array.replicate 8 none
  statics := none }

def pool4 : Array CpInfo := pool [(1, u "java/io/Serializable"), (0, .class_ 1), (0, u "java/lang/Object"), (0, .class_ 3)] 3

/-- java/io/Serializable -/
def k4 : Class := { plain "java/io/Serializable" (some 0) with
  accessFlags := 1537
  interfaces := #[]
  cf := some (fileOf pool4 2 #[] #[] 1537 4 #[] #[])
  fields := #[]
  methods := #[]
  instanceTypes := #[]
  staticTypes := #[]
  resolved := Array.replicate 8 none
  statics := none }

/-- the primitive byte -/
def k5 : Class := { plain "byte" none with kind := .primitive 'B', accessFlags := 0x411 }
/-- [B -/
def k6 : Class := { plain "[B" (some 0) with kind := .array 5 .byte, interfaces := #[3, 4], accessFlags := 1041 }

/-- the primitive int -/
def k7 : Class := { plain "int" none with kind := .primitive 'I', accessFlags := 0x411 }
/-- [I -/
def k8 : Class := { plain "[I" (some 0) with kind := .array 7 .int, interfaces := #[3, 4], accessFlags := 1041 }

def heap : Heap := #[]
def classes : Array Class := #[k0, k1, k2, k3, k4, k5, k6, k7, k8]
def interned : List (Array UInt16 × Addr) := []
def slotsUsed : Nat := 0
def theMethod : MethodId := ⟨1, 2⟩
def args0 : Array Value := #[.int 5, .int 3, .int 7]
def aboutOver (below : List Frame) : State where
  vm := { classes := classes, interned := interned.toArray }
  heap := heap
  slotsUsed := slotsUsed
  threads := #[{ frames := .invoking theMethod args0 :: below }]
def below0 : List Frame := [.native { method := ⟨0, 0⟩, args := #[] }]
def about1 : State := aboutOver below0
def p0 : Program := .bare "" "" ""
def e0 : Env := launch0.env 0 0 0
theorem w_frames : about1.frames = Frame.invoking theMethod args0 :: below0 := rfl
set_option maxRecDepth 65536 in
theorem w_args : argsFit about1.vm theMethod args0 = true := by decide +kernel
set_option maxRecDepth 65536 in
theorem w_heap : heapFits about1 = true := by decide +kernel
set_option maxRecDepth 65536 in
theorem w_runnable : about1.curStatus? = some .runnable := by decide +kernel
set_option maxRecDepth 65536 in
theorem w_alone : about1.alone = true := by decide +kernel
set_option maxRecDepth 65536 in
theorem w_named : about1.methodNamed? x = some theMethod := by decide +kernel
set_option maxRecDepth 65536 in
theorem w_hears : about1.hears theMethod below0 = true := by decide +kernel
set_option maxRecDepth 65536 in
theorem w_ripe : about1.ripe theMethod args0 below0 = true := by decide +kernel
theorem w_running : about1.status = .running := rfl
set_option maxRecDepth 65536 in
theorem w_room : about1.hasRoom e0.platform room_1 = true :=
  launch0.hasRoom_least _ room_1 (by decide +kernel) (by decide +kernel) (by decide +kernel) (by decide +kernel) (by decide +kernel) (by decide +kernel)
theorem allAtoms_all (ts : List Jvm.Cond) (a : Array Jvm.Value) (st : Jvm.State) : (allAtoms ts).before a st = ts.all (fun c => c.before a st) := by
  induction ts with
  | nil => rfl
  | cons c t ih =>
    show (Jvm.Cond.and c (allAtoms t)).before a st = _
    rw [Jvm.Cond.before_and, ih, List.all_cons]
def words1 : List Jvm.Cond := Jvm.Cond.code x code maxLocals ret :: tables_1
/-- a 'code' word, met by the world's own term for the bytes: nothing is compared byte by byte -/
theorem code_word {y : MethodName} {bytes : ByteArray} {mx : Nat} {rt : Option FieldType} {a : Array Value} {s : State} {m : MethodId} {meth : Method} {c : Code} (h1 : s.methodNamed? y = some m) (h2 : s.vm.method? m = some meth) (h3 : meth.code = some c) (h4 : c.code = bytes)
    (h5 : (c.maxLocals == mx && c.exceptionTable.isEmpty && decide (c.maxStack ≤ mostOperands) && decide (meth.sig.returnType = rt) && !meth.locks && decide (parseMethodDescriptor y.desc = some meth.sig)) = true) : (Jvm.Cond.code y bytes mx rt).before a s = true := by
  simp only [Bool.and_eq_true, beq_iff_eq, Bool.not_eq_true', decide_eq_true_eq] at h5
  obtain ⟨⟨⟨⟨⟨g1, g2⟩, g3⟩, g4⟩, g5⟩, g6⟩ := h5
  simp [Cond.before, Cond.holds, Cond.value, h1, h2, h3, h4, g1, g2, g3, g4, g5, g6]
def isCode : Jvm.Cond → Bool
  | .code _ _ _ _ => true
  | _ => false
theorem all_split {L : List Jvm.Cond} {P : Jvm.Cond → Bool} (h1 : L.all (fun c => isCode c || P c) = true) (h2 : ∀ c ∈ L.filter isCode, P c = true) : L.all P = true := by
  refine List.all_eq_true.mpr fun c hc => ?_
  have h := List.all_eq_true.mp h1 c hc
  rcases Bool.eq_false_or_eq_true (isCode c) with hi | hi
  · exact h2 c (List.mem_filter.mpr ⟨hc, hi⟩)
  · simpa [hi] using h
set_option maxRecDepth 65536 in
theorem w_c0 : (Jvm.Cond.code x code maxLocals ret).before args0 about1 = true := code_word (m := ⟨1, 2⟩) (meth := k1m2) (c := k1c2) (by decide +kernel) rfl rfl rfl (by decide +kernel)
set_option maxRecDepth 65536 in
theorem w_c1 : (Jvm.Cond.code ({ cls := "lomwright/lom/Xml10", name := "allowed", desc := "(I)Z" } : Jvm.MethodName) prog_110_method_10_code (1 : Nat) (Option.some Jvm.ClassFile.FieldType.boolean)).before args0 about1 = true := code_word (m := ⟨2, 1⟩) (meth := k2m1) (c := k2c1) (by decide +kernel) rfl rfl rfl (by decide +kernel)
set_option maxRecDepth 65536 in
theorem w_c2 : (Jvm.Cond.code ({ cls := "lomwright/lom/Xml10AllowedPinLaw", name := "excluded", desc := "(I)Z" } : Jvm.MethodName) method_2_code (1 : Nat) (Option.some Jvm.ClassFile.FieldType.boolean)).before args0 about1 = true := code_word (m := ⟨1, 1⟩) (meth := k1m1) (c := k1c1) (by decide +kernel) rfl rfl rfl (by decide +kernel)
def codes1 : List Jvm.Cond := [Jvm.Cond.code x code maxLocals ret, Jvm.Cond.code ({ cls := "lomwright/lom/Xml10", name := "allowed", desc := "(I)Z" } : Jvm.MethodName) prog_110_method_10_code (1 : Nat) (Option.some Jvm.ClassFile.FieldType.boolean), Jvm.Cond.code ({ cls := "lomwright/lom/Xml10AllowedPinLaw", name := "excluded", desc := "(I)Z" } : Jvm.MethodName) method_2_code (1 : Nat) (Option.some Jvm.ClassFile.FieldType.boolean)]
set_option maxRecDepth 65536 in
theorem codes_eq : words1.filter isCode = codes1 := rfl
theorem w_codes : ∀ c ∈ words1.filter isCode, c.before args0 about1 = true := by
  rw [codes_eq]
  intro c hc
  simp only [codes1, List.mem_cons, List.not_mem_nil, or_false] at hc
  rcases hc with rfl | rfl | rfl
  · exact w_c0
  · exact w_c1
  · exact w_c2
set_option maxRecDepth 65536 in
theorem w_t1 : (words1.take 24).all (fun c => isCode c || c.before args0 about1) = true := by decide +kernel
set_option maxRecDepth 65536 in
theorem w_t2 : (words1.drop 24).all (fun c => isCode c || c.before args0 about1) = true := by decide +kernel
theorem w_tables : (allAtoms (Jvm.Cond.code x code maxLocals ret :: tables_1)).before args0 about1 = true := by
  rw [allAtoms_all]
  show words1.all (fun c => c.before args0 about1) = true
  refine all_split ?_ w_codes
  rw [← List.take_append_drop 24 words1, List.all_append, w_t1, w_t2]
  rfl
set_option maxRecDepth 65536 in
theorem w_case : (Jvm.Cond.and given_1 narrow_1).before args0 about1 = true := by decide +kernel
theorem w_applies : (headSpec (Jvm.Cond.code x code maxLocals ret :: tables_1) room_1).applies x e0.platform about1 = true :=
  (Spec.applies_iff w_frames).mpr ⟨w_running, w_runnable, w_alone, w_named, w_hears, w_ripe, w_room, w_tables⟩
theorem atStart : AtStart classFile x code maxLocals ret World_1 tables_1 room_1 Calls_1 rest_1 Pre_1 launch0 p0 e0 about1 theMethod args0 below0 :=
  ⟨lists_1, trivial, launch0.admits_env _ _ _, launch0.least_env, fairChoices_fair.cas, fairChoices_fair.clock, w_frames, w_args, w_heap, w_applies, trivial, trivial, w_case⟩
end start1
theorem witness_1 : WitnessClaimed_1 := ⟨start1.p0, start1.e0, start1.about1, start1.theMethod, start1.args0, start1.below0, start1.atStart⟩
end Jvm.Pilot.@@N@@
