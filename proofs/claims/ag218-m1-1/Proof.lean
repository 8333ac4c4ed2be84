import JvmDerived
import JvmDerived.Pilot.@@N@@Statement
import JvmDerived.Pilot.@@N@@Code
set_option linter.unusedVariables false
set_option linter.unusedSimpArgs false
namespace Jvm.Pilot.@@N@@
open Jvm Jvm.ClassFile Sem Op Lib Jvm.Free Jvm.Stand Jvm.LawKit Jvm.RoadKit Bundle Jvm.Pilot.@@N@@.Jvm.D
/-! own words: where a body stands (own_C), how it ends (own_Ends), one step ahead of that (own_step), the returns -/
def own_C (cls : String) (code : ByteArray) (ml : Nat) (rt : Option FieldType) (nm : String) (p : Program) (s : State) (m : MethodId) (meth : Method) (c : Code) (Z : State) (a0 : Array Value) : Prop :=
  p.tables.exec = Jvm.exec ∧ Z.Warmed39 s.vm ∧ (∀ d ∈ tables_1, d.before a0 Z = true) ∧ c.code = code ∧ c.maxLocals = ml ∧ s.vm.findClass cls = some m.cls ∧ meth.sig.returnType = rt ∧ meth.locks = false ∧ meth.name = nm
def own_Q (n0 : Nat) (h0 : Heap) (w : Option Value) (v : Option Value) (h : Heap) (L : List Loc) : Prop := v = w ∧ Fr n0 L ∧ h = h0
def own_QL (n0 : Nat) (w : Option Value) (v : Option Value) (h : Heap) (L : List Loc) : Prop := v = w ∧ Fr n0 L ∧ True
def own_QR (n0 : Nat) (h0 : Heap) (v : Option Value) (h : Heap) (L : List Loc) : Prop := ∃ b : Addr, v = some (.ref b) ∧ Fr n0 L ∧ Keep h0 h []
def own_Ends (p : Program) (e : Env) (below : List Frame) (s : State) (kc ks : Nat) (Q : Option Value → Heap → List Loc → Prop) (T : State) (g : JFrame) : Prop :=
  ∃ s₂ o, Steps p.tables e below (T.setTop g) s₂ ∧ s₂.status = .running ∧ Ended s₂ below o ∧ ∃ v L, o = .returned v ∧ Q v s₂.heap L ∧ FrameEnd s o s₂ L kc ks
theorem own_step {p : Program} {e : Env} {below : List Frame} {s : State} {kc ks : Nat} {Q : Option Value → Heap → List Loc → Prop} {T T' : State} {g g' : JFrame}
    (st : ∀ target, Steps p.tables e below (T'.setTop g') target → Steps p.tables e below (T.setTop g) target) (h : own_Ends p e below s kc ks Q T' g') : own_Ends p e below s kc ks Q T g := by
  obtain ⟨s₂, o, h1, r⟩ := h
  exact ⟨s₂, o, st _ h1, r⟩
theorem own_mono {p : Program} {e : Env} {below : List Frame} {s : State} {kc ks : Nat} {Q Q' : Option Value → Heap → List Loc → Prop} {T : State} {g : JFrame} (h : own_Ends p e below s kc ks Q T g) (hq : ∀ v h L, Q v h L → Q' v h L) : own_Ends p e below s kc ks Q' T g := by
  obtain ⟨s₂, o, h1, h2, h3, v, L, h4, h5, h6⟩ := h
  exact ⟨s₂, o, h1, h2, h3, v, L, h4, hq _ _ _ h5, h6⟩
theorem own_nn {v : Value} (h : v.isRef = true) (q : ¬ v = .null) : ∃ y, v = .ref y := (ref_cases h).resolve_left q
theorem own_eqR {Z : State} {args : Array Value} {X F : Term} {idx : List Nat} {y : Addr} (hF : F.eval args Z none idx Z = some (.ref y)) (h : (Cond.eq X F).value args Z none Z idx = some true) : X.eval args Z none idx Z = some (.ref y) := by
  obtain ⟨x, y', e1, e2, k1, k2⟩ := cmp_v (Or.inl h)
  cases hF.symm.trans e2
  have hx : x.isRef = true := k2.2
  have := gotT (eq_R e1 hF hx rfl) h
  exact e1.trans (congrArg some this)
theorem own_lmod (x y : Int64) : x - (x / y) * y = x % y := by
  apply Int64.toInt_inj.mp
  have h1 := Int64.le_toInt (x % y)
  have h2 := Int64.toInt_lt (x % y)
  rw [Int64.toInt_sub, Int64.toInt_mul, Int64.toInt_div, Int.bmod_mul_bmod, Int.sub_bmod_bmod, Int.mul_comm (x.toInt.tdiv y.toInt), ← Int.tmod_def, ← Int64.toInt_mod]
  exact Int.bmod_eq_of_le_mul_two (by omega) (by omega)
theorem own_lremM {p : Program} {l : Launch} {e : Env} {R : Room} {s : State} {m : MethodId} {args : Array Value} {below : List Frame} {meth : Method} {c : Code} {T target : State} {locs : List Loc} {cells slots : Nat} {g : JFrame} (X : Stand p l e R s m args below meth c T locs cells slots) (hx : p.tables.exec = Jvm.exec) (hg : g.method = m) {x y : Int64} {rest : List Value} (hd : decode c.code g.pc = .ok (.lrem, 1)) (hs : g.stack = .long y :: .long x :: rest) (hy : y ≠ 0)
    (hr : Steps p.tables e below (T.setTop { g with pc := g.pc + 1, stack := .long (x % y) :: rest }) target) : Steps p.tables e below (T.setTop g) target :=
  XS.lrem X.here hx hg hd hs hy (by rw [own_lmod]; exact hr)
section OwnRet
variable {p : Program} {l : Launch} {e : Env} {R : Room} {s : State} {m : MethodId} {args : Array Value} {below : List Frame} {meth : Method} {c : Code} {T : State} {locs : List Loc} {cells slots : Nat} {kc ks : Nat} {Q : Option Value → Heap → List Loc → Prop}
theorem own_retO (X : Stand p l e R s m args below meth c T locs cells slots) (hx : p.tables.exec = Jvm.exec) {t : FieldType} (hret : meth.sig.returnType = some t) (hlk : meth.locks = false) {pc : Nat} {Ls : Array Slot} {w : Value} {i : Instr} {rest : List Value} (hn : narrow t w = w)
    (hi : (i = .ireturn ∧ (t = .int ∨ t = .boolean ∨ t = .byte ∨ t = .char ∨ t = .short) ∧ ∃ z, w = .int z) ∨ (i = .lreturn ∧ t = .long ∧ ∃ z, w = .long z) ∨ (i = .dreturn ∧ t = .double ∧ ∃ z, w = .double z) ∨ (i = .freturn ∧ t = .float ∧ ∃ z, w = .float z) ∨ (i = .areturn ∧ t.isReference = true ∧ w.isRef = true))
    (hd : decode c.code pc = .ok (i, 1)) (hc : cells ≤ kc) (hs : slots ≤ ks) (hQ : Q (some w) T.heap locs) : own_Ends p e below s kc ks Q T (mkF m pc Ls (w :: rest)) := by
  obtain ⟨fs, hr, hrun, hended, hW, hsame⟩ := X.leave (v := some w) (fun h => by rw [hret] at h; cases h) hlk
  exact ⟨_, _, retOut X hx hret hn hi hd hr, hrun, hended, _, _, rfl, hQ, ⟨_, rfl⟩, hW, hsame.mono hc hs⟩
theorem own_retI (X : Stand p l e R s m args below meth c T locs cells slots) (hx : p.tables.exec = Jvm.exec) (hret : meth.sig.returnType = some .int) (hlk : meth.locks = false) {pc : Nat} {Ls : Array Slot} {z : Int32} {rest : List Value}
    (hd : decode c.code pc = .ok (.ireturn, 1)) (hc : cells ≤ kc) (hs : slots ≤ ks) (hQ : Q (some (.int z)) T.heap locs) : own_Ends p e below s kc ks Q T (mkF m pc Ls (.int z :: rest)) :=
  own_retO X hx hret hlk rfl (Or.inl ⟨rfl, Or.inl rfl, z, rfl⟩) hd hc hs hQ
theorem own_retJ (X : Stand p l e R s m args below meth c T locs cells slots) (hx : p.tables.exec = Jvm.exec) (hret : meth.sig.returnType = some .long) (hlk : meth.locks = false) {pc : Nat} {Ls : Array Slot} {z : Int64} {rest : List Value}
    (hd : decode c.code pc = .ok (.lreturn, 1)) (hc : cells ≤ kc) (hs : slots ≤ ks) (hQ : Q (some (.long z)) T.heap locs) : own_Ends p e below s kc ks Q T (mkF m pc Ls (.long z :: rest)) :=
  own_retO X hx hret hlk rfl (Or.inr (Or.inl ⟨rfl, rfl, z, rfl⟩)) hd hc hs hQ
theorem own_retR (X : Stand p l e R s m args below meth c T locs cells slots) (hx : p.tables.exec = Jvm.exec) {t : FieldType} (hret : meth.sig.returnType = some t) (hlk : meth.locks = false) {pc : Nat} {Ls : Array Slot} {w : Value} {rest : List Value}
    (hd : decode c.code pc = .ok (.areturn, 1)) (hc : cells ≤ kc) (hs : slots ≤ ks) (ht : t.isReference = true) (hw : w.isRef = true) (hQ : Q (some w) T.heap locs) : own_Ends p e below s kc ks Q T (mkF m pc Ls (w :: rest)) :=
  own_retO X hx hret hlk (by cases t <;> first | rfl | cases ht) (Or.inr (Or.inr (Or.inr (Or.inr ⟨rfl, ht, hw⟩)))) hd hc hs hQ
theorem own_retN (X : Stand p l e R s m args below meth c T locs cells slots) {t : FieldType} (hx : p.tables.exec = Jvm.exec) (hret : meth.sig.returnType = some t) (hlk : meth.locks = false) {pc : Nat} {Ls : Array Slot} {z : Int32} {rest : List Value}
    (hd : decode c.code pc = .ok (.ireturn, 1)) (hc : cells ≤ kc) (hs : slots ≤ ks) (ht : t = .boolean ∨ t = .byte ∨ t = .char ∨ t = .short) (hQ : Q (some (.int (nar t z))) T.heap locs) : own_Ends p e below s kc ks Q T (mkF m pc Ls (.int z :: rest)) := by
  obtain ⟨fs, hr, hrun, hended, hW, hsame⟩ := X.leave (v := some (.int (nar t z))) (fun h => by rw [hret] at h; cases h) hlk
  exact ⟨_, _, retN X hx hret ht hd hr, hrun, hended, _, _, rfl, hQ, ⟨_, rfl⟩, hW, hsame.mono hc hs⟩
theorem own_retV (X : Stand p l e R s m args below meth c T locs cells slots) (hx : p.tables.exec = Jvm.exec) (hret : meth.sig.returnType = none) (hlk : meth.locks = false) {pc : Nat} {Ls : Array Slot}
    (hd : decode c.code pc = .ok (.return_, 1)) (hc : cells ≤ kc) (hs : slots ≤ ks) (hQ : Q none T.heap locs) : own_Ends p e below s kc ks Q T (mkF m pc Ls []) := by
  obtain ⟨fs, hr, hrun, hended, hW, hsame⟩ := X.leave (v := none) (fun _ => rfl) hlk
  exact ⟨_, _, X.returnOut hx hret hd hr, hrun, hended, _, _, rfl, hQ, ⟨_, rfl⟩, hW, hsame.mono hc hs⟩
end OwnRet
/-! the same for a body that may load String constants (the wide frame) -/
def own_EndsW (p : Program) (e : Env) (below : List Frame) (s : State) (kc ks : Nat) (Q : Option Value → Heap → List Loc → Prop) (T : State) (g : JFrame) : Prop :=
  ∃ s₂ o, Steps p.tables e below (T.setTop g) s₂ ∧ s₂.status = .running ∧ Ended s₂ below o ∧ ∃ v L, o = .returned v ∧ Q v s₂.heap L ∧ ReturnedEndW s o s₂ L kc ks
theorem own_stepW {p : Program} {e : Env} {below : List Frame} {s : State} {kc ks : Nat} {Q : Option Value → Heap → List Loc → Prop} {T T' : State} {g g' : JFrame}
    (st : ∀ target, Steps p.tables e below (T'.setTop g') target → Steps p.tables e below (T.setTop g) target) (h : own_EndsW p e below s kc ks Q T' g') : own_EndsW p e below s kc ks Q T g := by
  obtain ⟨s₂, o, h1, r⟩ := h
  exact ⟨s₂, o, st _ h1, r⟩
section OwnRetW
variable {p : Program} {l : Launch} {e : Env} {R : Room} {s : State} {vm0 : Vm} {k0 : Nat} {m : MethodId} {args : Array Value} {below : List Frame} {meth : Method} {c : Code} {T : State} {locs : List Loc} {cells slots : Nat} {kc ks : Nat} {Q : Option Value → Heap → List Loc → Prop}
theorem own_retOW (X : Stand p l e R (s.setVm vm0) m args below meth c T locs cells slots) (hS : s.Since vm0 k0) (hk : k0 ≤ T.heap.size) (hx : p.tables.exec = Jvm.exec) {t : FieldType} (hret : meth.sig.returnType = some t) (hlk : meth.locks = false) {pc : Nat} {Ls : Array Slot} {w : Value} {i : Instr} {rest : List Value} (hn : narrow t w = w)
    (hi : (i = .ireturn ∧ (t = .int ∨ t = .boolean ∨ t = .byte ∨ t = .char ∨ t = .short) ∧ ∃ z, w = .int z) ∨ (i = .lreturn ∧ t = .long ∧ ∃ z, w = .long z) ∨ (i = .dreturn ∧ t = .double ∧ ∃ z, w = .double z) ∨ (i = .freturn ∧ t = .float ∧ ∃ z, w = .float z) ∨ (i = .areturn ∧ t.isReference = true ∧ w.isRef = true))
    (hd : decode c.code pc = .ok (i, 1)) (hc : cells ≤ kc) (hs : slots ≤ ks) (hQ : Q (some w) T.heap locs) : own_EndsW p e below s kc ks Q T (mkF m pc Ls (w :: rest)) := by
  obtain ⟨fs, hr, hrun, hended, e1, e2, e3, e4⟩ := X.leaveW hS hk (v := some w) (fun h => by rw [hret] at h; cases h) hlk
  exact ⟨_, _, retOut X hx hret hn hi hd hr, hrun, hended, _, _, rfl, hQ, e1, e2, e3, e4.mono hc hs⟩
theorem own_retRW (X : Stand p l e R (s.setVm vm0) m args below meth c T locs cells slots) (hS : s.Since vm0 k0) (hk : k0 ≤ T.heap.size) (hx : p.tables.exec = Jvm.exec) {t : FieldType} (hret : meth.sig.returnType = some t) (hlk : meth.locks = false) {pc : Nat} {Ls : Array Slot} {w : Value} {rest : List Value}
    (hd : decode c.code pc = .ok (.areturn, 1)) (hc : cells ≤ kc) (hs : slots ≤ ks) (ht : t.isReference = true) (hw : w.isRef = true) (hQ : Q (some w) T.heap locs) : own_EndsW p e below s kc ks Q T (mkF m pc Ls (w :: rest)) :=
  own_retOW X hS hk hx hret hlk (by cases t <;> first | rfl | cases ht) (Or.inr (Or.inr (Or.inr (Or.inr ⟨rfl, ht, hw⟩)))) hd hc hs hQ
theorem own_retNW (X : Stand p l e R (s.setVm vm0) m args below meth c T locs cells slots) (hS : s.Since vm0 k0) (hk : k0 ≤ T.heap.size) {t : FieldType} (hx : p.tables.exec = Jvm.exec) (hret : meth.sig.returnType = some t) (hlk : meth.locks = false) {pc : Nat} {Ls : Array Slot} {z : Int32} {rest : List Value}
    (hd : decode c.code pc = .ok (.ireturn, 1)) (hc : cells ≤ kc) (hs : slots ≤ ks) (ht : t = .boolean ∨ t = .byte ∨ t = .char ∨ t = .short) (hQ : Q (some (.int (nar t z))) T.heap locs) : own_EndsW p e below s kc ks Q T (mkF m pc Ls (.int z :: rest)) := by
  obtain ⟨fs, hr, hrun, hended, e1, e2, e3, e4⟩ := X.leaveW hS hk (v := some (.int (nar t z))) (fun h => by rw [hret] at h; cases h) hlk
  exact ⟨_, _, retN X hx hret ht hd hr, hrun, hended, _, _, rfl, hQ, e1, e2, e3, e4.mono hc hs⟩
end OwnRetW

theorem own_mask31 (x : Int32) : 0 ≤ (x &&& (2147483647 : Int32)).toInt ∧ (x &&& (2147483647 : Int32)).toInt < 2147483648 := by
  have h1 : (x &&& (2147483647 : Int32)).toBitVec.toNat = x.toBitVec.toNat % 2 ^ 31 := by
    show (x.toBitVec &&& (2147483647 : Int32).toBitVec).toNat = _
    rw [BitVec.toNat_and, show (2147483647 : Int32).toBitVec.toNat = 2 ^ 31 - 1 from by decide, Nat.and_two_pow_sub_one_eq_mod]
  have h3 : x.toBitVec.toNat % 2 ^ 31 < 2 ^ 31 := Nat.mod_lt _ (Nat.two_pow_pos 31)
  show 0 ≤ (x &&& (2147483647 : Int32)).toBitVec.toInt ∧ (x &&& (2147483647 : Int32)).toBitVec.toInt < 2147483648
  rw [BitVec.toInt_eq_toNat_cond, h1, if_pos (by omega)]
  constructor <;> omega
theorem own_n5 (i3 : Int32) (h1 : ¬ (((i3 &&& (2147483647 : Int32)) % (5 : Int32)) + (1 : Int32)) = (1 : Int32)) (h2 : ¬ (((i3 &&& (2147483647 : Int32)) % (5 : Int32)) + (1 : Int32)) = (2 : Int32)) (h3 : ¬ (((i3 &&& (2147483647 : Int32)) % (5 : Int32)) + (1 : Int32)) = (3 : Int32)) (h4 : ¬ (((i3 &&& (2147483647 : Int32)) % (5 : Int32)) + (1 : Int32)) = (4 : Int32)) : (((i3 &&& (2147483647 : Int32)) % (5 : Int32)) + (1 : Int32)) = (5 : Int32) := by
  have h := own_mask31 i3
  have e5 : (5 : Int32).toInt = 5 := rfl
  have hm : ((i3 &&& (2147483647 : Int32)) % (5 : Int32)).toInt = (i3 &&& (2147483647 : Int32)).toInt % 5 := by rw [Int32.toInt_mod, Int.tmod_eq_emod_of_nonneg h.1, e5]
  have g0 := Int.emod_nonneg (i3 &&& (2147483647 : Int32)).toInt (show (5 : Int) ≠ 0 by decide)
  have g1 := Int.emod_lt_of_pos (i3 &&& (2147483647 : Int32)).toInt (show (0 : Int) < 5 by decide)
  have ha : (((i3 &&& (2147483647 : Int32)) % (5 : Int32)) + (1 : Int32)).toInt = (i3 &&& (2147483647 : Int32)).toInt % 5 + 1 := by
    rw [Int32.toInt_add, hm, show (1 : Int32).toInt = 1 from rfl]; exact Int.bmod_eq_of_le (by simp; omega) (by simp; omega)
  simp only [← Int32.toInt_inj, ha, e5, show (1 : Int32).toInt = 1 from rfl, show (2 : Int32).toInt = 2 from rfl, show (3 : Int32).toInt = 3 from rfl, show (4 : Int32).toInt = 4 from rfl] at *
  omega
theorem own_m63 (x : Int32) : ∃ n : Fin 64, (x &&& (63 : Int32)) = Int32.ofNat n.val := by
  refine ⟨⟨(x &&& 63).toBitVec.toNat, ?_⟩, ?_⟩
  · simp only [Int32.toBitVec_and, BitVec.toNat_and]
    exact Nat.lt_succ_of_le Nat.and_le_right
  · apply Int32.toBitVec_inj.mp
    show _ = BitVec.ofNat 32 _
    rw [BitVec.ofNat_toNat]; simp
set_option maxRecDepth 100000 in
theorem own_nan1 : ∀ n : Fin 64, (FP.ddiv (FP.i2d (Int32.ofNat n.val - (21 : Int32))) (4611686018427387904 : UInt64)) &&& 0x7fffffffffffffff ≤ 0x7ff0000000000000 := by decide +kernel
theorem own_nan (x : Int32) : Jvm.Free.Fl.NoNaN64 (FP.ddiv (FP.i2d ((x &&& (63 : Int32)) - (21 : Int32))) (4611686018427387904 : UInt64)) := by
  obtain ⟨n, hn⟩ := own_m63 x
  rw [hn]; exact own_nan1 n

theorem pn_0 : plainName "com/example/graded_queue/gradedqueue/sim/CumulativeFirstAbovePinLaw" = true := by first | (simp [plainName, overriddenIn]; done) | decide +kernel
theorem pn_1 : plainName "com/example/graded_queue/gradedqueue/sim/Cumulative" = true := by first | (simp [plainName, overriddenIn]; done) | decide +kernel
theorem pd_0 : parseMethodDescriptor "(ZID)I" = some ⟨[.boolean, .int, .double], some .int⟩ := by decide +kernel
theorem pd_1 : parseMethodDescriptor "([DD)I" = some ⟨[(.array .double), .double], some .int⟩ := by decide +kernel
theorem d1_0 : decode method_2_code 0 = .ok (.iload_n 0, 1) := by decide +kernel
theorem d1_1 : decode method_2_code 1 = .ok (.ifCond .eq 12, 3) := by decide +kernel
theorem d1_4 : decode method_2_code 4 = .ok (.iload_n 1, 1) := by decide +kernel
theorem d1_5 : decode method_2_code 5 = .ok (.i2d, 1) := by decide +kernel
theorem d1_6 : decode method_2_code 6 = .ok (.dload_n 2, 1) := by decide +kernel
theorem d1_7 : decode method_2_code 7 = .ok (.dcmp .g, 1) := by decide +kernel
theorem d1_8 : decode method_2_code 8 = .ok (.ifCond .gt 5, 3) := by decide +kernel
theorem d1_11 : decode method_2_code 11 = .ok (.iconst 1, 1) := by decide +kernel
theorem d1_12 : decode method_2_code 12 = .ok (.ireturn, 1) := by decide +kernel
theorem d1_13 : decode method_2_code 13 = .ok (.iconst 0, 1) := by decide +kernel
theorem d1_14 : decode method_2_code 14 = .ok (.ireturn, 1) := by decide +kernel
def f1_0 (i0 : Int32) (i1 : Int32) (d2 : UInt64) : Int32 := (if i0 = (0 : Int32) then (0 : Int32) else (if (0 : Int32) < (cmpValue (FP.dcmp (FP.i2d i1) d2) .g) then (0 : Int32) else (1 : Int32)))
set_option maxRecDepth 65536 in
set_option maxHeartbeats 40000000 in
theorem b1_0 {p : Program} {l : Launch} {e : Env} {s : State} {m : MethodId} {args : Array Value} {below : List Frame} {meth : Method} {c : Code} {Z : State} {a0 : Array Value} {h0 : Heap} {n0 : Nat} (C : own_C "com/example/graded_queue/gradedqueue/sim/CumulativeFirstAbovePinLaw" method_2_code 4 (some .int) "le" p s m meth c Z a0) (Z0 : n0 ≤ h0.size) {T0 : State} {locs : List Loc} (X0 : Stand p l e ({ frames := 0, cells := 0, slots := 0, locals := 0 } : Room) s m args below meth c T0 locs 0 0) (e0 : T0.heap = h0) (N0 : Fr n0 locs) (i0 : Int32) (i1 : Int32) (d2 : UInt64) (W : Int32) (hv : W = f1_0 i0 i1 d2) :
    own_Ends p e below s ({ frames := 0, cells := 0, slots := 0, locals := 0 } : Room).cells ({ frames := 0, cells := 0, slots := 0, locals := 0 } : Room).slots (own_Q n0 h0 (some (.int W))) T0 (mkF m 0 #[.val (.int i0), .val (.int i1), .val (.double d2), .second] []) := by
  obtain ⟨hx, hZ, hw, hby, hml, hown, hret, hlk, hnm⟩ := C
  have C : own_C "com/example/graded_queue/gradedqueue/sim/CumulativeFirstAbovePinLaw" method_2_code 4 (some .int) "le" p s m meth c Z a0 := ⟨hx, hZ, hw, hby, hml, hown, hret, hlk, hnm⟩
  unfold f1_0 at hv
  refine own_step (fun _ => XS.iloadN X0.here hx rfl (hb hby d1_0) rfl) ?_
  show own_Ends p e below s _ _ _ T0 (mkF m 1 #[.val (.int i0), .val (.int i1), .val (.double d2), .second] [(.int i0)])
  by_cases hc1 : i0 = (0 : Int32)
  · have hv_t := hv.trans (if_pos hc1)
    refine own_step (fun _ => XS.ifYes X0.here hx rfl (pc0 := 1) (pc' := 13) rfl (hb hby d1_1) rfl ((if0 _ _).trans (teq hc1).1) (by decide) (by decide)) ?_
    show own_Ends p e below s _ _ _ T0 (mkF m 13 #[.val (.int i0), .val (.int i1), .val (.double d2), .second] [])
    refine own_step (fun _ => XS.iconst X0.here hx rfl (hb hby d1_13)) ?_
    show own_Ends p e below s _ _ _ T0 (mkF m 14 #[.val (.int i0), .val (.int i1), .val (.double d2), .second] [(.int (0 : Int32))])
    exact own_retI X0 hx hret hlk (hb hby d1_14) (by decide) (by decide) ⟨congrArg (fun z => some (Value.int z)) hv_t.symm, N0, e0⟩
  · have hv_f := hv.trans (if_neg hc1)
    refine own_step (fun _ => XS.ifNo X0.here hx rfl (hb hby d1_1) rfl ((if0 _ _).trans (feq hc1).1)) ?_
    show own_Ends p e below s _ _ _ T0 (mkF m 4 #[.val (.int i0), .val (.int i1), .val (.double d2), .second] [])
    refine own_step (fun _ => XS.iloadN X0.here hx rfl (hb hby d1_4) rfl) ?_
    show own_Ends p e below s _ _ _ T0 (mkF m 5 #[.val (.int i0), .val (.int i1), .val (.double d2), .second] [(.int i1)])
    refine own_step (fun _ => XS.i2dS X0.here hx rfl (hb hby d1_5) rfl rfl) ?_
    show own_Ends p e below s _ _ _ T0 (mkF m 6 #[.val (.int i0), .val (.int i1), .val (.double d2), .second] [(.double (FP.i2d i1))])
    refine own_step (fun _ => XS.dloadN X0.here hx rfl (hb hby d1_6) rfl) ?_
    show own_Ends p e below s _ _ _ T0 (mkF m 7 #[.val (.int i0), .val (.int i1), .val (.double d2), .second] [(.double d2), (.double (FP.i2d i1))])
    refine own_step (fun _ => XS.dcmpS X0.here hx rfl (hb hby d1_7) rfl rfl) ?_
    show own_Ends p e below s _ _ _ T0 (mkF m 8 #[.val (.int i0), .val (.int i1), .val (.double d2), .second] [(.int (cmpValue (FP.dcmp (FP.i2d i1) d2) .g))])
    by_cases hc8 : (0 : Int32) < (cmpValue (FP.dcmp (FP.i2d i1) d2) .g)
    · have hv_f_t := hv_f.trans (if_pos hc8)
      refine own_step (fun _ => XS.ifYes X0.here hx rfl (pc0 := 8) (pc' := 13) rfl (hb hby d1_8) rfl ((if0 _ _).trans (tlt hc8).2.2.1) (by decide) (by decide)) ?_
      show own_Ends p e below s _ _ _ T0 (mkF m 13 #[.val (.int i0), .val (.int i1), .val (.double d2), .second] [])
      refine own_step (fun _ => XS.iconst X0.here hx rfl (hb hby d1_13)) ?_
      show own_Ends p e below s _ _ _ T0 (mkF m 14 #[.val (.int i0), .val (.int i1), .val (.double d2), .second] [(.int (0 : Int32))])
      exact own_retI X0 hx hret hlk (hb hby d1_14) (by decide) (by decide) ⟨congrArg (fun z => some (Value.int z)) hv_f_t.symm, N0, e0⟩
    · have hv_f_f := hv_f.trans (if_neg hc8)
      refine own_step (fun _ => XS.ifNo X0.here hx rfl (hb hby d1_8) rfl ((if0 _ _).trans (flt hc8).2.2.1)) ?_
      show own_Ends p e below s _ _ _ T0 (mkF m 11 #[.val (.int i0), .val (.int i1), .val (.double d2), .second] [])
      refine own_step (fun _ => XS.iconst X0.here hx rfl (hb hby d1_11)) ?_
      show own_Ends p e below s _ _ _ T0 (mkF m 12 #[.val (.int i0), .val (.int i1), .val (.double d2), .second] [(.int (1 : Int32))])
      exact own_retI X0 hx hret hlk (hb hby d1_12) (by decide) (by decide) ⟨congrArg (fun z => some (Value.int z)) hv_f_f.symm, N0, e0⟩
theorem ef_rm1 (m : MethodId) (i0 : Int32) (i1 : Int32) (d2 : UInt64) : entryFrame m #[(.int i0), (.int i1), (.double d2)] 4 = mkF m 0 #[.val (.int i0), .val (.int i1), .val (.double d2), .second] [] := by first | (simp [entryFrame, mkF, argsToLocals, Value.category]; done) | rfl
set_option maxRecDepth 65536 in
set_option maxHeartbeats 40000000 in
theorem rm1 (l : Launch) (Z : State) (a0 : Array Value) (hw : ∀ d ∈ tables_1, d.before a0 Z = true) (ws : List Jvm.Cond) (i0 : Int32) (i1 : Int32) (d2 : UInt64) (h0 : Heap) (n0 : Nat) (Z0 : n0 ≤ h0.size) :
    MetFree l (⟨"com/example/graded_queue/gradedqueue/sim/CumulativeFirstAbovePinLaw", "le", "(ZID)I"⟩ : MethodName) (head1 (Jvm.Cond.code (⟨"com/example/graded_queue/gradedqueue/sim/CumulativeFirstAbovePinLaw", "le", "(ZID)I"⟩ : MethodName) method_2_code 4 (some .int) :: ws) ({ frames := 0, cells := 0, slots := 0, locals := 0 } : Room)) (fun a U => a = #[(.int i0), (.int i1), (.double d2)] ∧ Z.Warmed39 U.vm ∧ U.heap = h0) (fun _ _ _ _ _ => True) (fun _ U o U' => ∃ v L, o = .returned v ∧ (own_Q n0 h0 (some (.int (f1_0 i0 i1 d2)))) v U'.heap L ∧ FrameEnd U o U' L ({ frames := 0, cells := 0, slots := 0, locals := 0 } : Room).cells ({ frames := 0, cells := 0, slots := 0, locals := 0 } : Room).slots) := by
  refine MetFree.of_bodySF (plainFor_of_name pn_0) hisR ?_
  intro p e s m args below meth c s₁ Bd hml0 hP hK
  obtain ⟨rfl, hZ, hh⟩ := hP
  have X0 : Stand p l e ({ frames := 0, cells := 0, slots := 0, locals := 0 } : Room) s m #[(.int i0), (.int i1), (.double d2)] below meth c s₁ [] 0 0 := Stand.of_body Bd
  have e0 : s₁.heap = h0 := by rw [← hh, Bd.state]; rfl
  have C : own_C "com/example/graded_queue/gradedqueue/sim/CumulativeFirstAbovePinLaw" method_2_code 4 (some .int) "le" p s m meth c Z a0 := ⟨Bd.exec, hZ, hw, Bd.bytes, hml0, findClass_of_methodNamed Bd.named, Bd.returns, Bd.notSynchronized, (name_of_methodNamed Bd.named Bd.method).1⟩
  have r := b1_0 C Z0 X0 e0 (Fr.nil n0) i0 i1 d2 _ rfl
  rw [ef_rm1 m i0 i1 d2]
  exact r
theorem d2_0 : decode prog_56_method_2_code 0 = .ok (.iconst 0, 1) := by decide +kernel
theorem d2_1 : decode prog_56_method_2_code 1 = .ok (.istore_n 3, 1) := by decide +kernel
theorem d2_2 : decode prog_56_method_2_code 2 = .ok (.aload_n 0, 1) := by decide +kernel
theorem d2_3 : decode prog_56_method_2_code 3 = .ok (.arraylength, 1) := by decide +kernel
theorem d2_4 : decode prog_56_method_2_code 4 = .ok (.iconst 1, 1) := by decide +kernel
theorem d2_5 : decode prog_56_method_2_code 5 = .ok (.isub, 1) := by decide +kernel
theorem d2_6 : decode prog_56_method_2_code 6 = .ok (.istore 4, 2) := by decide +kernel
theorem d2_8 : decode prog_56_method_2_code 8 = .ok (.iload_n 3, 1) := by decide +kernel
theorem d2_9 : decode prog_56_method_2_code 9 = .ok (.iload 4, 2) := by decide +kernel
theorem d2_11 : decode prog_56_method_2_code 11 = .ok (.if_icmp .ge 35, 3) := by decide +kernel
theorem d2_46 : decode prog_56_method_2_code 46 = .ok (.iload_n 3, 1) := by decide +kernel
theorem d2_47 : decode prog_56_method_2_code 47 = .ok (.ireturn, 1) := by decide +kernel
def f2a_0 (d1 : UInt64) (t0 : UInt64) : Int32 := (0 : Int32)
set_option maxRecDepth 65536 in
set_option maxHeartbeats 40000000 in
theorem b2a_0 {p : Program} {l : Launch} {e : Env} {s : State} {m : MethodId} {args : Array Value} {below : List Frame} {meth : Method} {c : Code} {Z : State} {a0 : Array Value} {h0 : Heap} {n0 : Nat} (C : own_C "com/example/graded_queue/gradedqueue/sim/Cumulative" prog_56_method_2_code 6 (some .int) "firstAbove" p s m meth c Z a0) (Z0 : n0 ≤ h0.size) {T0 : State} {locs : List Loc} (X0 : Stand p l e ({ frames := 0, cells := 0, slots := 0, locals := 0 } : Room) s m args below meth c T0 locs 0 0) (e0 : T0.heap = h0) (N0 : Fr n0 locs) (o0 : Addr) (d1 : UInt64) (kt : ClassId) (t0 : UInt64) (Vt : Arv Z h0 o0 kt .double (1 : Int32) [(.double t0)] (.double 0)) (W : Int32) (hv : W = f2a_0 d1 t0) :
    own_Ends p e below s ({ frames := 0, cells := 0, slots := 0, locals := 0 } : Room).cells ({ frames := 0, cells := 0, slots := 0, locals := 0 } : Room).slots (own_Q n0 h0 (some (.int W))) T0 (mkF m 0 #[.val (.ref o0), .val (.double d1), .second, .unset, .unset, .unset] []) := by
  obtain ⟨hx, hZ, hw, hby, hml, hown, hret, hlk, hnm⟩ := C
  have C : own_C "com/example/graded_queue/gradedqueue/sim/Cumulative" prog_56_method_2_code 6 (some .int) "firstAbove" p s m meth c Z a0 := ⟨hx, hZ, hw, hby, hml, hown, hret, hlk, hnm⟩
  unfold f2a_0 at hv
  refine own_step (fun _ => XS.iconst X0.here hx rfl (hb hby d2_0)) ?_
  show own_Ends p e below s _ _ _ T0 (mkF m 1 #[.val (.ref o0), .val (.double d1), .second, .unset, .unset, .unset] [(.int (0 : Int32))])
  refine own_step (fun _ => XS.istoreN X0.here hx rfl (hb hby d2_1) rfl (l' := #[.val (.ref o0), .val (.double d1), .second, .val (.int (0 : Int32)), .unset, .unset]) rfl) ?_
  show own_Ends p e below s _ _ _ T0 (mkF m 2 #[.val (.ref o0), .val (.double d1), .second, .val (.int (0 : Int32)), .unset, .unset] [])
  refine own_step (fun _ => XS.aloadN X0.here hx rfl (hb hby d2_2) rfl rfl) ?_
  show own_Ends p e below s _ _ _ T0 (mkF m 3 #[.val (.ref o0), .val (.double d1), .second, .val (.int (0 : Int32)), .unset, .unset] [(.ref o0)])
  obtain ⟨cl2, Ar2, q2, S2, N2_, H2, G2⟩ := id Vt
  refine own_step (fun _ => X0.arraylength hx (by rw [e0]; exact Ar2.1) (State.isArrayOf_alike hZ.alike Ar2.2.1) (g := (mkF m 3 #[.val (.ref o0), .val (.double d1), .second, .val (.int (0 : Int32)), .unset, .unset] [(.ref o0)])) rfl rfl (hb hby d2_3) _) ?_
  rw [len_of S2 N2_]
  show own_Ends p e below s _ _ _ T0 (mkF m 4 #[.val (.ref o0), .val (.double d1), .second, .val (.int (0 : Int32)), .unset, .unset] [(.int (1 : Int32))])
  refine own_step (fun _ => XS.iconst X0.here hx rfl (hb hby d2_4)) ?_
  show own_Ends p e below s _ _ _ T0 (mkF m 5 #[.val (.ref o0), .val (.double d1), .second, .val (.int (0 : Int32)), .unset, .unset] [(.int (1 : Int32)), (.int (1 : Int32))])
  refine own_step (fun _ => XS.isub X0.here hx rfl (hb hby d2_5) rfl) ?_
  show own_Ends p e below s _ _ _ T0 (mkF m 6 #[.val (.ref o0), .val (.double d1), .second, .val (.int (0 : Int32)), .unset, .unset] [(.int (0 : Int32))])
  refine own_step (fun _ => XS.istore X0.here hx rfl (hb hby d2_6) rfl (l' := #[.val (.ref o0), .val (.double d1), .second, .val (.int (0 : Int32)), .val (.int (0 : Int32)), .unset]) rfl) ?_
  show own_Ends p e below s _ _ _ T0 (mkF m 8 #[.val (.ref o0), .val (.double d1), .second, .val (.int (0 : Int32)), .val (.int (0 : Int32)), .unset] [])
  refine own_step (fun _ => XS.iloadN X0.here hx rfl (hb hby d2_8) rfl) ?_
  show own_Ends p e below s _ _ _ T0 (mkF m 9 #[.val (.ref o0), .val (.double d1), .second, .val (.int (0 : Int32)), .val (.int (0 : Int32)), .unset] [(.int (0 : Int32))])
  refine own_step (fun _ => XS.iload X0.here hx rfl (hb hby d2_9) rfl) ?_
  show own_Ends p e below s _ _ _ T0 (mkF m 11 #[.val (.ref o0), .val (.double d1), .second, .val (.int (0 : Int32)), .val (.int (0 : Int32)), .unset] [(.int (0 : Int32)), (.int (0 : Int32))])
  refine own_step (fun _ => XS.icmpYes X0.here hx rfl (pc0 := 11) (pc' := 46) rfl (hb hby d2_11) rfl (flt (show ¬ ((0 : Int32) < (0 : Int32)) from (by decide))).2.1 (by decide) (by decide)) ?_
  show own_Ends p e below s _ _ _ T0 (mkF m 46 #[.val (.ref o0), .val (.double d1), .second, .val (.int (0 : Int32)), .val (.int (0 : Int32)), .unset] [])
  refine own_step (fun _ => XS.iloadN X0.here hx rfl (hb hby d2_46) rfl) ?_
  show own_Ends p e below s _ _ _ T0 (mkF m 47 #[.val (.ref o0), .val (.double d1), .second, .val (.int (0 : Int32)), .val (.int (0 : Int32)), .unset] [(.int (0 : Int32))])
  exact own_retI X0 hx hret hlk (hb hby d2_47) (by decide) (by decide) ⟨congrArg (fun z => some (Value.int z)) hv.symm, N0, e0⟩
theorem ef_rm2_1 (m : MethodId) (o0 : Addr) (d1 : UInt64) : entryFrame m #[(.ref o0), (.double d1)] 6 = mkF m 0 #[.val (.ref o0), .val (.double d1), .second, .unset, .unset, .unset] [] := by first | (simp [entryFrame, mkF, argsToLocals, Value.category]; done) | rfl
set_option maxRecDepth 65536 in
set_option maxHeartbeats 40000000 in
theorem rm2_1 (l : Launch) (Z : State) (a0 : Array Value) (hw : ∀ d ∈ tables_1, d.before a0 Z = true) (ws : List Jvm.Cond) (o0 : Addr) (d1 : UInt64) (kt : ClassId) (t0 : UInt64) (h0 : Heap) (n0 : Nat) (Z0 : n0 ≤ h0.size) (Vt : Arv Z h0 o0 kt .double (1 : Int32) [(.double t0)] (.double 0)) :
    MetFree l (⟨"com/example/graded_queue/gradedqueue/sim/Cumulative", "firstAbove", "([DD)I"⟩ : MethodName) (head1 (Jvm.Cond.code (⟨"com/example/graded_queue/gradedqueue/sim/Cumulative", "firstAbove", "([DD)I"⟩ : MethodName) prog_56_method_2_code 6 (some .int) :: ws) ({ frames := 0, cells := 0, slots := 0, locals := 0 } : Room)) (fun a U => a = #[(.ref o0), (.double d1)] ∧ Z.Warmed39 U.vm ∧ U.heap = h0) (fun _ _ _ _ _ => True) (fun _ U o U' => ∃ v L, o = .returned v ∧ (own_Q n0 h0 (some (.int (f2a_0 d1 t0)))) v U'.heap L ∧ FrameEnd U o U' L ({ frames := 0, cells := 0, slots := 0, locals := 0 } : Room).cells ({ frames := 0, cells := 0, slots := 0, locals := 0 } : Room).slots) := by
  refine MetFree.of_bodySF (plainFor_of_name pn_1) hisR ?_
  intro p e s m args below meth c s₁ Bd hml0 hP hK
  obtain ⟨rfl, hZ, hh⟩ := hP
  have X0 : Stand p l e ({ frames := 0, cells := 0, slots := 0, locals := 0 } : Room) s m #[(.ref o0), (.double d1)] below meth c s₁ [] 0 0 := Stand.of_body Bd
  have e0 : s₁.heap = h0 := by rw [← hh, Bd.state]; rfl
  have C : own_C "com/example/graded_queue/gradedqueue/sim/Cumulative" prog_56_method_2_code 6 (some .int) "firstAbove" p s m meth c Z a0 := ⟨Bd.exec, hZ, hw, Bd.bytes, hml0, findClass_of_methodNamed Bd.named, Bd.returns, Bd.notSynchronized, (name_of_methodNamed Bd.named Bd.method).1⟩
  have r := b2a_0 C Z0 X0 e0 (Fr.nil n0) o0 d1 kt t0 Vt _ rfl
  rw [ef_rm2_1 m o0 d1]
  exact r
theorem d2_14 : decode prog_56_method_2_code 14 = .ok (.iload_n 3, 1) := by decide +kernel
theorem d2_15 : decode prog_56_method_2_code 15 = .ok (.iload 4, 2) := by decide +kernel
theorem d2_17 : decode prog_56_method_2_code 17 = .ok (.iadd, 1) := by decide +kernel
theorem d2_18 : decode prog_56_method_2_code 18 = .ok (.iconst 1, 1) := by decide +kernel
theorem d2_19 : decode prog_56_method_2_code 19 = .ok (.iushr, 1) := by decide +kernel
theorem d2_20 : decode prog_56_method_2_code 20 = .ok (.istore 5, 2) := by decide +kernel
theorem d2_22 : decode prog_56_method_2_code 22 = .ok (.aload_n 0, 1) := by decide +kernel
theorem d2_23 : decode prog_56_method_2_code 23 = .ok (.iload 5, 2) := by decide +kernel
theorem d2_25 : decode prog_56_method_2_code 25 = .ok (.daload, 1) := by decide +kernel
theorem d2_26 : decode prog_56_method_2_code 26 = .ok (.dload_n 1, 1) := by decide +kernel
theorem d2_27 : decode prog_56_method_2_code 27 = .ok (.dcmp .l, 1) := by decide +kernel
theorem d2_28 : decode prog_56_method_2_code 28 = .ok (.ifCond .le 10, 3) := by decide +kernel
theorem d2_31 : decode prog_56_method_2_code 31 = .ok (.iload 5, 2) := by decide +kernel
theorem d2_33 : decode prog_56_method_2_code 33 = .ok (.istore 4, 2) := by decide +kernel
theorem d2_35 : decode prog_56_method_2_code 35 = .ok (.goto 8, 3) := by decide +kernel
theorem d2_38 : decode prog_56_method_2_code 38 = .ok (.iload 5, 2) := by decide +kernel
theorem d2_40 : decode prog_56_method_2_code 40 = .ok (.iconst 1, 1) := by decide +kernel
theorem d2_41 : decode prog_56_method_2_code 41 = .ok (.iadd, 1) := by decide +kernel
theorem d2_42 : decode prog_56_method_2_code 42 = .ok (.istore_n 3, 1) := by decide +kernel
theorem d2_43 : decode prog_56_method_2_code 43 = .ok (.goto (-35), 3) := by decide +kernel
def f2b_0 (d1 : UInt64) (t0 : UInt64) (t1 : UInt64) : Int32 := (if (0 : Int32) < (cmpValue (FP.dcmp t0 d1) .l) then (0 : Int32) else (1 : Int32))
set_option maxRecDepth 65536 in
set_option maxHeartbeats 40000000 in
theorem b2b_0 {p : Program} {l : Launch} {e : Env} {s : State} {m : MethodId} {args : Array Value} {below : List Frame} {meth : Method} {c : Code} {Z : State} {a0 : Array Value} {h0 : Heap} {n0 : Nat} (C : own_C "com/example/graded_queue/gradedqueue/sim/Cumulative" prog_56_method_2_code 6 (some .int) "firstAbove" p s m meth c Z a0) (Z0 : n0 ≤ h0.size) {T0 : State} {locs : List Loc} (X0 : Stand p l e ({ frames := 0, cells := 0, slots := 0, locals := 0 } : Room) s m args below meth c T0 locs 0 0) (e0 : T0.heap = h0) (N0 : Fr n0 locs) (o0 : Addr) (d1 : UInt64) (kt : ClassId) (t0 : UInt64) (t1 : UInt64) (Vt : Arv Z h0 o0 kt .double (2 : Int32) [(.double t0), (.double t1)] (.double 0)) (W : Int32) (hv : W = f2b_0 d1 t0 t1) :
    own_Ends p e below s ({ frames := 0, cells := 0, slots := 0, locals := 0 } : Room).cells ({ frames := 0, cells := 0, slots := 0, locals := 0 } : Room).slots (own_Q n0 h0 (some (.int W))) T0 (mkF m 0 #[.val (.ref o0), .val (.double d1), .second, .unset, .unset, .unset] []) := by
  obtain ⟨hx, hZ, hw, hby, hml, hown, hret, hlk, hnm⟩ := C
  have C : own_C "com/example/graded_queue/gradedqueue/sim/Cumulative" prog_56_method_2_code 6 (some .int) "firstAbove" p s m meth c Z a0 := ⟨hx, hZ, hw, hby, hml, hown, hret, hlk, hnm⟩
  unfold f2b_0 at hv
  refine own_step (fun _ => XS.iconst X0.here hx rfl (hb hby d2_0)) ?_
  show own_Ends p e below s _ _ _ T0 (mkF m 1 #[.val (.ref o0), .val (.double d1), .second, .unset, .unset, .unset] [(.int (0 : Int32))])
  refine own_step (fun _ => XS.istoreN X0.here hx rfl (hb hby d2_1) rfl (l' := #[.val (.ref o0), .val (.double d1), .second, .val (.int (0 : Int32)), .unset, .unset]) rfl) ?_
  show own_Ends p e below s _ _ _ T0 (mkF m 2 #[.val (.ref o0), .val (.double d1), .second, .val (.int (0 : Int32)), .unset, .unset] [])
  refine own_step (fun _ => XS.aloadN X0.here hx rfl (hb hby d2_2) rfl rfl) ?_
  show own_Ends p e below s _ _ _ T0 (mkF m 3 #[.val (.ref o0), .val (.double d1), .second, .val (.int (0 : Int32)), .unset, .unset] [(.ref o0)])
  obtain ⟨cl3, Ar3, q3, S3, N3_, H3, G3⟩ := id Vt
  refine own_step (fun _ => X0.arraylength hx (by rw [e0]; exact Ar3.1) (State.isArrayOf_alike hZ.alike Ar3.2.1) (g := (mkF m 3 #[.val (.ref o0), .val (.double d1), .second, .val (.int (0 : Int32)), .unset, .unset] [(.ref o0)])) rfl rfl (hb hby d2_3) _) ?_
  rw [len_of S3 N3_]
  show own_Ends p e below s _ _ _ T0 (mkF m 4 #[.val (.ref o0), .val (.double d1), .second, .val (.int (0 : Int32)), .unset, .unset] [(.int (2 : Int32))])
  refine own_step (fun _ => XS.iconst X0.here hx rfl (hb hby d2_4)) ?_
  show own_Ends p e below s _ _ _ T0 (mkF m 5 #[.val (.ref o0), .val (.double d1), .second, .val (.int (0 : Int32)), .unset, .unset] [(.int (1 : Int32)), (.int (2 : Int32))])
  refine own_step (fun _ => XS.isub X0.here hx rfl (hb hby d2_5) rfl) ?_
  show own_Ends p e below s _ _ _ T0 (mkF m 6 #[.val (.ref o0), .val (.double d1), .second, .val (.int (0 : Int32)), .unset, .unset] [(.int (1 : Int32))])
  refine own_step (fun _ => XS.istore X0.here hx rfl (hb hby d2_6) rfl (l' := #[.val (.ref o0), .val (.double d1), .second, .val (.int (0 : Int32)), .val (.int (1 : Int32)), .unset]) rfl) ?_
  show own_Ends p e below s _ _ _ T0 (mkF m 8 #[.val (.ref o0), .val (.double d1), .second, .val (.int (0 : Int32)), .val (.int (1 : Int32)), .unset] [])
  refine own_step (fun _ => XS.iloadN X0.here hx rfl (hb hby d2_8) rfl) ?_
  show own_Ends p e below s _ _ _ T0 (mkF m 9 #[.val (.ref o0), .val (.double d1), .second, .val (.int (0 : Int32)), .val (.int (1 : Int32)), .unset] [(.int (0 : Int32))])
  refine own_step (fun _ => XS.iload X0.here hx rfl (hb hby d2_9) rfl) ?_
  show own_Ends p e below s _ _ _ T0 (mkF m 11 #[.val (.ref o0), .val (.double d1), .second, .val (.int (0 : Int32)), .val (.int (1 : Int32)), .unset] [(.int (1 : Int32)), (.int (0 : Int32))])
  refine own_step (fun _ => XS.icmpNo X0.here hx rfl (hb hby d2_11) rfl (tlt (show (0 : Int32) < (1 : Int32) from (by decide))).2.1) ?_
  show own_Ends p e below s _ _ _ T0 (mkF m 14 #[.val (.ref o0), .val (.double d1), .second, .val (.int (0 : Int32)), .val (.int (1 : Int32)), .unset] [])
  refine own_step (fun _ => XS.iloadN X0.here hx rfl (hb hby d2_14) rfl) ?_
  show own_Ends p e below s _ _ _ T0 (mkF m 15 #[.val (.ref o0), .val (.double d1), .second, .val (.int (0 : Int32)), .val (.int (1 : Int32)), .unset] [(.int (0 : Int32))])
  refine own_step (fun _ => XS.iload X0.here hx rfl (hb hby d2_15) rfl) ?_
  show own_Ends p e below s _ _ _ T0 (mkF m 17 #[.val (.ref o0), .val (.double d1), .second, .val (.int (0 : Int32)), .val (.int (1 : Int32)), .unset] [(.int (1 : Int32)), (.int (0 : Int32))])
  refine own_step (fun _ => XS.iadd X0.here hx rfl (hb hby d2_17) rfl) ?_
  show own_Ends p e below s _ _ _ T0 (mkF m 18 #[.val (.ref o0), .val (.double d1), .second, .val (.int (0 : Int32)), .val (.int (1 : Int32)), .unset] [(.int (1 : Int32))])
  refine own_step (fun _ => XS.iconst X0.here hx rfl (hb hby d2_18)) ?_
  show own_Ends p e below s _ _ _ T0 (mkF m 19 #[.val (.ref o0), .val (.double d1), .second, .val (.int (0 : Int32)), .val (.int (1 : Int32)), .unset] [(.int (1 : Int32)), (.int (1 : Int32))])
  refine own_step (fun _ => XS.iushr X0.here hx rfl (hb hby d2_19) rfl) ?_
  show own_Ends p e below s _ _ _ T0 (mkF m 20 #[.val (.ref o0), .val (.double d1), .second, .val (.int (0 : Int32)), .val (.int (1 : Int32)), .unset] [(.int (0 : Int32))])
  refine own_step (fun _ => XS.istore X0.here hx rfl (hb hby d2_20) rfl (l' := #[.val (.ref o0), .val (.double d1), .second, .val (.int (0 : Int32)), .val (.int (1 : Int32)), .val (.int (0 : Int32))]) rfl) ?_
  show own_Ends p e below s _ _ _ T0 (mkF m 22 #[.val (.ref o0), .val (.double d1), .second, .val (.int (0 : Int32)), .val (.int (1 : Int32)), .val (.int (0 : Int32))] [])
  refine own_step (fun _ => XS.aloadN X0.here hx rfl (hb hby d2_22) rfl rfl) ?_
  show own_Ends p e below s _ _ _ T0 (mkF m 23 #[.val (.ref o0), .val (.double d1), .second, .val (.int (0 : Int32)), .val (.int (1 : Int32)), .val (.int (0 : Int32))] [(.ref o0)])
  refine own_step (fun _ => XS.iload X0.here hx rfl (hb hby d2_23) rfl) ?_
  show own_Ends p e below s _ _ _ T0 (mkF m 25 #[.val (.ref o0), .val (.double d1), .second, .val (.int (0 : Int32)), .val (.int (1 : Int32)), .val (.int (0 : Int32))] [(.int (0 : Int32)), (.ref o0)])
  obtain ⟨cl4, Ar4, q4, S4, N4_, H4, G4⟩ := id Vt
  have hin4 : ¬ ((0 : Int32) < 0 ∨ cl4.slots.size ≤ ((0 : Int32)).toNatClampNeg) := inb_of S4 ⟨by decide, by decide⟩
  have hat4 : cl4.slots[((0 : Int32)).toNatClampNeg]? = some (.double t0) := H4.at hin4 rfl
  refine own_step (fun _ => X0.daload hx (j := (0 : Int32)) (v := (.double t0)) (by rw [e0]; exact Ar4.1) (State.isArrayOf_alike hZ.alike Ar4.2.1) Ar4.2.2 hin4 hat4 (g := (mkF m 25 #[.val (.ref o0), .val (.double d1), .second, .val (.int (0 : Int32)), .val (.int (1 : Int32)), .val (.int (0 : Int32))] [(.int (0 : Int32)), (.ref o0)])) rfl rfl (hb hby d2_25) _) ?_
  show own_Ends p e below s _ _ _ T0 (mkF m 26 #[.val (.ref o0), .val (.double d1), .second, .val (.int (0 : Int32)), .val (.int (1 : Int32)), .val (.int (0 : Int32))] [(.double t0)])
  refine own_step (fun _ => XS.dloadN X0.here hx rfl (hb hby d2_26) rfl) ?_
  show own_Ends p e below s _ _ _ T0 (mkF m 27 #[.val (.ref o0), .val (.double d1), .second, .val (.int (0 : Int32)), .val (.int (1 : Int32)), .val (.int (0 : Int32))] [(.double d1), (.double t0)])
  refine own_step (fun _ => XS.dcmpS X0.here hx rfl (hb hby d2_27) rfl rfl) ?_
  show own_Ends p e below s _ _ _ T0 (mkF m 28 #[.val (.ref o0), .val (.double d1), .second, .val (.int (0 : Int32)), .val (.int (1 : Int32)), .val (.int (0 : Int32))] [(.int (cmpValue (FP.dcmp t0 d1) .l))])
  by_cases hc28 : (0 : Int32) < (cmpValue (FP.dcmp t0 d1) .l)
  · have hv_t := hv.trans (if_pos hc28)
    refine own_step (fun _ => XS.ifNo X0.here hx rfl (hb hby d2_28) rfl ((if0 _ _).trans (tlt hc28).2.2.2)) ?_
    show own_Ends p e below s _ _ _ T0 (mkF m 31 #[.val (.ref o0), .val (.double d1), .second, .val (.int (0 : Int32)), .val (.int (1 : Int32)), .val (.int (0 : Int32))] [])
    refine own_step (fun _ => XS.iload X0.here hx rfl (hb hby d2_31) rfl) ?_
    show own_Ends p e below s _ _ _ T0 (mkF m 33 #[.val (.ref o0), .val (.double d1), .second, .val (.int (0 : Int32)), .val (.int (1 : Int32)), .val (.int (0 : Int32))] [(.int (0 : Int32))])
    refine own_step (fun _ => XS.istore X0.here hx rfl (hb hby d2_33) rfl (l' := #[.val (.ref o0), .val (.double d1), .second, .val (.int (0 : Int32)), .val (.int (0 : Int32)), .val (.int (0 : Int32))]) rfl) ?_
    show own_Ends p e below s _ _ _ T0 (mkF m 35 #[.val (.ref o0), .val (.double d1), .second, .val (.int (0 : Int32)), .val (.int (0 : Int32)), .val (.int (0 : Int32))] [])
    refine own_step (fun _ => XS.goto X0.here hx rfl (pc0 := 35) (pc' := 43) rfl (hb hby d2_35) (by decide) (by decide)) ?_
    show own_Ends p e below s _ _ _ T0 (mkF m 43 #[.val (.ref o0), .val (.double d1), .second, .val (.int (0 : Int32)), .val (.int (0 : Int32)), .val (.int (0 : Int32))] [])
    refine own_step (fun _ => XS.goto X0.here hx rfl (pc0 := 43) (pc' := 8) rfl (hb hby d2_43) (by decide) (by decide)) ?_
    show own_Ends p e below s _ _ _ T0 (mkF m 8 #[.val (.ref o0), .val (.double d1), .second, .val (.int (0 : Int32)), .val (.int (0 : Int32)), .val (.int (0 : Int32))] [])
    refine own_step (fun _ => XS.iloadN X0.here hx rfl (hb hby d2_8) rfl) ?_
    show own_Ends p e below s _ _ _ T0 (mkF m 9 #[.val (.ref o0), .val (.double d1), .second, .val (.int (0 : Int32)), .val (.int (0 : Int32)), .val (.int (0 : Int32))] [(.int (0 : Int32))])
    refine own_step (fun _ => XS.iload X0.here hx rfl (hb hby d2_9) rfl) ?_
    show own_Ends p e below s _ _ _ T0 (mkF m 11 #[.val (.ref o0), .val (.double d1), .second, .val (.int (0 : Int32)), .val (.int (0 : Int32)), .val (.int (0 : Int32))] [(.int (0 : Int32)), (.int (0 : Int32))])
    refine own_step (fun _ => XS.icmpYes X0.here hx rfl (pc0 := 11) (pc' := 46) rfl (hb hby d2_11) rfl (flt (show ¬ ((0 : Int32) < (0 : Int32)) from (by decide))).2.1 (by decide) (by decide)) ?_
    show own_Ends p e below s _ _ _ T0 (mkF m 46 #[.val (.ref o0), .val (.double d1), .second, .val (.int (0 : Int32)), .val (.int (0 : Int32)), .val (.int (0 : Int32))] [])
    refine own_step (fun _ => XS.iloadN X0.here hx rfl (hb hby d2_46) rfl) ?_
    show own_Ends p e below s _ _ _ T0 (mkF m 47 #[.val (.ref o0), .val (.double d1), .second, .val (.int (0 : Int32)), .val (.int (0 : Int32)), .val (.int (0 : Int32))] [(.int (0 : Int32))])
    exact own_retI X0 hx hret hlk (hb hby d2_47) (by decide) (by decide) ⟨congrArg (fun z => some (Value.int z)) hv_t.symm, N0, e0⟩
  · have hv_f := hv.trans (if_neg hc28)
    refine own_step (fun _ => XS.ifYes X0.here hx rfl (pc0 := 28) (pc' := 38) rfl (hb hby d2_28) rfl ((if0 _ _).trans (flt hc28).2.2.2) (by decide) (by decide)) ?_
    show own_Ends p e below s _ _ _ T0 (mkF m 38 #[.val (.ref o0), .val (.double d1), .second, .val (.int (0 : Int32)), .val (.int (1 : Int32)), .val (.int (0 : Int32))] [])
    refine own_step (fun _ => XS.iload X0.here hx rfl (hb hby d2_38) rfl) ?_
    show own_Ends p e below s _ _ _ T0 (mkF m 40 #[.val (.ref o0), .val (.double d1), .second, .val (.int (0 : Int32)), .val (.int (1 : Int32)), .val (.int (0 : Int32))] [(.int (0 : Int32))])
    refine own_step (fun _ => XS.iconst X0.here hx rfl (hb hby d2_40)) ?_
    show own_Ends p e below s _ _ _ T0 (mkF m 41 #[.val (.ref o0), .val (.double d1), .second, .val (.int (0 : Int32)), .val (.int (1 : Int32)), .val (.int (0 : Int32))] [(.int (1 : Int32)), (.int (0 : Int32))])
    refine own_step (fun _ => XS.iadd X0.here hx rfl (hb hby d2_41) rfl) ?_
    show own_Ends p e below s _ _ _ T0 (mkF m 42 #[.val (.ref o0), .val (.double d1), .second, .val (.int (0 : Int32)), .val (.int (1 : Int32)), .val (.int (0 : Int32))] [(.int (1 : Int32))])
    refine own_step (fun _ => XS.istoreN X0.here hx rfl (hb hby d2_42) rfl (l' := #[.val (.ref o0), .val (.double d1), .second, .val (.int (1 : Int32)), .val (.int (1 : Int32)), .val (.int (0 : Int32))]) rfl) ?_
    show own_Ends p e below s _ _ _ T0 (mkF m 43 #[.val (.ref o0), .val (.double d1), .second, .val (.int (1 : Int32)), .val (.int (1 : Int32)), .val (.int (0 : Int32))] [])
    refine own_step (fun _ => XS.goto X0.here hx rfl (pc0 := 43) (pc' := 8) rfl (hb hby d2_43) (by decide) (by decide)) ?_
    show own_Ends p e below s _ _ _ T0 (mkF m 8 #[.val (.ref o0), .val (.double d1), .second, .val (.int (1 : Int32)), .val (.int (1 : Int32)), .val (.int (0 : Int32))] [])
    refine own_step (fun _ => XS.iloadN X0.here hx rfl (hb hby d2_8) rfl) ?_
    show own_Ends p e below s _ _ _ T0 (mkF m 9 #[.val (.ref o0), .val (.double d1), .second, .val (.int (1 : Int32)), .val (.int (1 : Int32)), .val (.int (0 : Int32))] [(.int (1 : Int32))])
    refine own_step (fun _ => XS.iload X0.here hx rfl (hb hby d2_9) rfl) ?_
    show own_Ends p e below s _ _ _ T0 (mkF m 11 #[.val (.ref o0), .val (.double d1), .second, .val (.int (1 : Int32)), .val (.int (1 : Int32)), .val (.int (0 : Int32))] [(.int (1 : Int32)), (.int (1 : Int32))])
    refine own_step (fun _ => XS.icmpYes X0.here hx rfl (pc0 := 11) (pc' := 46) rfl (hb hby d2_11) rfl (flt (show ¬ ((1 : Int32) < (1 : Int32)) from (by decide))).2.1 (by decide) (by decide)) ?_
    show own_Ends p e below s _ _ _ T0 (mkF m 46 #[.val (.ref o0), .val (.double d1), .second, .val (.int (1 : Int32)), .val (.int (1 : Int32)), .val (.int (0 : Int32))] [])
    refine own_step (fun _ => XS.iloadN X0.here hx rfl (hb hby d2_46) rfl) ?_
    show own_Ends p e below s _ _ _ T0 (mkF m 47 #[.val (.ref o0), .val (.double d1), .second, .val (.int (1 : Int32)), .val (.int (1 : Int32)), .val (.int (0 : Int32))] [(.int (1 : Int32))])
    exact own_retI X0 hx hret hlk (hb hby d2_47) (by decide) (by decide) ⟨congrArg (fun z => some (Value.int z)) hv_f.symm, N0, e0⟩
theorem ef_rm2_2 (m : MethodId) (o0 : Addr) (d1 : UInt64) : entryFrame m #[(.ref o0), (.double d1)] 6 = mkF m 0 #[.val (.ref o0), .val (.double d1), .second, .unset, .unset, .unset] [] := by first | (simp [entryFrame, mkF, argsToLocals, Value.category]; done) | rfl
set_option maxRecDepth 65536 in
set_option maxHeartbeats 40000000 in
theorem rm2_2 (l : Launch) (Z : State) (a0 : Array Value) (hw : ∀ d ∈ tables_1, d.before a0 Z = true) (ws : List Jvm.Cond) (o0 : Addr) (d1 : UInt64) (kt : ClassId) (t0 : UInt64) (t1 : UInt64) (h0 : Heap) (n0 : Nat) (Z0 : n0 ≤ h0.size) (Vt : Arv Z h0 o0 kt .double (2 : Int32) [(.double t0), (.double t1)] (.double 0)) :
    MetFree l (⟨"com/example/graded_queue/gradedqueue/sim/Cumulative", "firstAbove", "([DD)I"⟩ : MethodName) (head1 (Jvm.Cond.code (⟨"com/example/graded_queue/gradedqueue/sim/Cumulative", "firstAbove", "([DD)I"⟩ : MethodName) prog_56_method_2_code 6 (some .int) :: ws) ({ frames := 0, cells := 0, slots := 0, locals := 0 } : Room)) (fun a U => a = #[(.ref o0), (.double d1)] ∧ Z.Warmed39 U.vm ∧ U.heap = h0) (fun _ _ _ _ _ => True) (fun _ U o U' => ∃ v L, o = .returned v ∧ (own_Q n0 h0 (some (.int (f2b_0 d1 t0 t1)))) v U'.heap L ∧ FrameEnd U o U' L ({ frames := 0, cells := 0, slots := 0, locals := 0 } : Room).cells ({ frames := 0, cells := 0, slots := 0, locals := 0 } : Room).slots) := by
  refine MetFree.of_bodySF (plainFor_of_name pn_1) hisR ?_
  intro p e s m args below meth c s₁ Bd hml0 hP hK
  obtain ⟨rfl, hZ, hh⟩ := hP
  have X0 : Stand p l e ({ frames := 0, cells := 0, slots := 0, locals := 0 } : Room) s m #[(.ref o0), (.double d1)] below meth c s₁ [] 0 0 := Stand.of_body Bd
  have e0 : s₁.heap = h0 := by rw [← hh, Bd.state]; rfl
  have C : own_C "com/example/graded_queue/gradedqueue/sim/Cumulative" prog_56_method_2_code 6 (some .int) "firstAbove" p s m meth c Z a0 := ⟨Bd.exec, hZ, hw, Bd.bytes, hml0, findClass_of_methodNamed Bd.named, Bd.returns, Bd.notSynchronized, (name_of_methodNamed Bd.named Bd.method).1⟩
  have r := b2b_0 C Z0 X0 e0 (Fr.nil n0) o0 d1 kt t0 t1 Vt _ rfl
  rw [ef_rm2_2 m o0 d1]
  exact r
def f2c_0 (d1 : UInt64) (t0 : UInt64) (t1 : UInt64) (t2 : UInt64) : Int32 := (if (0 : Int32) < (cmpValue (FP.dcmp t1 d1) .l) then (if (0 : Int32) < (cmpValue (FP.dcmp t0 d1) .l) then (0 : Int32) else (1 : Int32)) else (2 : Int32))
set_option maxRecDepth 65536 in
set_option maxHeartbeats 40000000 in
theorem b2c_0 {p : Program} {l : Launch} {e : Env} {s : State} {m : MethodId} {args : Array Value} {below : List Frame} {meth : Method} {c : Code} {Z : State} {a0 : Array Value} {h0 : Heap} {n0 : Nat} (C : own_C "com/example/graded_queue/gradedqueue/sim/Cumulative" prog_56_method_2_code 6 (some .int) "firstAbove" p s m meth c Z a0) (Z0 : n0 ≤ h0.size) {T0 : State} {locs : List Loc} (X0 : Stand p l e ({ frames := 0, cells := 0, slots := 0, locals := 0 } : Room) s m args below meth c T0 locs 0 0) (e0 : T0.heap = h0) (N0 : Fr n0 locs) (o0 : Addr) (d1 : UInt64) (kt : ClassId) (t0 : UInt64) (t1 : UInt64) (t2 : UInt64) (Vt : Arv Z h0 o0 kt .double (3 : Int32) [(.double t0), (.double t1), (.double t2)] (.double 0)) (W : Int32) (hv : W = f2c_0 d1 t0 t1 t2) :
    own_Ends p e below s ({ frames := 0, cells := 0, slots := 0, locals := 0 } : Room).cells ({ frames := 0, cells := 0, slots := 0, locals := 0 } : Room).slots (own_Q n0 h0 (some (.int W))) T0 (mkF m 0 #[.val (.ref o0), .val (.double d1), .second, .unset, .unset, .unset] []) := by
  obtain ⟨hx, hZ, hw, hby, hml, hown, hret, hlk, hnm⟩ := C
  have C : own_C "com/example/graded_queue/gradedqueue/sim/Cumulative" prog_56_method_2_code 6 (some .int) "firstAbove" p s m meth c Z a0 := ⟨hx, hZ, hw, hby, hml, hown, hret, hlk, hnm⟩
  unfold f2c_0 at hv
  refine own_step (fun _ => XS.iconst X0.here hx rfl (hb hby d2_0)) ?_
  show own_Ends p e below s _ _ _ T0 (mkF m 1 #[.val (.ref o0), .val (.double d1), .second, .unset, .unset, .unset] [(.int (0 : Int32))])
  refine own_step (fun _ => XS.istoreN X0.here hx rfl (hb hby d2_1) rfl (l' := #[.val (.ref o0), .val (.double d1), .second, .val (.int (0 : Int32)), .unset, .unset]) rfl) ?_
  show own_Ends p e below s _ _ _ T0 (mkF m 2 #[.val (.ref o0), .val (.double d1), .second, .val (.int (0 : Int32)), .unset, .unset] [])
  refine own_step (fun _ => XS.aloadN X0.here hx rfl (hb hby d2_2) rfl rfl) ?_
  show own_Ends p e below s _ _ _ T0 (mkF m 3 #[.val (.ref o0), .val (.double d1), .second, .val (.int (0 : Int32)), .unset, .unset] [(.ref o0)])
  obtain ⟨cl4, Ar4, q4, S4, N4_, H4, G4⟩ := id Vt
  refine own_step (fun _ => X0.arraylength hx (by rw [e0]; exact Ar4.1) (State.isArrayOf_alike hZ.alike Ar4.2.1) (g := (mkF m 3 #[.val (.ref o0), .val (.double d1), .second, .val (.int (0 : Int32)), .unset, .unset] [(.ref o0)])) rfl rfl (hb hby d2_3) _) ?_
  rw [len_of S4 N4_]
  show own_Ends p e below s _ _ _ T0 (mkF m 4 #[.val (.ref o0), .val (.double d1), .second, .val (.int (0 : Int32)), .unset, .unset] [(.int (3 : Int32))])
  refine own_step (fun _ => XS.iconst X0.here hx rfl (hb hby d2_4)) ?_
  show own_Ends p e below s _ _ _ T0 (mkF m 5 #[.val (.ref o0), .val (.double d1), .second, .val (.int (0 : Int32)), .unset, .unset] [(.int (1 : Int32)), (.int (3 : Int32))])
  refine own_step (fun _ => XS.isub X0.here hx rfl (hb hby d2_5) rfl) ?_
  show own_Ends p e below s _ _ _ T0 (mkF m 6 #[.val (.ref o0), .val (.double d1), .second, .val (.int (0 : Int32)), .unset, .unset] [(.int (2 : Int32))])
  refine own_step (fun _ => XS.istore X0.here hx rfl (hb hby d2_6) rfl (l' := #[.val (.ref o0), .val (.double d1), .second, .val (.int (0 : Int32)), .val (.int (2 : Int32)), .unset]) rfl) ?_
  show own_Ends p e below s _ _ _ T0 (mkF m 8 #[.val (.ref o0), .val (.double d1), .second, .val (.int (0 : Int32)), .val (.int (2 : Int32)), .unset] [])
  refine own_step (fun _ => XS.iloadN X0.here hx rfl (hb hby d2_8) rfl) ?_
  show own_Ends p e below s _ _ _ T0 (mkF m 9 #[.val (.ref o0), .val (.double d1), .second, .val (.int (0 : Int32)), .val (.int (2 : Int32)), .unset] [(.int (0 : Int32))])
  refine own_step (fun _ => XS.iload X0.here hx rfl (hb hby d2_9) rfl) ?_
  show own_Ends p e below s _ _ _ T0 (mkF m 11 #[.val (.ref o0), .val (.double d1), .second, .val (.int (0 : Int32)), .val (.int (2 : Int32)), .unset] [(.int (2 : Int32)), (.int (0 : Int32))])
  refine own_step (fun _ => XS.icmpNo X0.here hx rfl (hb hby d2_11) rfl (tlt (show (0 : Int32) < (2 : Int32) from (by decide))).2.1) ?_
  show own_Ends p e below s _ _ _ T0 (mkF m 14 #[.val (.ref o0), .val (.double d1), .second, .val (.int (0 : Int32)), .val (.int (2 : Int32)), .unset] [])
  refine own_step (fun _ => XS.iloadN X0.here hx rfl (hb hby d2_14) rfl) ?_
  show own_Ends p e below s _ _ _ T0 (mkF m 15 #[.val (.ref o0), .val (.double d1), .second, .val (.int (0 : Int32)), .val (.int (2 : Int32)), .unset] [(.int (0 : Int32))])
  refine own_step (fun _ => XS.iload X0.here hx rfl (hb hby d2_15) rfl) ?_
  show own_Ends p e below s _ _ _ T0 (mkF m 17 #[.val (.ref o0), .val (.double d1), .second, .val (.int (0 : Int32)), .val (.int (2 : Int32)), .unset] [(.int (2 : Int32)), (.int (0 : Int32))])
  refine own_step (fun _ => XS.iadd X0.here hx rfl (hb hby d2_17) rfl) ?_
  show own_Ends p e below s _ _ _ T0 (mkF m 18 #[.val (.ref o0), .val (.double d1), .second, .val (.int (0 : Int32)), .val (.int (2 : Int32)), .unset] [(.int (2 : Int32))])
  refine own_step (fun _ => XS.iconst X0.here hx rfl (hb hby d2_18)) ?_
  show own_Ends p e below s _ _ _ T0 (mkF m 19 #[.val (.ref o0), .val (.double d1), .second, .val (.int (0 : Int32)), .val (.int (2 : Int32)), .unset] [(.int (1 : Int32)), (.int (2 : Int32))])
  refine own_step (fun _ => XS.iushr X0.here hx rfl (hb hby d2_19) rfl) ?_
  show own_Ends p e below s _ _ _ T0 (mkF m 20 #[.val (.ref o0), .val (.double d1), .second, .val (.int (0 : Int32)), .val (.int (2 : Int32)), .unset] [(.int (1 : Int32))])
  refine own_step (fun _ => XS.istore X0.here hx rfl (hb hby d2_20) rfl (l' := #[.val (.ref o0), .val (.double d1), .second, .val (.int (0 : Int32)), .val (.int (2 : Int32)), .val (.int (1 : Int32))]) rfl) ?_
  show own_Ends p e below s _ _ _ T0 (mkF m 22 #[.val (.ref o0), .val (.double d1), .second, .val (.int (0 : Int32)), .val (.int (2 : Int32)), .val (.int (1 : Int32))] [])
  refine own_step (fun _ => XS.aloadN X0.here hx rfl (hb hby d2_22) rfl rfl) ?_
  show own_Ends p e below s _ _ _ T0 (mkF m 23 #[.val (.ref o0), .val (.double d1), .second, .val (.int (0 : Int32)), .val (.int (2 : Int32)), .val (.int (1 : Int32))] [(.ref o0)])
  refine own_step (fun _ => XS.iload X0.here hx rfl (hb hby d2_23) rfl) ?_
  show own_Ends p e below s _ _ _ T0 (mkF m 25 #[.val (.ref o0), .val (.double d1), .second, .val (.int (0 : Int32)), .val (.int (2 : Int32)), .val (.int (1 : Int32))] [(.int (1 : Int32)), (.ref o0)])
  obtain ⟨cl5, Ar5, q5, S5, N5_, H5, G5⟩ := id Vt
  have hin5 : ¬ ((1 : Int32) < 0 ∨ cl5.slots.size ≤ ((1 : Int32)).toNatClampNeg) := inb_of S5 ⟨by decide, by decide⟩
  have hat5 : cl5.slots[((1 : Int32)).toNatClampNeg]? = some (.double t1) := H5.at hin5 rfl
  refine own_step (fun _ => X0.daload hx (j := (1 : Int32)) (v := (.double t1)) (by rw [e0]; exact Ar5.1) (State.isArrayOf_alike hZ.alike Ar5.2.1) Ar5.2.2 hin5 hat5 (g := (mkF m 25 #[.val (.ref o0), .val (.double d1), .second, .val (.int (0 : Int32)), .val (.int (2 : Int32)), .val (.int (1 : Int32))] [(.int (1 : Int32)), (.ref o0)])) rfl rfl (hb hby d2_25) _) ?_
  show own_Ends p e below s _ _ _ T0 (mkF m 26 #[.val (.ref o0), .val (.double d1), .second, .val (.int (0 : Int32)), .val (.int (2 : Int32)), .val (.int (1 : Int32))] [(.double t1)])
  refine own_step (fun _ => XS.dloadN X0.here hx rfl (hb hby d2_26) rfl) ?_
  show own_Ends p e below s _ _ _ T0 (mkF m 27 #[.val (.ref o0), .val (.double d1), .second, .val (.int (0 : Int32)), .val (.int (2 : Int32)), .val (.int (1 : Int32))] [(.double d1), (.double t1)])
  refine own_step (fun _ => XS.dcmpS X0.here hx rfl (hb hby d2_27) rfl rfl) ?_
  show own_Ends p e below s _ _ _ T0 (mkF m 28 #[.val (.ref o0), .val (.double d1), .second, .val (.int (0 : Int32)), .val (.int (2 : Int32)), .val (.int (1 : Int32))] [(.int (cmpValue (FP.dcmp t1 d1) .l))])
  by_cases hc28 : (0 : Int32) < (cmpValue (FP.dcmp t1 d1) .l)
  · have hv_t := hv.trans (if_pos hc28)
    refine own_step (fun _ => XS.ifNo X0.here hx rfl (hb hby d2_28) rfl ((if0 _ _).trans (tlt hc28).2.2.2)) ?_
    show own_Ends p e below s _ _ _ T0 (mkF m 31 #[.val (.ref o0), .val (.double d1), .second, .val (.int (0 : Int32)), .val (.int (2 : Int32)), .val (.int (1 : Int32))] [])
    refine own_step (fun _ => XS.iload X0.here hx rfl (hb hby d2_31) rfl) ?_
    show own_Ends p e below s _ _ _ T0 (mkF m 33 #[.val (.ref o0), .val (.double d1), .second, .val (.int (0 : Int32)), .val (.int (2 : Int32)), .val (.int (1 : Int32))] [(.int (1 : Int32))])
    refine own_step (fun _ => XS.istore X0.here hx rfl (hb hby d2_33) rfl (l' := #[.val (.ref o0), .val (.double d1), .second, .val (.int (0 : Int32)), .val (.int (1 : Int32)), .val (.int (1 : Int32))]) rfl) ?_
    show own_Ends p e below s _ _ _ T0 (mkF m 35 #[.val (.ref o0), .val (.double d1), .second, .val (.int (0 : Int32)), .val (.int (1 : Int32)), .val (.int (1 : Int32))] [])
    refine own_step (fun _ => XS.goto X0.here hx rfl (pc0 := 35) (pc' := 43) rfl (hb hby d2_35) (by decide) (by decide)) ?_
    show own_Ends p e below s _ _ _ T0 (mkF m 43 #[.val (.ref o0), .val (.double d1), .second, .val (.int (0 : Int32)), .val (.int (1 : Int32)), .val (.int (1 : Int32))] [])
    refine own_step (fun _ => XS.goto X0.here hx rfl (pc0 := 43) (pc' := 8) rfl (hb hby d2_43) (by decide) (by decide)) ?_
    show own_Ends p e below s _ _ _ T0 (mkF m 8 #[.val (.ref o0), .val (.double d1), .second, .val (.int (0 : Int32)), .val (.int (1 : Int32)), .val (.int (1 : Int32))] [])
    refine own_step (fun _ => XS.iloadN X0.here hx rfl (hb hby d2_8) rfl) ?_
    show own_Ends p e below s _ _ _ T0 (mkF m 9 #[.val (.ref o0), .val (.double d1), .second, .val (.int (0 : Int32)), .val (.int (1 : Int32)), .val (.int (1 : Int32))] [(.int (0 : Int32))])
    refine own_step (fun _ => XS.iload X0.here hx rfl (hb hby d2_9) rfl) ?_
    show own_Ends p e below s _ _ _ T0 (mkF m 11 #[.val (.ref o0), .val (.double d1), .second, .val (.int (0 : Int32)), .val (.int (1 : Int32)), .val (.int (1 : Int32))] [(.int (1 : Int32)), (.int (0 : Int32))])
    refine own_step (fun _ => XS.icmpNo X0.here hx rfl (hb hby d2_11) rfl (tlt (show (0 : Int32) < (1 : Int32) from (by decide))).2.1) ?_
    show own_Ends p e below s _ _ _ T0 (mkF m 14 #[.val (.ref o0), .val (.double d1), .second, .val (.int (0 : Int32)), .val (.int (1 : Int32)), .val (.int (1 : Int32))] [])
    refine own_step (fun _ => XS.iloadN X0.here hx rfl (hb hby d2_14) rfl) ?_
    show own_Ends p e below s _ _ _ T0 (mkF m 15 #[.val (.ref o0), .val (.double d1), .second, .val (.int (0 : Int32)), .val (.int (1 : Int32)), .val (.int (1 : Int32))] [(.int (0 : Int32))])
    refine own_step (fun _ => XS.iload X0.here hx rfl (hb hby d2_15) rfl) ?_
    show own_Ends p e below s _ _ _ T0 (mkF m 17 #[.val (.ref o0), .val (.double d1), .second, .val (.int (0 : Int32)), .val (.int (1 : Int32)), .val (.int (1 : Int32))] [(.int (1 : Int32)), (.int (0 : Int32))])
    refine own_step (fun _ => XS.iadd X0.here hx rfl (hb hby d2_17) rfl) ?_
    show own_Ends p e below s _ _ _ T0 (mkF m 18 #[.val (.ref o0), .val (.double d1), .second, .val (.int (0 : Int32)), .val (.int (1 : Int32)), .val (.int (1 : Int32))] [(.int (1 : Int32))])
    refine own_step (fun _ => XS.iconst X0.here hx rfl (hb hby d2_18)) ?_
    show own_Ends p e below s _ _ _ T0 (mkF m 19 #[.val (.ref o0), .val (.double d1), .second, .val (.int (0 : Int32)), .val (.int (1 : Int32)), .val (.int (1 : Int32))] [(.int (1 : Int32)), (.int (1 : Int32))])
    refine own_step (fun _ => XS.iushr X0.here hx rfl (hb hby d2_19) rfl) ?_
    show own_Ends p e below s _ _ _ T0 (mkF m 20 #[.val (.ref o0), .val (.double d1), .second, .val (.int (0 : Int32)), .val (.int (1 : Int32)), .val (.int (1 : Int32))] [(.int (0 : Int32))])
    refine own_step (fun _ => XS.istore X0.here hx rfl (hb hby d2_20) rfl (l' := #[.val (.ref o0), .val (.double d1), .second, .val (.int (0 : Int32)), .val (.int (1 : Int32)), .val (.int (0 : Int32))]) rfl) ?_
    show own_Ends p e below s _ _ _ T0 (mkF m 22 #[.val (.ref o0), .val (.double d1), .second, .val (.int (0 : Int32)), .val (.int (1 : Int32)), .val (.int (0 : Int32))] [])
    refine own_step (fun _ => XS.aloadN X0.here hx rfl (hb hby d2_22) rfl rfl) ?_
    show own_Ends p e below s _ _ _ T0 (mkF m 23 #[.val (.ref o0), .val (.double d1), .second, .val (.int (0 : Int32)), .val (.int (1 : Int32)), .val (.int (0 : Int32))] [(.ref o0)])
    refine own_step (fun _ => XS.iload X0.here hx rfl (hb hby d2_23) rfl) ?_
    show own_Ends p e below s _ _ _ T0 (mkF m 25 #[.val (.ref o0), .val (.double d1), .second, .val (.int (0 : Int32)), .val (.int (1 : Int32)), .val (.int (0 : Int32))] [(.int (0 : Int32)), (.ref o0)])
    obtain ⟨cl6, Ar6, q6, S6, N6_, H6, G6⟩ := id Vt
    have hin6 : ¬ ((0 : Int32) < 0 ∨ cl6.slots.size ≤ ((0 : Int32)).toNatClampNeg) := inb_of S6 ⟨by decide, by decide⟩
    have hat6 : cl6.slots[((0 : Int32)).toNatClampNeg]? = some (.double t0) := H6.at hin6 rfl
    refine own_step (fun _ => X0.daload hx (j := (0 : Int32)) (v := (.double t0)) (by rw [e0]; exact Ar6.1) (State.isArrayOf_alike hZ.alike Ar6.2.1) Ar6.2.2 hin6 hat6 (g := (mkF m 25 #[.val (.ref o0), .val (.double d1), .second, .val (.int (0 : Int32)), .val (.int (1 : Int32)), .val (.int (0 : Int32))] [(.int (0 : Int32)), (.ref o0)])) rfl rfl (hb hby d2_25) _) ?_
    show own_Ends p e below s _ _ _ T0 (mkF m 26 #[.val (.ref o0), .val (.double d1), .second, .val (.int (0 : Int32)), .val (.int (1 : Int32)), .val (.int (0 : Int32))] [(.double t0)])
    refine own_step (fun _ => XS.dloadN X0.here hx rfl (hb hby d2_26) rfl) ?_
    show own_Ends p e below s _ _ _ T0 (mkF m 27 #[.val (.ref o0), .val (.double d1), .second, .val (.int (0 : Int32)), .val (.int (1 : Int32)), .val (.int (0 : Int32))] [(.double d1), (.double t0)])
    refine own_step (fun _ => XS.dcmpS X0.here hx rfl (hb hby d2_27) rfl rfl) ?_
    show own_Ends p e below s _ _ _ T0 (mkF m 28 #[.val (.ref o0), .val (.double d1), .second, .val (.int (0 : Int32)), .val (.int (1 : Int32)), .val (.int (0 : Int32))] [(.int (cmpValue (FP.dcmp t0 d1) .l))])
    by_cases hc28 : (0 : Int32) < (cmpValue (FP.dcmp t0 d1) .l)
    · have hv_t_t := hv_t.trans (if_pos hc28)
      refine own_step (fun _ => XS.ifNo X0.here hx rfl (hb hby d2_28) rfl ((if0 _ _).trans (tlt hc28).2.2.2)) ?_
      show own_Ends p e below s _ _ _ T0 (mkF m 31 #[.val (.ref o0), .val (.double d1), .second, .val (.int (0 : Int32)), .val (.int (1 : Int32)), .val (.int (0 : Int32))] [])
      refine own_step (fun _ => XS.iload X0.here hx rfl (hb hby d2_31) rfl) ?_
      show own_Ends p e below s _ _ _ T0 (mkF m 33 #[.val (.ref o0), .val (.double d1), .second, .val (.int (0 : Int32)), .val (.int (1 : Int32)), .val (.int (0 : Int32))] [(.int (0 : Int32))])
      refine own_step (fun _ => XS.istore X0.here hx rfl (hb hby d2_33) rfl (l' := #[.val (.ref o0), .val (.double d1), .second, .val (.int (0 : Int32)), .val (.int (0 : Int32)), .val (.int (0 : Int32))]) rfl) ?_
      show own_Ends p e below s _ _ _ T0 (mkF m 35 #[.val (.ref o0), .val (.double d1), .second, .val (.int (0 : Int32)), .val (.int (0 : Int32)), .val (.int (0 : Int32))] [])
      refine own_step (fun _ => XS.goto X0.here hx rfl (pc0 := 35) (pc' := 43) rfl (hb hby d2_35) (by decide) (by decide)) ?_
      show own_Ends p e below s _ _ _ T0 (mkF m 43 #[.val (.ref o0), .val (.double d1), .second, .val (.int (0 : Int32)), .val (.int (0 : Int32)), .val (.int (0 : Int32))] [])
      refine own_step (fun _ => XS.goto X0.here hx rfl (pc0 := 43) (pc' := 8) rfl (hb hby d2_43) (by decide) (by decide)) ?_
      show own_Ends p e below s _ _ _ T0 (mkF m 8 #[.val (.ref o0), .val (.double d1), .second, .val (.int (0 : Int32)), .val (.int (0 : Int32)), .val (.int (0 : Int32))] [])
      refine own_step (fun _ => XS.iloadN X0.here hx rfl (hb hby d2_8) rfl) ?_
      show own_Ends p e below s _ _ _ T0 (mkF m 9 #[.val (.ref o0), .val (.double d1), .second, .val (.int (0 : Int32)), .val (.int (0 : Int32)), .val (.int (0 : Int32))] [(.int (0 : Int32))])
      refine own_step (fun _ => XS.iload X0.here hx rfl (hb hby d2_9) rfl) ?_
      show own_Ends p e below s _ _ _ T0 (mkF m 11 #[.val (.ref o0), .val (.double d1), .second, .val (.int (0 : Int32)), .val (.int (0 : Int32)), .val (.int (0 : Int32))] [(.int (0 : Int32)), (.int (0 : Int32))])
      refine own_step (fun _ => XS.icmpYes X0.here hx rfl (pc0 := 11) (pc' := 46) rfl (hb hby d2_11) rfl (flt (show ¬ ((0 : Int32) < (0 : Int32)) from (by decide))).2.1 (by decide) (by decide)) ?_
      show own_Ends p e below s _ _ _ T0 (mkF m 46 #[.val (.ref o0), .val (.double d1), .second, .val (.int (0 : Int32)), .val (.int (0 : Int32)), .val (.int (0 : Int32))] [])
      refine own_step (fun _ => XS.iloadN X0.here hx rfl (hb hby d2_46) rfl) ?_
      show own_Ends p e below s _ _ _ T0 (mkF m 47 #[.val (.ref o0), .val (.double d1), .second, .val (.int (0 : Int32)), .val (.int (0 : Int32)), .val (.int (0 : Int32))] [(.int (0 : Int32))])
      exact own_retI X0 hx hret hlk (hb hby d2_47) (by decide) (by decide) ⟨congrArg (fun z => some (Value.int z)) hv_t_t.symm, N0, e0⟩
    · have hv_t_f := hv_t.trans (if_neg hc28)
      refine own_step (fun _ => XS.ifYes X0.here hx rfl (pc0 := 28) (pc' := 38) rfl (hb hby d2_28) rfl ((if0 _ _).trans (flt hc28).2.2.2) (by decide) (by decide)) ?_
      show own_Ends p e below s _ _ _ T0 (mkF m 38 #[.val (.ref o0), .val (.double d1), .second, .val (.int (0 : Int32)), .val (.int (1 : Int32)), .val (.int (0 : Int32))] [])
      refine own_step (fun _ => XS.iload X0.here hx rfl (hb hby d2_38) rfl) ?_
      show own_Ends p e below s _ _ _ T0 (mkF m 40 #[.val (.ref o0), .val (.double d1), .second, .val (.int (0 : Int32)), .val (.int (1 : Int32)), .val (.int (0 : Int32))] [(.int (0 : Int32))])
      refine own_step (fun _ => XS.iconst X0.here hx rfl (hb hby d2_40)) ?_
      show own_Ends p e below s _ _ _ T0 (mkF m 41 #[.val (.ref o0), .val (.double d1), .second, .val (.int (0 : Int32)), .val (.int (1 : Int32)), .val (.int (0 : Int32))] [(.int (1 : Int32)), (.int (0 : Int32))])
      refine own_step (fun _ => XS.iadd X0.here hx rfl (hb hby d2_41) rfl) ?_
      show own_Ends p e below s _ _ _ T0 (mkF m 42 #[.val (.ref o0), .val (.double d1), .second, .val (.int (0 : Int32)), .val (.int (1 : Int32)), .val (.int (0 : Int32))] [(.int (1 : Int32))])
      refine own_step (fun _ => XS.istoreN X0.here hx rfl (hb hby d2_42) rfl (l' := #[.val (.ref o0), .val (.double d1), .second, .val (.int (1 : Int32)), .val (.int (1 : Int32)), .val (.int (0 : Int32))]) rfl) ?_
      show own_Ends p e below s _ _ _ T0 (mkF m 43 #[.val (.ref o0), .val (.double d1), .second, .val (.int (1 : Int32)), .val (.int (1 : Int32)), .val (.int (0 : Int32))] [])
      refine own_step (fun _ => XS.goto X0.here hx rfl (pc0 := 43) (pc' := 8) rfl (hb hby d2_43) (by decide) (by decide)) ?_
      show own_Ends p e below s _ _ _ T0 (mkF m 8 #[.val (.ref o0), .val (.double d1), .second, .val (.int (1 : Int32)), .val (.int (1 : Int32)), .val (.int (0 : Int32))] [])
      refine own_step (fun _ => XS.iloadN X0.here hx rfl (hb hby d2_8) rfl) ?_
      show own_Ends p e below s _ _ _ T0 (mkF m 9 #[.val (.ref o0), .val (.double d1), .second, .val (.int (1 : Int32)), .val (.int (1 : Int32)), .val (.int (0 : Int32))] [(.int (1 : Int32))])
      refine own_step (fun _ => XS.iload X0.here hx rfl (hb hby d2_9) rfl) ?_
      show own_Ends p e below s _ _ _ T0 (mkF m 11 #[.val (.ref o0), .val (.double d1), .second, .val (.int (1 : Int32)), .val (.int (1 : Int32)), .val (.int (0 : Int32))] [(.int (1 : Int32)), (.int (1 : Int32))])
      refine own_step (fun _ => XS.icmpYes X0.here hx rfl (pc0 := 11) (pc' := 46) rfl (hb hby d2_11) rfl (flt (show ¬ ((1 : Int32) < (1 : Int32)) from (by decide))).2.1 (by decide) (by decide)) ?_
      show own_Ends p e below s _ _ _ T0 (mkF m 46 #[.val (.ref o0), .val (.double d1), .second, .val (.int (1 : Int32)), .val (.int (1 : Int32)), .val (.int (0 : Int32))] [])
      refine own_step (fun _ => XS.iloadN X0.here hx rfl (hb hby d2_46) rfl) ?_
      show own_Ends p e below s _ _ _ T0 (mkF m 47 #[.val (.ref o0), .val (.double d1), .second, .val (.int (1 : Int32)), .val (.int (1 : Int32)), .val (.int (0 : Int32))] [(.int (1 : Int32))])
      exact own_retI X0 hx hret hlk (hb hby d2_47) (by decide) (by decide) ⟨congrArg (fun z => some (Value.int z)) hv_t_f.symm, N0, e0⟩
  · have hv_f := hv.trans (if_neg hc28)
    refine own_step (fun _ => XS.ifYes X0.here hx rfl (pc0 := 28) (pc' := 38) rfl (hb hby d2_28) rfl ((if0 _ _).trans (flt hc28).2.2.2) (by decide) (by decide)) ?_
    show own_Ends p e below s _ _ _ T0 (mkF m 38 #[.val (.ref o0), .val (.double d1), .second, .val (.int (0 : Int32)), .val (.int (2 : Int32)), .val (.int (1 : Int32))] [])
    refine own_step (fun _ => XS.iload X0.here hx rfl (hb hby d2_38) rfl) ?_
    show own_Ends p e below s _ _ _ T0 (mkF m 40 #[.val (.ref o0), .val (.double d1), .second, .val (.int (0 : Int32)), .val (.int (2 : Int32)), .val (.int (1 : Int32))] [(.int (1 : Int32))])
    refine own_step (fun _ => XS.iconst X0.here hx rfl (hb hby d2_40)) ?_
    show own_Ends p e below s _ _ _ T0 (mkF m 41 #[.val (.ref o0), .val (.double d1), .second, .val (.int (0 : Int32)), .val (.int (2 : Int32)), .val (.int (1 : Int32))] [(.int (1 : Int32)), (.int (1 : Int32))])
    refine own_step (fun _ => XS.iadd X0.here hx rfl (hb hby d2_41) rfl) ?_
    show own_Ends p e below s _ _ _ T0 (mkF m 42 #[.val (.ref o0), .val (.double d1), .second, .val (.int (0 : Int32)), .val (.int (2 : Int32)), .val (.int (1 : Int32))] [(.int (2 : Int32))])
    refine own_step (fun _ => XS.istoreN X0.here hx rfl (hb hby d2_42) rfl (l' := #[.val (.ref o0), .val (.double d1), .second, .val (.int (2 : Int32)), .val (.int (2 : Int32)), .val (.int (1 : Int32))]) rfl) ?_
    show own_Ends p e below s _ _ _ T0 (mkF m 43 #[.val (.ref o0), .val (.double d1), .second, .val (.int (2 : Int32)), .val (.int (2 : Int32)), .val (.int (1 : Int32))] [])
    refine own_step (fun _ => XS.goto X0.here hx rfl (pc0 := 43) (pc' := 8) rfl (hb hby d2_43) (by decide) (by decide)) ?_
    show own_Ends p e below s _ _ _ T0 (mkF m 8 #[.val (.ref o0), .val (.double d1), .second, .val (.int (2 : Int32)), .val (.int (2 : Int32)), .val (.int (1 : Int32))] [])
    refine own_step (fun _ => XS.iloadN X0.here hx rfl (hb hby d2_8) rfl) ?_
    show own_Ends p e below s _ _ _ T0 (mkF m 9 #[.val (.ref o0), .val (.double d1), .second, .val (.int (2 : Int32)), .val (.int (2 : Int32)), .val (.int (1 : Int32))] [(.int (2 : Int32))])
    refine own_step (fun _ => XS.iload X0.here hx rfl (hb hby d2_9) rfl) ?_
    show own_Ends p e below s _ _ _ T0 (mkF m 11 #[.val (.ref o0), .val (.double d1), .second, .val (.int (2 : Int32)), .val (.int (2 : Int32)), .val (.int (1 : Int32))] [(.int (2 : Int32)), (.int (2 : Int32))])
    refine own_step (fun _ => XS.icmpYes X0.here hx rfl (pc0 := 11) (pc' := 46) rfl (hb hby d2_11) rfl (flt (show ¬ ((2 : Int32) < (2 : Int32)) from (by decide))).2.1 (by decide) (by decide)) ?_
    show own_Ends p e below s _ _ _ T0 (mkF m 46 #[.val (.ref o0), .val (.double d1), .second, .val (.int (2 : Int32)), .val (.int (2 : Int32)), .val (.int (1 : Int32))] [])
    refine own_step (fun _ => XS.iloadN X0.here hx rfl (hb hby d2_46) rfl) ?_
    show own_Ends p e below s _ _ _ T0 (mkF m 47 #[.val (.ref o0), .val (.double d1), .second, .val (.int (2 : Int32)), .val (.int (2 : Int32)), .val (.int (1 : Int32))] [(.int (2 : Int32))])
    exact own_retI X0 hx hret hlk (hb hby d2_47) (by decide) (by decide) ⟨congrArg (fun z => some (Value.int z)) hv_f.symm, N0, e0⟩
theorem ef_rm2_3 (m : MethodId) (o0 : Addr) (d1 : UInt64) : entryFrame m #[(.ref o0), (.double d1)] 6 = mkF m 0 #[.val (.ref o0), .val (.double d1), .second, .unset, .unset, .unset] [] := by first | (simp [entryFrame, mkF, argsToLocals, Value.category]; done) | rfl
set_option maxRecDepth 65536 in
set_option maxHeartbeats 40000000 in
theorem rm2_3 (l : Launch) (Z : State) (a0 : Array Value) (hw : ∀ d ∈ tables_1, d.before a0 Z = true) (ws : List Jvm.Cond) (o0 : Addr) (d1 : UInt64) (kt : ClassId) (t0 : UInt64) (t1 : UInt64) (t2 : UInt64) (h0 : Heap) (n0 : Nat) (Z0 : n0 ≤ h0.size) (Vt : Arv Z h0 o0 kt .double (3 : Int32) [(.double t0), (.double t1), (.double t2)] (.double 0)) :
    MetFree l (⟨"com/example/graded_queue/gradedqueue/sim/Cumulative", "firstAbove", "([DD)I"⟩ : MethodName) (head1 (Jvm.Cond.code (⟨"com/example/graded_queue/gradedqueue/sim/Cumulative", "firstAbove", "([DD)I"⟩ : MethodName) prog_56_method_2_code 6 (some .int) :: ws) ({ frames := 0, cells := 0, slots := 0, locals := 0 } : Room)) (fun a U => a = #[(.ref o0), (.double d1)] ∧ Z.Warmed39 U.vm ∧ U.heap = h0) (fun _ _ _ _ _ => True) (fun _ U o U' => ∃ v L, o = .returned v ∧ (own_Q n0 h0 (some (.int (f2c_0 d1 t0 t1 t2)))) v U'.heap L ∧ FrameEnd U o U' L ({ frames := 0, cells := 0, slots := 0, locals := 0 } : Room).cells ({ frames := 0, cells := 0, slots := 0, locals := 0 } : Room).slots) := by
  refine MetFree.of_bodySF (plainFor_of_name pn_1) hisR ?_
  intro p e s m args below meth c s₁ Bd hml0 hP hK
  obtain ⟨rfl, hZ, hh⟩ := hP
  have X0 : Stand p l e ({ frames := 0, cells := 0, slots := 0, locals := 0 } : Room) s m #[(.ref o0), (.double d1)] below meth c s₁ [] 0 0 := Stand.of_body Bd
  have e0 : s₁.heap = h0 := by rw [← hh, Bd.state]; rfl
  have C : own_C "com/example/graded_queue/gradedqueue/sim/Cumulative" prog_56_method_2_code 6 (some .int) "firstAbove" p s m meth c Z a0 := ⟨Bd.exec, hZ, hw, Bd.bytes, hml0, findClass_of_methodNamed Bd.named, Bd.returns, Bd.notSynchronized, (name_of_methodNamed Bd.named Bd.method).1⟩
  have r := b2c_0 C Z0 X0 e0 (Fr.nil n0) o0 d1 kt t0 t1 t2 Vt _ rfl
  rw [ef_rm2_3 m o0 d1]
  exact r
def f2d_0 (d1 : UInt64) (t0 : UInt64) (t1 : UInt64) (t2 : UInt64) (t3 : UInt64) : Int32 := (if (0 : Int32) < (cmpValue (FP.dcmp t1 d1) .l) then (if (0 : Int32) < (cmpValue (FP.dcmp t0 d1) .l) then (0 : Int32) else (1 : Int32)) else (if (0 : Int32) < (cmpValue (FP.dcmp t2 d1) .l) then (2 : Int32) else (3 : Int32)))
set_option maxRecDepth 65536 in
set_option maxHeartbeats 40000000 in
theorem b2d_0 {p : Program} {l : Launch} {e : Env} {s : State} {m : MethodId} {args : Array Value} {below : List Frame} {meth : Method} {c : Code} {Z : State} {a0 : Array Value} {h0 : Heap} {n0 : Nat} (C : own_C "com/example/graded_queue/gradedqueue/sim/Cumulative" prog_56_method_2_code 6 (some .int) "firstAbove" p s m meth c Z a0) (Z0 : n0 ≤ h0.size) {T0 : State} {locs : List Loc} (X0 : Stand p l e ({ frames := 0, cells := 0, slots := 0, locals := 0 } : Room) s m args below meth c T0 locs 0 0) (e0 : T0.heap = h0) (N0 : Fr n0 locs) (o0 : Addr) (d1 : UInt64) (kt : ClassId) (t0 : UInt64) (t1 : UInt64) (t2 : UInt64) (t3 : UInt64) (Vt : Arv Z h0 o0 kt .double (4 : Int32) [(.double t0), (.double t1), (.double t2), (.double t3)] (.double 0)) (W : Int32) (hv : W = f2d_0 d1 t0 t1 t2 t3) :
    own_Ends p e below s ({ frames := 0, cells := 0, slots := 0, locals := 0 } : Room).cells ({ frames := 0, cells := 0, slots := 0, locals := 0 } : Room).slots (own_Q n0 h0 (some (.int W))) T0 (mkF m 0 #[.val (.ref o0), .val (.double d1), .second, .unset, .unset, .unset] []) := by
  obtain ⟨hx, hZ, hw, hby, hml, hown, hret, hlk, hnm⟩ := C
  have C : own_C "com/example/graded_queue/gradedqueue/sim/Cumulative" prog_56_method_2_code 6 (some .int) "firstAbove" p s m meth c Z a0 := ⟨hx, hZ, hw, hby, hml, hown, hret, hlk, hnm⟩
  unfold f2d_0 at hv
  refine own_step (fun _ => XS.iconst X0.here hx rfl (hb hby d2_0)) ?_
  show own_Ends p e below s _ _ _ T0 (mkF m 1 #[.val (.ref o0), .val (.double d1), .second, .unset, .unset, .unset] [(.int (0 : Int32))])
  refine own_step (fun _ => XS.istoreN X0.here hx rfl (hb hby d2_1) rfl (l' := #[.val (.ref o0), .val (.double d1), .second, .val (.int (0 : Int32)), .unset, .unset]) rfl) ?_
  show own_Ends p e below s _ _ _ T0 (mkF m 2 #[.val (.ref o0), .val (.double d1), .second, .val (.int (0 : Int32)), .unset, .unset] [])
  refine own_step (fun _ => XS.aloadN X0.here hx rfl (hb hby d2_2) rfl rfl) ?_
  show own_Ends p e below s _ _ _ T0 (mkF m 3 #[.val (.ref o0), .val (.double d1), .second, .val (.int (0 : Int32)), .unset, .unset] [(.ref o0)])
  obtain ⟨cl5, Ar5, q5, S5, N5_, H5, G5⟩ := id Vt
  refine own_step (fun _ => X0.arraylength hx (by rw [e0]; exact Ar5.1) (State.isArrayOf_alike hZ.alike Ar5.2.1) (g := (mkF m 3 #[.val (.ref o0), .val (.double d1), .second, .val (.int (0 : Int32)), .unset, .unset] [(.ref o0)])) rfl rfl (hb hby d2_3) _) ?_
  rw [len_of S5 N5_]
  show own_Ends p e below s _ _ _ T0 (mkF m 4 #[.val (.ref o0), .val (.double d1), .second, .val (.int (0 : Int32)), .unset, .unset] [(.int (4 : Int32))])
  refine own_step (fun _ => XS.iconst X0.here hx rfl (hb hby d2_4)) ?_
  show own_Ends p e below s _ _ _ T0 (mkF m 5 #[.val (.ref o0), .val (.double d1), .second, .val (.int (0 : Int32)), .unset, .unset] [(.int (1 : Int32)), (.int (4 : Int32))])
  refine own_step (fun _ => XS.isub X0.here hx rfl (hb hby d2_5) rfl) ?_
  show own_Ends p e below s _ _ _ T0 (mkF m 6 #[.val (.ref o0), .val (.double d1), .second, .val (.int (0 : Int32)), .unset, .unset] [(.int (3 : Int32))])
  refine own_step (fun _ => XS.istore X0.here hx rfl (hb hby d2_6) rfl (l' := #[.val (.ref o0), .val (.double d1), .second, .val (.int (0 : Int32)), .val (.int (3 : Int32)), .unset]) rfl) ?_
  show own_Ends p e below s _ _ _ T0 (mkF m 8 #[.val (.ref o0), .val (.double d1), .second, .val (.int (0 : Int32)), .val (.int (3 : Int32)), .unset] [])
  refine own_step (fun _ => XS.iloadN X0.here hx rfl (hb hby d2_8) rfl) ?_
  show own_Ends p e below s _ _ _ T0 (mkF m 9 #[.val (.ref o0), .val (.double d1), .second, .val (.int (0 : Int32)), .val (.int (3 : Int32)), .unset] [(.int (0 : Int32))])
  refine own_step (fun _ => XS.iload X0.here hx rfl (hb hby d2_9) rfl) ?_
  show own_Ends p e below s _ _ _ T0 (mkF m 11 #[.val (.ref o0), .val (.double d1), .second, .val (.int (0 : Int32)), .val (.int (3 : Int32)), .unset] [(.int (3 : Int32)), (.int (0 : Int32))])
  refine own_step (fun _ => XS.icmpNo X0.here hx rfl (hb hby d2_11) rfl (tlt (show (0 : Int32) < (3 : Int32) from (by decide))).2.1) ?_
  show own_Ends p e below s _ _ _ T0 (mkF m 14 #[.val (.ref o0), .val (.double d1), .second, .val (.int (0 : Int32)), .val (.int (3 : Int32)), .unset] [])
  refine own_step (fun _ => XS.iloadN X0.here hx rfl (hb hby d2_14) rfl) ?_
  show own_Ends p e below s _ _ _ T0 (mkF m 15 #[.val (.ref o0), .val (.double d1), .second, .val (.int (0 : Int32)), .val (.int (3 : Int32)), .unset] [(.int (0 : Int32))])
  refine own_step (fun _ => XS.iload X0.here hx rfl (hb hby d2_15) rfl) ?_
  show own_Ends p e below s _ _ _ T0 (mkF m 17 #[.val (.ref o0), .val (.double d1), .second, .val (.int (0 : Int32)), .val (.int (3 : Int32)), .unset] [(.int (3 : Int32)), (.int (0 : Int32))])
  refine own_step (fun _ => XS.iadd X0.here hx rfl (hb hby d2_17) rfl) ?_
  show own_Ends p e below s _ _ _ T0 (mkF m 18 #[.val (.ref o0), .val (.double d1), .second, .val (.int (0 : Int32)), .val (.int (3 : Int32)), .unset] [(.int (3 : Int32))])
  refine own_step (fun _ => XS.iconst X0.here hx rfl (hb hby d2_18)) ?_
  show own_Ends p e below s _ _ _ T0 (mkF m 19 #[.val (.ref o0), .val (.double d1), .second, .val (.int (0 : Int32)), .val (.int (3 : Int32)), .unset] [(.int (1 : Int32)), (.int (3 : Int32))])
  refine own_step (fun _ => XS.iushr X0.here hx rfl (hb hby d2_19) rfl) ?_
  show own_Ends p e below s _ _ _ T0 (mkF m 20 #[.val (.ref o0), .val (.double d1), .second, .val (.int (0 : Int32)), .val (.int (3 : Int32)), .unset] [(.int (1 : Int32))])
  refine own_step (fun _ => XS.istore X0.here hx rfl (hb hby d2_20) rfl (l' := #[.val (.ref o0), .val (.double d1), .second, .val (.int (0 : Int32)), .val (.int (3 : Int32)), .val (.int (1 : Int32))]) rfl) ?_
  show own_Ends p e below s _ _ _ T0 (mkF m 22 #[.val (.ref o0), .val (.double d1), .second, .val (.int (0 : Int32)), .val (.int (3 : Int32)), .val (.int (1 : Int32))] [])
  refine own_step (fun _ => XS.aloadN X0.here hx rfl (hb hby d2_22) rfl rfl) ?_
  show own_Ends p e below s _ _ _ T0 (mkF m 23 #[.val (.ref o0), .val (.double d1), .second, .val (.int (0 : Int32)), .val (.int (3 : Int32)), .val (.int (1 : Int32))] [(.ref o0)])
  refine own_step (fun _ => XS.iload X0.here hx rfl (hb hby d2_23) rfl) ?_
  show own_Ends p e below s _ _ _ T0 (mkF m 25 #[.val (.ref o0), .val (.double d1), .second, .val (.int (0 : Int32)), .val (.int (3 : Int32)), .val (.int (1 : Int32))] [(.int (1 : Int32)), (.ref o0)])
  obtain ⟨cl6, Ar6, q6, S6, N6_, H6, G6⟩ := id Vt
  have hin6 : ¬ ((1 : Int32) < 0 ∨ cl6.slots.size ≤ ((1 : Int32)).toNatClampNeg) := inb_of S6 ⟨by decide, by decide⟩
  have hat6 : cl6.slots[((1 : Int32)).toNatClampNeg]? = some (.double t1) := H6.at hin6 rfl
  refine own_step (fun _ => X0.daload hx (j := (1 : Int32)) (v := (.double t1)) (by rw [e0]; exact Ar6.1) (State.isArrayOf_alike hZ.alike Ar6.2.1) Ar6.2.2 hin6 hat6 (g := (mkF m 25 #[.val (.ref o0), .val (.double d1), .second, .val (.int (0 : Int32)), .val (.int (3 : Int32)), .val (.int (1 : Int32))] [(.int (1 : Int32)), (.ref o0)])) rfl rfl (hb hby d2_25) _) ?_
  show own_Ends p e below s _ _ _ T0 (mkF m 26 #[.val (.ref o0), .val (.double d1), .second, .val (.int (0 : Int32)), .val (.int (3 : Int32)), .val (.int (1 : Int32))] [(.double t1)])
  refine own_step (fun _ => XS.dloadN X0.here hx rfl (hb hby d2_26) rfl) ?_
  show own_Ends p e below s _ _ _ T0 (mkF m 27 #[.val (.ref o0), .val (.double d1), .second, .val (.int (0 : Int32)), .val (.int (3 : Int32)), .val (.int (1 : Int32))] [(.double d1), (.double t1)])
  refine own_step (fun _ => XS.dcmpS X0.here hx rfl (hb hby d2_27) rfl rfl) ?_
  show own_Ends p e below s _ _ _ T0 (mkF m 28 #[.val (.ref o0), .val (.double d1), .second, .val (.int (0 : Int32)), .val (.int (3 : Int32)), .val (.int (1 : Int32))] [(.int (cmpValue (FP.dcmp t1 d1) .l))])
  by_cases hc28 : (0 : Int32) < (cmpValue (FP.dcmp t1 d1) .l)
  · have hv_t := hv.trans (if_pos hc28)
    refine own_step (fun _ => XS.ifNo X0.here hx rfl (hb hby d2_28) rfl ((if0 _ _).trans (tlt hc28).2.2.2)) ?_
    show own_Ends p e below s _ _ _ T0 (mkF m 31 #[.val (.ref o0), .val (.double d1), .second, .val (.int (0 : Int32)), .val (.int (3 : Int32)), .val (.int (1 : Int32))] [])
    refine own_step (fun _ => XS.iload X0.here hx rfl (hb hby d2_31) rfl) ?_
    show own_Ends p e below s _ _ _ T0 (mkF m 33 #[.val (.ref o0), .val (.double d1), .second, .val (.int (0 : Int32)), .val (.int (3 : Int32)), .val (.int (1 : Int32))] [(.int (1 : Int32))])
    refine own_step (fun _ => XS.istore X0.here hx rfl (hb hby d2_33) rfl (l' := #[.val (.ref o0), .val (.double d1), .second, .val (.int (0 : Int32)), .val (.int (1 : Int32)), .val (.int (1 : Int32))]) rfl) ?_
    show own_Ends p e below s _ _ _ T0 (mkF m 35 #[.val (.ref o0), .val (.double d1), .second, .val (.int (0 : Int32)), .val (.int (1 : Int32)), .val (.int (1 : Int32))] [])
    refine own_step (fun _ => XS.goto X0.here hx rfl (pc0 := 35) (pc' := 43) rfl (hb hby d2_35) (by decide) (by decide)) ?_
    show own_Ends p e below s _ _ _ T0 (mkF m 43 #[.val (.ref o0), .val (.double d1), .second, .val (.int (0 : Int32)), .val (.int (1 : Int32)), .val (.int (1 : Int32))] [])
    refine own_step (fun _ => XS.goto X0.here hx rfl (pc0 := 43) (pc' := 8) rfl (hb hby d2_43) (by decide) (by decide)) ?_
    show own_Ends p e below s _ _ _ T0 (mkF m 8 #[.val (.ref o0), .val (.double d1), .second, .val (.int (0 : Int32)), .val (.int (1 : Int32)), .val (.int (1 : Int32))] [])
    refine own_step (fun _ => XS.iloadN X0.here hx rfl (hb hby d2_8) rfl) ?_
    show own_Ends p e below s _ _ _ T0 (mkF m 9 #[.val (.ref o0), .val (.double d1), .second, .val (.int (0 : Int32)), .val (.int (1 : Int32)), .val (.int (1 : Int32))] [(.int (0 : Int32))])
    refine own_step (fun _ => XS.iload X0.here hx rfl (hb hby d2_9) rfl) ?_
    show own_Ends p e below s _ _ _ T0 (mkF m 11 #[.val (.ref o0), .val (.double d1), .second, .val (.int (0 : Int32)), .val (.int (1 : Int32)), .val (.int (1 : Int32))] [(.int (1 : Int32)), (.int (0 : Int32))])
    refine own_step (fun _ => XS.icmpNo X0.here hx rfl (hb hby d2_11) rfl (tlt (show (0 : Int32) < (1 : Int32) from (by decide))).2.1) ?_
    show own_Ends p e below s _ _ _ T0 (mkF m 14 #[.val (.ref o0), .val (.double d1), .second, .val (.int (0 : Int32)), .val (.int (1 : Int32)), .val (.int (1 : Int32))] [])
    refine own_step (fun _ => XS.iloadN X0.here hx rfl (hb hby d2_14) rfl) ?_
    show own_Ends p e below s _ _ _ T0 (mkF m 15 #[.val (.ref o0), .val (.double d1), .second, .val (.int (0 : Int32)), .val (.int (1 : Int32)), .val (.int (1 : Int32))] [(.int (0 : Int32))])
    refine own_step (fun _ => XS.iload X0.here hx rfl (hb hby d2_15) rfl) ?_
    show own_Ends p e below s _ _ _ T0 (mkF m 17 #[.val (.ref o0), .val (.double d1), .second, .val (.int (0 : Int32)), .val (.int (1 : Int32)), .val (.int (1 : Int32))] [(.int (1 : Int32)), (.int (0 : Int32))])
    refine own_step (fun _ => XS.iadd X0.here hx rfl (hb hby d2_17) rfl) ?_
    show own_Ends p e below s _ _ _ T0 (mkF m 18 #[.val (.ref o0), .val (.double d1), .second, .val (.int (0 : Int32)), .val (.int (1 : Int32)), .val (.int (1 : Int32))] [(.int (1 : Int32))])
    refine own_step (fun _ => XS.iconst X0.here hx rfl (hb hby d2_18)) ?_
    show own_Ends p e below s _ _ _ T0 (mkF m 19 #[.val (.ref o0), .val (.double d1), .second, .val (.int (0 : Int32)), .val (.int (1 : Int32)), .val (.int (1 : Int32))] [(.int (1 : Int32)), (.int (1 : Int32))])
    refine own_step (fun _ => XS.iushr X0.here hx rfl (hb hby d2_19) rfl) ?_
    show own_Ends p e below s _ _ _ T0 (mkF m 20 #[.val (.ref o0), .val (.double d1), .second, .val (.int (0 : Int32)), .val (.int (1 : Int32)), .val (.int (1 : Int32))] [(.int (0 : Int32))])
    refine own_step (fun _ => XS.istore X0.here hx rfl (hb hby d2_20) rfl (l' := #[.val (.ref o0), .val (.double d1), .second, .val (.int (0 : Int32)), .val (.int (1 : Int32)), .val (.int (0 : Int32))]) rfl) ?_
    show own_Ends p e below s _ _ _ T0 (mkF m 22 #[.val (.ref o0), .val (.double d1), .second, .val (.int (0 : Int32)), .val (.int (1 : Int32)), .val (.int (0 : Int32))] [])
    refine own_step (fun _ => XS.aloadN X0.here hx rfl (hb hby d2_22) rfl rfl) ?_
    show own_Ends p e below s _ _ _ T0 (mkF m 23 #[.val (.ref o0), .val (.double d1), .second, .val (.int (0 : Int32)), .val (.int (1 : Int32)), .val (.int (0 : Int32))] [(.ref o0)])
    refine own_step (fun _ => XS.iload X0.here hx rfl (hb hby d2_23) rfl) ?_
    show own_Ends p e below s _ _ _ T0 (mkF m 25 #[.val (.ref o0), .val (.double d1), .second, .val (.int (0 : Int32)), .val (.int (1 : Int32)), .val (.int (0 : Int32))] [(.int (0 : Int32)), (.ref o0)])
    obtain ⟨cl7, Ar7, q7, S7, N7_, H7, G7⟩ := id Vt
    have hin7 : ¬ ((0 : Int32) < 0 ∨ cl7.slots.size ≤ ((0 : Int32)).toNatClampNeg) := inb_of S7 ⟨by decide, by decide⟩
    have hat7 : cl7.slots[((0 : Int32)).toNatClampNeg]? = some (.double t0) := H7.at hin7 rfl
    refine own_step (fun _ => X0.daload hx (j := (0 : Int32)) (v := (.double t0)) (by rw [e0]; exact Ar7.1) (State.isArrayOf_alike hZ.alike Ar7.2.1) Ar7.2.2 hin7 hat7 (g := (mkF m 25 #[.val (.ref o0), .val (.double d1), .second, .val (.int (0 : Int32)), .val (.int (1 : Int32)), .val (.int (0 : Int32))] [(.int (0 : Int32)), (.ref o0)])) rfl rfl (hb hby d2_25) _) ?_
    show own_Ends p e below s _ _ _ T0 (mkF m 26 #[.val (.ref o0), .val (.double d1), .second, .val (.int (0 : Int32)), .val (.int (1 : Int32)), .val (.int (0 : Int32))] [(.double t0)])
    refine own_step (fun _ => XS.dloadN X0.here hx rfl (hb hby d2_26) rfl) ?_
    show own_Ends p e below s _ _ _ T0 (mkF m 27 #[.val (.ref o0), .val (.double d1), .second, .val (.int (0 : Int32)), .val (.int (1 : Int32)), .val (.int (0 : Int32))] [(.double d1), (.double t0)])
    refine own_step (fun _ => XS.dcmpS X0.here hx rfl (hb hby d2_27) rfl rfl) ?_
    show own_Ends p e below s _ _ _ T0 (mkF m 28 #[.val (.ref o0), .val (.double d1), .second, .val (.int (0 : Int32)), .val (.int (1 : Int32)), .val (.int (0 : Int32))] [(.int (cmpValue (FP.dcmp t0 d1) .l))])
    by_cases hc28 : (0 : Int32) < (cmpValue (FP.dcmp t0 d1) .l)
    · have hv_t_t := hv_t.trans (if_pos hc28)
      refine own_step (fun _ => XS.ifNo X0.here hx rfl (hb hby d2_28) rfl ((if0 _ _).trans (tlt hc28).2.2.2)) ?_
      show own_Ends p e below s _ _ _ T0 (mkF m 31 #[.val (.ref o0), .val (.double d1), .second, .val (.int (0 : Int32)), .val (.int (1 : Int32)), .val (.int (0 : Int32))] [])
      refine own_step (fun _ => XS.iload X0.here hx rfl (hb hby d2_31) rfl) ?_
      show own_Ends p e below s _ _ _ T0 (mkF m 33 #[.val (.ref o0), .val (.double d1), .second, .val (.int (0 : Int32)), .val (.int (1 : Int32)), .val (.int (0 : Int32))] [(.int (0 : Int32))])
      refine own_step (fun _ => XS.istore X0.here hx rfl (hb hby d2_33) rfl (l' := #[.val (.ref o0), .val (.double d1), .second, .val (.int (0 : Int32)), .val (.int (0 : Int32)), .val (.int (0 : Int32))]) rfl) ?_
      show own_Ends p e below s _ _ _ T0 (mkF m 35 #[.val (.ref o0), .val (.double d1), .second, .val (.int (0 : Int32)), .val (.int (0 : Int32)), .val (.int (0 : Int32))] [])
      refine own_step (fun _ => XS.goto X0.here hx rfl (pc0 := 35) (pc' := 43) rfl (hb hby d2_35) (by decide) (by decide)) ?_
      show own_Ends p e below s _ _ _ T0 (mkF m 43 #[.val (.ref o0), .val (.double d1), .second, .val (.int (0 : Int32)), .val (.int (0 : Int32)), .val (.int (0 : Int32))] [])
      refine own_step (fun _ => XS.goto X0.here hx rfl (pc0 := 43) (pc' := 8) rfl (hb hby d2_43) (by decide) (by decide)) ?_
      show own_Ends p e below s _ _ _ T0 (mkF m 8 #[.val (.ref o0), .val (.double d1), .second, .val (.int (0 : Int32)), .val (.int (0 : Int32)), .val (.int (0 : Int32))] [])
      refine own_step (fun _ => XS.iloadN X0.here hx rfl (hb hby d2_8) rfl) ?_
      show own_Ends p e below s _ _ _ T0 (mkF m 9 #[.val (.ref o0), .val (.double d1), .second, .val (.int (0 : Int32)), .val (.int (0 : Int32)), .val (.int (0 : Int32))] [(.int (0 : Int32))])
      refine own_step (fun _ => XS.iload X0.here hx rfl (hb hby d2_9) rfl) ?_
      show own_Ends p e below s _ _ _ T0 (mkF m 11 #[.val (.ref o0), .val (.double d1), .second, .val (.int (0 : Int32)), .val (.int (0 : Int32)), .val (.int (0 : Int32))] [(.int (0 : Int32)), (.int (0 : Int32))])
      refine own_step (fun _ => XS.icmpYes X0.here hx rfl (pc0 := 11) (pc' := 46) rfl (hb hby d2_11) rfl (flt (show ¬ ((0 : Int32) < (0 : Int32)) from (by decide))).2.1 (by decide) (by decide)) ?_
      show own_Ends p e below s _ _ _ T0 (mkF m 46 #[.val (.ref o0), .val (.double d1), .second, .val (.int (0 : Int32)), .val (.int (0 : Int32)), .val (.int (0 : Int32))] [])
      refine own_step (fun _ => XS.iloadN X0.here hx rfl (hb hby d2_46) rfl) ?_
      show own_Ends p e below s _ _ _ T0 (mkF m 47 #[.val (.ref o0), .val (.double d1), .second, .val (.int (0 : Int32)), .val (.int (0 : Int32)), .val (.int (0 : Int32))] [(.int (0 : Int32))])
      exact own_retI X0 hx hret hlk (hb hby d2_47) (by decide) (by decide) ⟨congrArg (fun z => some (Value.int z)) hv_t_t.symm, N0, e0⟩
    · have hv_t_f := hv_t.trans (if_neg hc28)
      refine own_step (fun _ => XS.ifYes X0.here hx rfl (pc0 := 28) (pc' := 38) rfl (hb hby d2_28) rfl ((if0 _ _).trans (flt hc28).2.2.2) (by decide) (by decide)) ?_
      show own_Ends p e below s _ _ _ T0 (mkF m 38 #[.val (.ref o0), .val (.double d1), .second, .val (.int (0 : Int32)), .val (.int (1 : Int32)), .val (.int (0 : Int32))] [])
      refine own_step (fun _ => XS.iload X0.here hx rfl (hb hby d2_38) rfl) ?_
      show own_Ends p e below s _ _ _ T0 (mkF m 40 #[.val (.ref o0), .val (.double d1), .second, .val (.int (0 : Int32)), .val (.int (1 : Int32)), .val (.int (0 : Int32))] [(.int (0 : Int32))])
      refine own_step (fun _ => XS.iconst X0.here hx rfl (hb hby d2_40)) ?_
      show own_Ends p e below s _ _ _ T0 (mkF m 41 #[.val (.ref o0), .val (.double d1), .second, .val (.int (0 : Int32)), .val (.int (1 : Int32)), .val (.int (0 : Int32))] [(.int (1 : Int32)), (.int (0 : Int32))])
      refine own_step (fun _ => XS.iadd X0.here hx rfl (hb hby d2_41) rfl) ?_
      show own_Ends p e below s _ _ _ T0 (mkF m 42 #[.val (.ref o0), .val (.double d1), .second, .val (.int (0 : Int32)), .val (.int (1 : Int32)), .val (.int (0 : Int32))] [(.int (1 : Int32))])
      refine own_step (fun _ => XS.istoreN X0.here hx rfl (hb hby d2_42) rfl (l' := #[.val (.ref o0), .val (.double d1), .second, .val (.int (1 : Int32)), .val (.int (1 : Int32)), .val (.int (0 : Int32))]) rfl) ?_
      show own_Ends p e below s _ _ _ T0 (mkF m 43 #[.val (.ref o0), .val (.double d1), .second, .val (.int (1 : Int32)), .val (.int (1 : Int32)), .val (.int (0 : Int32))] [])
      refine own_step (fun _ => XS.goto X0.here hx rfl (pc0 := 43) (pc' := 8) rfl (hb hby d2_43) (by decide) (by decide)) ?_
      show own_Ends p e below s _ _ _ T0 (mkF m 8 #[.val (.ref o0), .val (.double d1), .second, .val (.int (1 : Int32)), .val (.int (1 : Int32)), .val (.int (0 : Int32))] [])
      refine own_step (fun _ => XS.iloadN X0.here hx rfl (hb hby d2_8) rfl) ?_
      show own_Ends p e below s _ _ _ T0 (mkF m 9 #[.val (.ref o0), .val (.double d1), .second, .val (.int (1 : Int32)), .val (.int (1 : Int32)), .val (.int (0 : Int32))] [(.int (1 : Int32))])
      refine own_step (fun _ => XS.iload X0.here hx rfl (hb hby d2_9) rfl) ?_
      show own_Ends p e below s _ _ _ T0 (mkF m 11 #[.val (.ref o0), .val (.double d1), .second, .val (.int (1 : Int32)), .val (.int (1 : Int32)), .val (.int (0 : Int32))] [(.int (1 : Int32)), (.int (1 : Int32))])
      refine own_step (fun _ => XS.icmpYes X0.here hx rfl (pc0 := 11) (pc' := 46) rfl (hb hby d2_11) rfl (flt (show ¬ ((1 : Int32) < (1 : Int32)) from (by decide))).2.1 (by decide) (by decide)) ?_
      show own_Ends p e below s _ _ _ T0 (mkF m 46 #[.val (.ref o0), .val (.double d1), .second, .val (.int (1 : Int32)), .val (.int (1 : Int32)), .val (.int (0 : Int32))] [])
      refine own_step (fun _ => XS.iloadN X0.here hx rfl (hb hby d2_46) rfl) ?_
      show own_Ends p e below s _ _ _ T0 (mkF m 47 #[.val (.ref o0), .val (.double d1), .second, .val (.int (1 : Int32)), .val (.int (1 : Int32)), .val (.int (0 : Int32))] [(.int (1 : Int32))])
      exact own_retI X0 hx hret hlk (hb hby d2_47) (by decide) (by decide) ⟨congrArg (fun z => some (Value.int z)) hv_t_f.symm, N0, e0⟩
  · have hv_f := hv.trans (if_neg hc28)
    refine own_step (fun _ => XS.ifYes X0.here hx rfl (pc0 := 28) (pc' := 38) rfl (hb hby d2_28) rfl ((if0 _ _).trans (flt hc28).2.2.2) (by decide) (by decide)) ?_
    show own_Ends p e below s _ _ _ T0 (mkF m 38 #[.val (.ref o0), .val (.double d1), .second, .val (.int (0 : Int32)), .val (.int (3 : Int32)), .val (.int (1 : Int32))] [])
    refine own_step (fun _ => XS.iload X0.here hx rfl (hb hby d2_38) rfl) ?_
    show own_Ends p e below s _ _ _ T0 (mkF m 40 #[.val (.ref o0), .val (.double d1), .second, .val (.int (0 : Int32)), .val (.int (3 : Int32)), .val (.int (1 : Int32))] [(.int (1 : Int32))])
    refine own_step (fun _ => XS.iconst X0.here hx rfl (hb hby d2_40)) ?_
    show own_Ends p e below s _ _ _ T0 (mkF m 41 #[.val (.ref o0), .val (.double d1), .second, .val (.int (0 : Int32)), .val (.int (3 : Int32)), .val (.int (1 : Int32))] [(.int (1 : Int32)), (.int (1 : Int32))])
    refine own_step (fun _ => XS.iadd X0.here hx rfl (hb hby d2_41) rfl) ?_
    show own_Ends p e below s _ _ _ T0 (mkF m 42 #[.val (.ref o0), .val (.double d1), .second, .val (.int (0 : Int32)), .val (.int (3 : Int32)), .val (.int (1 : Int32))] [(.int (2 : Int32))])
    refine own_step (fun _ => XS.istoreN X0.here hx rfl (hb hby d2_42) rfl (l' := #[.val (.ref o0), .val (.double d1), .second, .val (.int (2 : Int32)), .val (.int (3 : Int32)), .val (.int (1 : Int32))]) rfl) ?_
    show own_Ends p e below s _ _ _ T0 (mkF m 43 #[.val (.ref o0), .val (.double d1), .second, .val (.int (2 : Int32)), .val (.int (3 : Int32)), .val (.int (1 : Int32))] [])
    refine own_step (fun _ => XS.goto X0.here hx rfl (pc0 := 43) (pc' := 8) rfl (hb hby d2_43) (by decide) (by decide)) ?_
    show own_Ends p e below s _ _ _ T0 (mkF m 8 #[.val (.ref o0), .val (.double d1), .second, .val (.int (2 : Int32)), .val (.int (3 : Int32)), .val (.int (1 : Int32))] [])
    refine own_step (fun _ => XS.iloadN X0.here hx rfl (hb hby d2_8) rfl) ?_
    show own_Ends p e below s _ _ _ T0 (mkF m 9 #[.val (.ref o0), .val (.double d1), .second, .val (.int (2 : Int32)), .val (.int (3 : Int32)), .val (.int (1 : Int32))] [(.int (2 : Int32))])
    refine own_step (fun _ => XS.iload X0.here hx rfl (hb hby d2_9) rfl) ?_
    show own_Ends p e below s _ _ _ T0 (mkF m 11 #[.val (.ref o0), .val (.double d1), .second, .val (.int (2 : Int32)), .val (.int (3 : Int32)), .val (.int (1 : Int32))] [(.int (3 : Int32)), (.int (2 : Int32))])
    refine own_step (fun _ => XS.icmpNo X0.here hx rfl (hb hby d2_11) rfl (tlt (show (2 : Int32) < (3 : Int32) from (by decide))).2.1) ?_
    show own_Ends p e below s _ _ _ T0 (mkF m 14 #[.val (.ref o0), .val (.double d1), .second, .val (.int (2 : Int32)), .val (.int (3 : Int32)), .val (.int (1 : Int32))] [])
    refine own_step (fun _ => XS.iloadN X0.here hx rfl (hb hby d2_14) rfl) ?_
    show own_Ends p e below s _ _ _ T0 (mkF m 15 #[.val (.ref o0), .val (.double d1), .second, .val (.int (2 : Int32)), .val (.int (3 : Int32)), .val (.int (1 : Int32))] [(.int (2 : Int32))])
    refine own_step (fun _ => XS.iload X0.here hx rfl (hb hby d2_15) rfl) ?_
    show own_Ends p e below s _ _ _ T0 (mkF m 17 #[.val (.ref o0), .val (.double d1), .second, .val (.int (2 : Int32)), .val (.int (3 : Int32)), .val (.int (1 : Int32))] [(.int (3 : Int32)), (.int (2 : Int32))])
    refine own_step (fun _ => XS.iadd X0.here hx rfl (hb hby d2_17) rfl) ?_
    show own_Ends p e below s _ _ _ T0 (mkF m 18 #[.val (.ref o0), .val (.double d1), .second, .val (.int (2 : Int32)), .val (.int (3 : Int32)), .val (.int (1 : Int32))] [(.int (5 : Int32))])
    refine own_step (fun _ => XS.iconst X0.here hx rfl (hb hby d2_18)) ?_
    show own_Ends p e below s _ _ _ T0 (mkF m 19 #[.val (.ref o0), .val (.double d1), .second, .val (.int (2 : Int32)), .val (.int (3 : Int32)), .val (.int (1 : Int32))] [(.int (1 : Int32)), (.int (5 : Int32))])
    refine own_step (fun _ => XS.iushr X0.here hx rfl (hb hby d2_19) rfl) ?_
    show own_Ends p e below s _ _ _ T0 (mkF m 20 #[.val (.ref o0), .val (.double d1), .second, .val (.int (2 : Int32)), .val (.int (3 : Int32)), .val (.int (1 : Int32))] [(.int (2 : Int32))])
    refine own_step (fun _ => XS.istore X0.here hx rfl (hb hby d2_20) rfl (l' := #[.val (.ref o0), .val (.double d1), .second, .val (.int (2 : Int32)), .val (.int (3 : Int32)), .val (.int (2 : Int32))]) rfl) ?_
    show own_Ends p e below s _ _ _ T0 (mkF m 22 #[.val (.ref o0), .val (.double d1), .second, .val (.int (2 : Int32)), .val (.int (3 : Int32)), .val (.int (2 : Int32))] [])
    refine own_step (fun _ => XS.aloadN X0.here hx rfl (hb hby d2_22) rfl rfl) ?_
    show own_Ends p e below s _ _ _ T0 (mkF m 23 #[.val (.ref o0), .val (.double d1), .second, .val (.int (2 : Int32)), .val (.int (3 : Int32)), .val (.int (2 : Int32))] [(.ref o0)])
    refine own_step (fun _ => XS.iload X0.here hx rfl (hb hby d2_23) rfl) ?_
    show own_Ends p e below s _ _ _ T0 (mkF m 25 #[.val (.ref o0), .val (.double d1), .second, .val (.int (2 : Int32)), .val (.int (3 : Int32)), .val (.int (2 : Int32))] [(.int (2 : Int32)), (.ref o0)])
    obtain ⟨cl8, Ar8, q8, S8, N8_, H8, G8⟩ := id Vt
    have hin8 : ¬ ((2 : Int32) < 0 ∨ cl8.slots.size ≤ ((2 : Int32)).toNatClampNeg) := inb_of S8 ⟨by decide, by decide⟩
    have hat8 : cl8.slots[((2 : Int32)).toNatClampNeg]? = some (.double t2) := H8.at hin8 rfl
    refine own_step (fun _ => X0.daload hx (j := (2 : Int32)) (v := (.double t2)) (by rw [e0]; exact Ar8.1) (State.isArrayOf_alike hZ.alike Ar8.2.1) Ar8.2.2 hin8 hat8 (g := (mkF m 25 #[.val (.ref o0), .val (.double d1), .second, .val (.int (2 : Int32)), .val (.int (3 : Int32)), .val (.int (2 : Int32))] [(.int (2 : Int32)), (.ref o0)])) rfl rfl (hb hby d2_25) _) ?_
    show own_Ends p e below s _ _ _ T0 (mkF m 26 #[.val (.ref o0), .val (.double d1), .second, .val (.int (2 : Int32)), .val (.int (3 : Int32)), .val (.int (2 : Int32))] [(.double t2)])
    refine own_step (fun _ => XS.dloadN X0.here hx rfl (hb hby d2_26) rfl) ?_
    show own_Ends p e below s _ _ _ T0 (mkF m 27 #[.val (.ref o0), .val (.double d1), .second, .val (.int (2 : Int32)), .val (.int (3 : Int32)), .val (.int (2 : Int32))] [(.double d1), (.double t2)])
    refine own_step (fun _ => XS.dcmpS X0.here hx rfl (hb hby d2_27) rfl rfl) ?_
    show own_Ends p e below s _ _ _ T0 (mkF m 28 #[.val (.ref o0), .val (.double d1), .second, .val (.int (2 : Int32)), .val (.int (3 : Int32)), .val (.int (2 : Int32))] [(.int (cmpValue (FP.dcmp t2 d1) .l))])
    by_cases hc28 : (0 : Int32) < (cmpValue (FP.dcmp t2 d1) .l)
    · have hv_f_t := hv_f.trans (if_pos hc28)
      refine own_step (fun _ => XS.ifNo X0.here hx rfl (hb hby d2_28) rfl ((if0 _ _).trans (tlt hc28).2.2.2)) ?_
      show own_Ends p e below s _ _ _ T0 (mkF m 31 #[.val (.ref o0), .val (.double d1), .second, .val (.int (2 : Int32)), .val (.int (3 : Int32)), .val (.int (2 : Int32))] [])
      refine own_step (fun _ => XS.iload X0.here hx rfl (hb hby d2_31) rfl) ?_
      show own_Ends p e below s _ _ _ T0 (mkF m 33 #[.val (.ref o0), .val (.double d1), .second, .val (.int (2 : Int32)), .val (.int (3 : Int32)), .val (.int (2 : Int32))] [(.int (2 : Int32))])
      refine own_step (fun _ => XS.istore X0.here hx rfl (hb hby d2_33) rfl (l' := #[.val (.ref o0), .val (.double d1), .second, .val (.int (2 : Int32)), .val (.int (2 : Int32)), .val (.int (2 : Int32))]) rfl) ?_
      show own_Ends p e below s _ _ _ T0 (mkF m 35 #[.val (.ref o0), .val (.double d1), .second, .val (.int (2 : Int32)), .val (.int (2 : Int32)), .val (.int (2 : Int32))] [])
      refine own_step (fun _ => XS.goto X0.here hx rfl (pc0 := 35) (pc' := 43) rfl (hb hby d2_35) (by decide) (by decide)) ?_
      show own_Ends p e below s _ _ _ T0 (mkF m 43 #[.val (.ref o0), .val (.double d1), .second, .val (.int (2 : Int32)), .val (.int (2 : Int32)), .val (.int (2 : Int32))] [])
      refine own_step (fun _ => XS.goto X0.here hx rfl (pc0 := 43) (pc' := 8) rfl (hb hby d2_43) (by decide) (by decide)) ?_
      show own_Ends p e below s _ _ _ T0 (mkF m 8 #[.val (.ref o0), .val (.double d1), .second, .val (.int (2 : Int32)), .val (.int (2 : Int32)), .val (.int (2 : Int32))] [])
      refine own_step (fun _ => XS.iloadN X0.here hx rfl (hb hby d2_8) rfl) ?_
      show own_Ends p e below s _ _ _ T0 (mkF m 9 #[.val (.ref o0), .val (.double d1), .second, .val (.int (2 : Int32)), .val (.int (2 : Int32)), .val (.int (2 : Int32))] [(.int (2 : Int32))])
      refine own_step (fun _ => XS.iload X0.here hx rfl (hb hby d2_9) rfl) ?_
      show own_Ends p e below s _ _ _ T0 (mkF m 11 #[.val (.ref o0), .val (.double d1), .second, .val (.int (2 : Int32)), .val (.int (2 : Int32)), .val (.int (2 : Int32))] [(.int (2 : Int32)), (.int (2 : Int32))])
      refine own_step (fun _ => XS.icmpYes X0.here hx rfl (pc0 := 11) (pc' := 46) rfl (hb hby d2_11) rfl (flt (show ¬ ((2 : Int32) < (2 : Int32)) from (by decide))).2.1 (by decide) (by decide)) ?_
      show own_Ends p e below s _ _ _ T0 (mkF m 46 #[.val (.ref o0), .val (.double d1), .second, .val (.int (2 : Int32)), .val (.int (2 : Int32)), .val (.int (2 : Int32))] [])
      refine own_step (fun _ => XS.iloadN X0.here hx rfl (hb hby d2_46) rfl) ?_
      show own_Ends p e below s _ _ _ T0 (mkF m 47 #[.val (.ref o0), .val (.double d1), .second, .val (.int (2 : Int32)), .val (.int (2 : Int32)), .val (.int (2 : Int32))] [(.int (2 : Int32))])
      exact own_retI X0 hx hret hlk (hb hby d2_47) (by decide) (by decide) ⟨congrArg (fun z => some (Value.int z)) hv_f_t.symm, N0, e0⟩
    · have hv_f_f := hv_f.trans (if_neg hc28)
      refine own_step (fun _ => XS.ifYes X0.here hx rfl (pc0 := 28) (pc' := 38) rfl (hb hby d2_28) rfl ((if0 _ _).trans (flt hc28).2.2.2) (by decide) (by decide)) ?_
      show own_Ends p e below s _ _ _ T0 (mkF m 38 #[.val (.ref o0), .val (.double d1), .second, .val (.int (2 : Int32)), .val (.int (3 : Int32)), .val (.int (2 : Int32))] [])
      refine own_step (fun _ => XS.iload X0.here hx rfl (hb hby d2_38) rfl) ?_
      show own_Ends p e below s _ _ _ T0 (mkF m 40 #[.val (.ref o0), .val (.double d1), .second, .val (.int (2 : Int32)), .val (.int (3 : Int32)), .val (.int (2 : Int32))] [(.int (2 : Int32))])
      refine own_step (fun _ => XS.iconst X0.here hx rfl (hb hby d2_40)) ?_
      show own_Ends p e below s _ _ _ T0 (mkF m 41 #[.val (.ref o0), .val (.double d1), .second, .val (.int (2 : Int32)), .val (.int (3 : Int32)), .val (.int (2 : Int32))] [(.int (1 : Int32)), (.int (2 : Int32))])
      refine own_step (fun _ => XS.iadd X0.here hx rfl (hb hby d2_41) rfl) ?_
      show own_Ends p e below s _ _ _ T0 (mkF m 42 #[.val (.ref o0), .val (.double d1), .second, .val (.int (2 : Int32)), .val (.int (3 : Int32)), .val (.int (2 : Int32))] [(.int (3 : Int32))])
      refine own_step (fun _ => XS.istoreN X0.here hx rfl (hb hby d2_42) rfl (l' := #[.val (.ref o0), .val (.double d1), .second, .val (.int (3 : Int32)), .val (.int (3 : Int32)), .val (.int (2 : Int32))]) rfl) ?_
      show own_Ends p e below s _ _ _ T0 (mkF m 43 #[.val (.ref o0), .val (.double d1), .second, .val (.int (3 : Int32)), .val (.int (3 : Int32)), .val (.int (2 : Int32))] [])
      refine own_step (fun _ => XS.goto X0.here hx rfl (pc0 := 43) (pc' := 8) rfl (hb hby d2_43) (by decide) (by decide)) ?_
      show own_Ends p e below s _ _ _ T0 (mkF m 8 #[.val (.ref o0), .val (.double d1), .second, .val (.int (3 : Int32)), .val (.int (3 : Int32)), .val (.int (2 : Int32))] [])
      refine own_step (fun _ => XS.iloadN X0.here hx rfl (hb hby d2_8) rfl) ?_
      show own_Ends p e below s _ _ _ T0 (mkF m 9 #[.val (.ref o0), .val (.double d1), .second, .val (.int (3 : Int32)), .val (.int (3 : Int32)), .val (.int (2 : Int32))] [(.int (3 : Int32))])
      refine own_step (fun _ => XS.iload X0.here hx rfl (hb hby d2_9) rfl) ?_
      show own_Ends p e below s _ _ _ T0 (mkF m 11 #[.val (.ref o0), .val (.double d1), .second, .val (.int (3 : Int32)), .val (.int (3 : Int32)), .val (.int (2 : Int32))] [(.int (3 : Int32)), (.int (3 : Int32))])
      refine own_step (fun _ => XS.icmpYes X0.here hx rfl (pc0 := 11) (pc' := 46) rfl (hb hby d2_11) rfl (flt (show ¬ ((3 : Int32) < (3 : Int32)) from (by decide))).2.1 (by decide) (by decide)) ?_
      show own_Ends p e below s _ _ _ T0 (mkF m 46 #[.val (.ref o0), .val (.double d1), .second, .val (.int (3 : Int32)), .val (.int (3 : Int32)), .val (.int (2 : Int32))] [])
      refine own_step (fun _ => XS.iloadN X0.here hx rfl (hb hby d2_46) rfl) ?_
      show own_Ends p e below s _ _ _ T0 (mkF m 47 #[.val (.ref o0), .val (.double d1), .second, .val (.int (3 : Int32)), .val (.int (3 : Int32)), .val (.int (2 : Int32))] [(.int (3 : Int32))])
      exact own_retI X0 hx hret hlk (hb hby d2_47) (by decide) (by decide) ⟨congrArg (fun z => some (Value.int z)) hv_f_f.symm, N0, e0⟩
theorem ef_rm2_4 (m : MethodId) (o0 : Addr) (d1 : UInt64) : entryFrame m #[(.ref o0), (.double d1)] 6 = mkF m 0 #[.val (.ref o0), .val (.double d1), .second, .unset, .unset, .unset] [] := by first | (simp [entryFrame, mkF, argsToLocals, Value.category]; done) | rfl
set_option maxRecDepth 65536 in
set_option maxHeartbeats 40000000 in
theorem rm2_4 (l : Launch) (Z : State) (a0 : Array Value) (hw : ∀ d ∈ tables_1, d.before a0 Z = true) (ws : List Jvm.Cond) (o0 : Addr) (d1 : UInt64) (kt : ClassId) (t0 : UInt64) (t1 : UInt64) (t2 : UInt64) (t3 : UInt64) (h0 : Heap) (n0 : Nat) (Z0 : n0 ≤ h0.size) (Vt : Arv Z h0 o0 kt .double (4 : Int32) [(.double t0), (.double t1), (.double t2), (.double t3)] (.double 0)) :
    MetFree l (⟨"com/example/graded_queue/gradedqueue/sim/Cumulative", "firstAbove", "([DD)I"⟩ : MethodName) (head1 (Jvm.Cond.code (⟨"com/example/graded_queue/gradedqueue/sim/Cumulative", "firstAbove", "([DD)I"⟩ : MethodName) prog_56_method_2_code 6 (some .int) :: ws) ({ frames := 0, cells := 0, slots := 0, locals := 0 } : Room)) (fun a U => a = #[(.ref o0), (.double d1)] ∧ Z.Warmed39 U.vm ∧ U.heap = h0) (fun _ _ _ _ _ => True) (fun _ U o U' => ∃ v L, o = .returned v ∧ (own_Q n0 h0 (some (.int (f2d_0 d1 t0 t1 t2 t3)))) v U'.heap L ∧ FrameEnd U o U' L ({ frames := 0, cells := 0, slots := 0, locals := 0 } : Room).cells ({ frames := 0, cells := 0, slots := 0, locals := 0 } : Room).slots) := by
  refine MetFree.of_bodySF (plainFor_of_name pn_1) hisR ?_
  intro p e s m args below meth c s₁ Bd hml0 hP hK
  obtain ⟨rfl, hZ, hh⟩ := hP
  have X0 : Stand p l e ({ frames := 0, cells := 0, slots := 0, locals := 0 } : Room) s m #[(.ref o0), (.double d1)] below meth c s₁ [] 0 0 := Stand.of_body Bd
  have e0 : s₁.heap = h0 := by rw [← hh, Bd.state]; rfl
  have C : own_C "com/example/graded_queue/gradedqueue/sim/Cumulative" prog_56_method_2_code 6 (some .int) "firstAbove" p s m meth c Z a0 := ⟨Bd.exec, hZ, hw, Bd.bytes, hml0, findClass_of_methodNamed Bd.named, Bd.returns, Bd.notSynchronized, (name_of_methodNamed Bd.named Bd.method).1⟩
  have r := b2d_0 C Z0 X0 e0 (Fr.nil n0) o0 d1 kt t0 t1 t2 t3 Vt _ rfl
  rw [ef_rm2_4 m o0 d1]
  exact r
def f2e_0 (d1 : UInt64) (t0 : UInt64) (t1 : UInt64) (t2 : UInt64) (t3 : UInt64) (t4 : UInt64) : Int32 := (if (0 : Int32) < (cmpValue (FP.dcmp t2 d1) .l) then (if (0 : Int32) < (cmpValue (FP.dcmp t1 d1) .l) then (if (0 : Int32) < (cmpValue (FP.dcmp t0 d1) .l) then (0 : Int32) else (1 : Int32)) else (2 : Int32)) else (if (0 : Int32) < (cmpValue (FP.dcmp t3 d1) .l) then (3 : Int32) else (4 : Int32)))
set_option maxRecDepth 65536 in
set_option maxHeartbeats 40000000 in
theorem b2e_0 {p : Program} {l : Launch} {e : Env} {s : State} {m : MethodId} {args : Array Value} {below : List Frame} {meth : Method} {c : Code} {Z : State} {a0 : Array Value} {h0 : Heap} {n0 : Nat} (C : own_C "com/example/graded_queue/gradedqueue/sim/Cumulative" prog_56_method_2_code 6 (some .int) "firstAbove" p s m meth c Z a0) (Z0 : n0 ≤ h0.size) {T0 : State} {locs : List Loc} (X0 : Stand p l e ({ frames := 0, cells := 0, slots := 0, locals := 0 } : Room) s m args below meth c T0 locs 0 0) (e0 : T0.heap = h0) (N0 : Fr n0 locs) (o0 : Addr) (d1 : UInt64) (kt : ClassId) (t0 : UInt64) (t1 : UInt64) (t2 : UInt64) (t3 : UInt64) (t4 : UInt64) (Vt : Arv Z h0 o0 kt .double (5 : Int32) [(.double t0), (.double t1), (.double t2), (.double t3), (.double t4)] (.double 0)) (W : Int32) (hv : W = f2e_0 d1 t0 t1 t2 t3 t4) :
    own_Ends p e below s ({ frames := 0, cells := 0, slots := 0, locals := 0 } : Room).cells ({ frames := 0, cells := 0, slots := 0, locals := 0 } : Room).slots (own_Q n0 h0 (some (.int W))) T0 (mkF m 0 #[.val (.ref o0), .val (.double d1), .second, .unset, .unset, .unset] []) := by
  obtain ⟨hx, hZ, hw, hby, hml, hown, hret, hlk, hnm⟩ := C
  have C : own_C "com/example/graded_queue/gradedqueue/sim/Cumulative" prog_56_method_2_code 6 (some .int) "firstAbove" p s m meth c Z a0 := ⟨hx, hZ, hw, hby, hml, hown, hret, hlk, hnm⟩
  unfold f2e_0 at hv
  refine own_step (fun _ => XS.iconst X0.here hx rfl (hb hby d2_0)) ?_
  show own_Ends p e below s _ _ _ T0 (mkF m 1 #[.val (.ref o0), .val (.double d1), .second, .unset, .unset, .unset] [(.int (0 : Int32))])
  refine own_step (fun _ => XS.istoreN X0.here hx rfl (hb hby d2_1) rfl (l' := #[.val (.ref o0), .val (.double d1), .second, .val (.int (0 : Int32)), .unset, .unset]) rfl) ?_
  show own_Ends p e below s _ _ _ T0 (mkF m 2 #[.val (.ref o0), .val (.double d1), .second, .val (.int (0 : Int32)), .unset, .unset] [])
  refine own_step (fun _ => XS.aloadN X0.here hx rfl (hb hby d2_2) rfl rfl) ?_
  show own_Ends p e below s _ _ _ T0 (mkF m 3 #[.val (.ref o0), .val (.double d1), .second, .val (.int (0 : Int32)), .unset, .unset] [(.ref o0)])
  obtain ⟨cl6, Ar6, q6, S6, N6_, H6, G6⟩ := id Vt
  refine own_step (fun _ => X0.arraylength hx (by rw [e0]; exact Ar6.1) (State.isArrayOf_alike hZ.alike Ar6.2.1) (g := (mkF m 3 #[.val (.ref o0), .val (.double d1), .second, .val (.int (0 : Int32)), .unset, .unset] [(.ref o0)])) rfl rfl (hb hby d2_3) _) ?_
  rw [len_of S6 N6_]
  show own_Ends p e below s _ _ _ T0 (mkF m 4 #[.val (.ref o0), .val (.double d1), .second, .val (.int (0 : Int32)), .unset, .unset] [(.int (5 : Int32))])
  refine own_step (fun _ => XS.iconst X0.here hx rfl (hb hby d2_4)) ?_
  show own_Ends p e below s _ _ _ T0 (mkF m 5 #[.val (.ref o0), .val (.double d1), .second, .val (.int (0 : Int32)), .unset, .unset] [(.int (1 : Int32)), (.int (5 : Int32))])
  refine own_step (fun _ => XS.isub X0.here hx rfl (hb hby d2_5) rfl) ?_
  show own_Ends p e below s _ _ _ T0 (mkF m 6 #[.val (.ref o0), .val (.double d1), .second, .val (.int (0 : Int32)), .unset, .unset] [(.int (4 : Int32))])
  refine own_step (fun _ => XS.istore X0.here hx rfl (hb hby d2_6) rfl (l' := #[.val (.ref o0), .val (.double d1), .second, .val (.int (0 : Int32)), .val (.int (4 : Int32)), .unset]) rfl) ?_
  show own_Ends p e below s _ _ _ T0 (mkF m 8 #[.val (.ref o0), .val (.double d1), .second, .val (.int (0 : Int32)), .val (.int (4 : Int32)), .unset] [])
  refine own_step (fun _ => XS.iloadN X0.here hx rfl (hb hby d2_8) rfl) ?_
  show own_Ends p e below s _ _ _ T0 (mkF m 9 #[.val (.ref o0), .val (.double d1), .second, .val (.int (0 : Int32)), .val (.int (4 : Int32)), .unset] [(.int (0 : Int32))])
  refine own_step (fun _ => XS.iload X0.here hx rfl (hb hby d2_9) rfl) ?_
  show own_Ends p e below s _ _ _ T0 (mkF m 11 #[.val (.ref o0), .val (.double d1), .second, .val (.int (0 : Int32)), .val (.int (4 : Int32)), .unset] [(.int (4 : Int32)), (.int (0 : Int32))])
  refine own_step (fun _ => XS.icmpNo X0.here hx rfl (hb hby d2_11) rfl (tlt (show (0 : Int32) < (4 : Int32) from (by decide))).2.1) ?_
  show own_Ends p e below s _ _ _ T0 (mkF m 14 #[.val (.ref o0), .val (.double d1), .second, .val (.int (0 : Int32)), .val (.int (4 : Int32)), .unset] [])
  refine own_step (fun _ => XS.iloadN X0.here hx rfl (hb hby d2_14) rfl) ?_
  show own_Ends p e below s _ _ _ T0 (mkF m 15 #[.val (.ref o0), .val (.double d1), .second, .val (.int (0 : Int32)), .val (.int (4 : Int32)), .unset] [(.int (0 : Int32))])
  refine own_step (fun _ => XS.iload X0.here hx rfl (hb hby d2_15) rfl) ?_
  show own_Ends p e below s _ _ _ T0 (mkF m 17 #[.val (.ref o0), .val (.double d1), .second, .val (.int (0 : Int32)), .val (.int (4 : Int32)), .unset] [(.int (4 : Int32)), (.int (0 : Int32))])
  refine own_step (fun _ => XS.iadd X0.here hx rfl (hb hby d2_17) rfl) ?_
  show own_Ends p e below s _ _ _ T0 (mkF m 18 #[.val (.ref o0), .val (.double d1), .second, .val (.int (0 : Int32)), .val (.int (4 : Int32)), .unset] [(.int (4 : Int32))])
  refine own_step (fun _ => XS.iconst X0.here hx rfl (hb hby d2_18)) ?_
  show own_Ends p e below s _ _ _ T0 (mkF m 19 #[.val (.ref o0), .val (.double d1), .second, .val (.int (0 : Int32)), .val (.int (4 : Int32)), .unset] [(.int (1 : Int32)), (.int (4 : Int32))])
  refine own_step (fun _ => XS.iushr X0.here hx rfl (hb hby d2_19) rfl) ?_
  show own_Ends p e below s _ _ _ T0 (mkF m 20 #[.val (.ref o0), .val (.double d1), .second, .val (.int (0 : Int32)), .val (.int (4 : Int32)), .unset] [(.int (2 : Int32))])
  refine own_step (fun _ => XS.istore X0.here hx rfl (hb hby d2_20) rfl (l' := #[.val (.ref o0), .val (.double d1), .second, .val (.int (0 : Int32)), .val (.int (4 : Int32)), .val (.int (2 : Int32))]) rfl) ?_
  show own_Ends p e below s _ _ _ T0 (mkF m 22 #[.val (.ref o0), .val (.double d1), .second, .val (.int (0 : Int32)), .val (.int (4 : Int32)), .val (.int (2 : Int32))] [])
  refine own_step (fun _ => XS.aloadN X0.here hx rfl (hb hby d2_22) rfl rfl) ?_
  show own_Ends p e below s _ _ _ T0 (mkF m 23 #[.val (.ref o0), .val (.double d1), .second, .val (.int (0 : Int32)), .val (.int (4 : Int32)), .val (.int (2 : Int32))] [(.ref o0)])
  refine own_step (fun _ => XS.iload X0.here hx rfl (hb hby d2_23) rfl) ?_
  show own_Ends p e below s _ _ _ T0 (mkF m 25 #[.val (.ref o0), .val (.double d1), .second, .val (.int (0 : Int32)), .val (.int (4 : Int32)), .val (.int (2 : Int32))] [(.int (2 : Int32)), (.ref o0)])
  obtain ⟨cl7, Ar7, q7, S7, N7_, H7, G7⟩ := id Vt
  have hin7 : ¬ ((2 : Int32) < 0 ∨ cl7.slots.size ≤ ((2 : Int32)).toNatClampNeg) := inb_of S7 ⟨by decide, by decide⟩
  have hat7 : cl7.slots[((2 : Int32)).toNatClampNeg]? = some (.double t2) := H7.at hin7 rfl
  refine own_step (fun _ => X0.daload hx (j := (2 : Int32)) (v := (.double t2)) (by rw [e0]; exact Ar7.1) (State.isArrayOf_alike hZ.alike Ar7.2.1) Ar7.2.2 hin7 hat7 (g := (mkF m 25 #[.val (.ref o0), .val (.double d1), .second, .val (.int (0 : Int32)), .val (.int (4 : Int32)), .val (.int (2 : Int32))] [(.int (2 : Int32)), (.ref o0)])) rfl rfl (hb hby d2_25) _) ?_
  show own_Ends p e below s _ _ _ T0 (mkF m 26 #[.val (.ref o0), .val (.double d1), .second, .val (.int (0 : Int32)), .val (.int (4 : Int32)), .val (.int (2 : Int32))] [(.double t2)])
  refine own_step (fun _ => XS.dloadN X0.here hx rfl (hb hby d2_26) rfl) ?_
  show own_Ends p e below s _ _ _ T0 (mkF m 27 #[.val (.ref o0), .val (.double d1), .second, .val (.int (0 : Int32)), .val (.int (4 : Int32)), .val (.int (2 : Int32))] [(.double d1), (.double t2)])
  refine own_step (fun _ => XS.dcmpS X0.here hx rfl (hb hby d2_27) rfl rfl) ?_
  show own_Ends p e below s _ _ _ T0 (mkF m 28 #[.val (.ref o0), .val (.double d1), .second, .val (.int (0 : Int32)), .val (.int (4 : Int32)), .val (.int (2 : Int32))] [(.int (cmpValue (FP.dcmp t2 d1) .l))])
  by_cases hc28 : (0 : Int32) < (cmpValue (FP.dcmp t2 d1) .l)
  · have hv_t := hv.trans (if_pos hc28)
    refine own_step (fun _ => XS.ifNo X0.here hx rfl (hb hby d2_28) rfl ((if0 _ _).trans (tlt hc28).2.2.2)) ?_
    show own_Ends p e below s _ _ _ T0 (mkF m 31 #[.val (.ref o0), .val (.double d1), .second, .val (.int (0 : Int32)), .val (.int (4 : Int32)), .val (.int (2 : Int32))] [])
    refine own_step (fun _ => XS.iload X0.here hx rfl (hb hby d2_31) rfl) ?_
    show own_Ends p e below s _ _ _ T0 (mkF m 33 #[.val (.ref o0), .val (.double d1), .second, .val (.int (0 : Int32)), .val (.int (4 : Int32)), .val (.int (2 : Int32))] [(.int (2 : Int32))])
    refine own_step (fun _ => XS.istore X0.here hx rfl (hb hby d2_33) rfl (l' := #[.val (.ref o0), .val (.double d1), .second, .val (.int (0 : Int32)), .val (.int (2 : Int32)), .val (.int (2 : Int32))]) rfl) ?_
    show own_Ends p e below s _ _ _ T0 (mkF m 35 #[.val (.ref o0), .val (.double d1), .second, .val (.int (0 : Int32)), .val (.int (2 : Int32)), .val (.int (2 : Int32))] [])
    refine own_step (fun _ => XS.goto X0.here hx rfl (pc0 := 35) (pc' := 43) rfl (hb hby d2_35) (by decide) (by decide)) ?_
    show own_Ends p e below s _ _ _ T0 (mkF m 43 #[.val (.ref o0), .val (.double d1), .second, .val (.int (0 : Int32)), .val (.int (2 : Int32)), .val (.int (2 : Int32))] [])
    refine own_step (fun _ => XS.goto X0.here hx rfl (pc0 := 43) (pc' := 8) rfl (hb hby d2_43) (by decide) (by decide)) ?_
    show own_Ends p e below s _ _ _ T0 (mkF m 8 #[.val (.ref o0), .val (.double d1), .second, .val (.int (0 : Int32)), .val (.int (2 : Int32)), .val (.int (2 : Int32))] [])
    refine own_step (fun _ => XS.iloadN X0.here hx rfl (hb hby d2_8) rfl) ?_
    show own_Ends p e below s _ _ _ T0 (mkF m 9 #[.val (.ref o0), .val (.double d1), .second, .val (.int (0 : Int32)), .val (.int (2 : Int32)), .val (.int (2 : Int32))] [(.int (0 : Int32))])
    refine own_step (fun _ => XS.iload X0.here hx rfl (hb hby d2_9) rfl) ?_
    show own_Ends p e below s _ _ _ T0 (mkF m 11 #[.val (.ref o0), .val (.double d1), .second, .val (.int (0 : Int32)), .val (.int (2 : Int32)), .val (.int (2 : Int32))] [(.int (2 : Int32)), (.int (0 : Int32))])
    refine own_step (fun _ => XS.icmpNo X0.here hx rfl (hb hby d2_11) rfl (tlt (show (0 : Int32) < (2 : Int32) from (by decide))).2.1) ?_
    show own_Ends p e below s _ _ _ T0 (mkF m 14 #[.val (.ref o0), .val (.double d1), .second, .val (.int (0 : Int32)), .val (.int (2 : Int32)), .val (.int (2 : Int32))] [])
    refine own_step (fun _ => XS.iloadN X0.here hx rfl (hb hby d2_14) rfl) ?_
    show own_Ends p e below s _ _ _ T0 (mkF m 15 #[.val (.ref o0), .val (.double d1), .second, .val (.int (0 : Int32)), .val (.int (2 : Int32)), .val (.int (2 : Int32))] [(.int (0 : Int32))])
    refine own_step (fun _ => XS.iload X0.here hx rfl (hb hby d2_15) rfl) ?_
    show own_Ends p e below s _ _ _ T0 (mkF m 17 #[.val (.ref o0), .val (.double d1), .second, .val (.int (0 : Int32)), .val (.int (2 : Int32)), .val (.int (2 : Int32))] [(.int (2 : Int32)), (.int (0 : Int32))])
    refine own_step (fun _ => XS.iadd X0.here hx rfl (hb hby d2_17) rfl) ?_
    show own_Ends p e below s _ _ _ T0 (mkF m 18 #[.val (.ref o0), .val (.double d1), .second, .val (.int (0 : Int32)), .val (.int (2 : Int32)), .val (.int (2 : Int32))] [(.int (2 : Int32))])
    refine own_step (fun _ => XS.iconst X0.here hx rfl (hb hby d2_18)) ?_
    show own_Ends p e below s _ _ _ T0 (mkF m 19 #[.val (.ref o0), .val (.double d1), .second, .val (.int (0 : Int32)), .val (.int (2 : Int32)), .val (.int (2 : Int32))] [(.int (1 : Int32)), (.int (2 : Int32))])
    refine own_step (fun _ => XS.iushr X0.here hx rfl (hb hby d2_19) rfl) ?_
    show own_Ends p e below s _ _ _ T0 (mkF m 20 #[.val (.ref o0), .val (.double d1), .second, .val (.int (0 : Int32)), .val (.int (2 : Int32)), .val (.int (2 : Int32))] [(.int (1 : Int32))])
    refine own_step (fun _ => XS.istore X0.here hx rfl (hb hby d2_20) rfl (l' := #[.val (.ref o0), .val (.double d1), .second, .val (.int (0 : Int32)), .val (.int (2 : Int32)), .val (.int (1 : Int32))]) rfl) ?_
    show own_Ends p e below s _ _ _ T0 (mkF m 22 #[.val (.ref o0), .val (.double d1), .second, .val (.int (0 : Int32)), .val (.int (2 : Int32)), .val (.int (1 : Int32))] [])
    refine own_step (fun _ => XS.aloadN X0.here hx rfl (hb hby d2_22) rfl rfl) ?_
    show own_Ends p e below s _ _ _ T0 (mkF m 23 #[.val (.ref o0), .val (.double d1), .second, .val (.int (0 : Int32)), .val (.int (2 : Int32)), .val (.int (1 : Int32))] [(.ref o0)])
    refine own_step (fun _ => XS.iload X0.here hx rfl (hb hby d2_23) rfl) ?_
    show own_Ends p e below s _ _ _ T0 (mkF m 25 #[.val (.ref o0), .val (.double d1), .second, .val (.int (0 : Int32)), .val (.int (2 : Int32)), .val (.int (1 : Int32))] [(.int (1 : Int32)), (.ref o0)])
    obtain ⟨cl8, Ar8, q8, S8, N8_, H8, G8⟩ := id Vt
    have hin8 : ¬ ((1 : Int32) < 0 ∨ cl8.slots.size ≤ ((1 : Int32)).toNatClampNeg) := inb_of S8 ⟨by decide, by decide⟩
    have hat8 : cl8.slots[((1 : Int32)).toNatClampNeg]? = some (.double t1) := H8.at hin8 rfl
    refine own_step (fun _ => X0.daload hx (j := (1 : Int32)) (v := (.double t1)) (by rw [e0]; exact Ar8.1) (State.isArrayOf_alike hZ.alike Ar8.2.1) Ar8.2.2 hin8 hat8 (g := (mkF m 25 #[.val (.ref o0), .val (.double d1), .second, .val (.int (0 : Int32)), .val (.int (2 : Int32)), .val (.int (1 : Int32))] [(.int (1 : Int32)), (.ref o0)])) rfl rfl (hb hby d2_25) _) ?_
    show own_Ends p e below s _ _ _ T0 (mkF m 26 #[.val (.ref o0), .val (.double d1), .second, .val (.int (0 : Int32)), .val (.int (2 : Int32)), .val (.int (1 : Int32))] [(.double t1)])
    refine own_step (fun _ => XS.dloadN X0.here hx rfl (hb hby d2_26) rfl) ?_
    show own_Ends p e below s _ _ _ T0 (mkF m 27 #[.val (.ref o0), .val (.double d1), .second, .val (.int (0 : Int32)), .val (.int (2 : Int32)), .val (.int (1 : Int32))] [(.double d1), (.double t1)])
    refine own_step (fun _ => XS.dcmpS X0.here hx rfl (hb hby d2_27) rfl rfl) ?_
    show own_Ends p e below s _ _ _ T0 (mkF m 28 #[.val (.ref o0), .val (.double d1), .second, .val (.int (0 : Int32)), .val (.int (2 : Int32)), .val (.int (1 : Int32))] [(.int (cmpValue (FP.dcmp t1 d1) .l))])
    by_cases hc28 : (0 : Int32) < (cmpValue (FP.dcmp t1 d1) .l)
    · have hv_t_t := hv_t.trans (if_pos hc28)
      refine own_step (fun _ => XS.ifNo X0.here hx rfl (hb hby d2_28) rfl ((if0 _ _).trans (tlt hc28).2.2.2)) ?_
      show own_Ends p e below s _ _ _ T0 (mkF m 31 #[.val (.ref o0), .val (.double d1), .second, .val (.int (0 : Int32)), .val (.int (2 : Int32)), .val (.int (1 : Int32))] [])
      refine own_step (fun _ => XS.iload X0.here hx rfl (hb hby d2_31) rfl) ?_
      show own_Ends p e below s _ _ _ T0 (mkF m 33 #[.val (.ref o0), .val (.double d1), .second, .val (.int (0 : Int32)), .val (.int (2 : Int32)), .val (.int (1 : Int32))] [(.int (1 : Int32))])
      refine own_step (fun _ => XS.istore X0.here hx rfl (hb hby d2_33) rfl (l' := #[.val (.ref o0), .val (.double d1), .second, .val (.int (0 : Int32)), .val (.int (1 : Int32)), .val (.int (1 : Int32))]) rfl) ?_
      show own_Ends p e below s _ _ _ T0 (mkF m 35 #[.val (.ref o0), .val (.double d1), .second, .val (.int (0 : Int32)), .val (.int (1 : Int32)), .val (.int (1 : Int32))] [])
      refine own_step (fun _ => XS.goto X0.here hx rfl (pc0 := 35) (pc' := 43) rfl (hb hby d2_35) (by decide) (by decide)) ?_
      show own_Ends p e below s _ _ _ T0 (mkF m 43 #[.val (.ref o0), .val (.double d1), .second, .val (.int (0 : Int32)), .val (.int (1 : Int32)), .val (.int (1 : Int32))] [])
      refine own_step (fun _ => XS.goto X0.here hx rfl (pc0 := 43) (pc' := 8) rfl (hb hby d2_43) (by decide) (by decide)) ?_
      show own_Ends p e below s _ _ _ T0 (mkF m 8 #[.val (.ref o0), .val (.double d1), .second, .val (.int (0 : Int32)), .val (.int (1 : Int32)), .val (.int (1 : Int32))] [])
      refine own_step (fun _ => XS.iloadN X0.here hx rfl (hb hby d2_8) rfl) ?_
      show own_Ends p e below s _ _ _ T0 (mkF m 9 #[.val (.ref o0), .val (.double d1), .second, .val (.int (0 : Int32)), .val (.int (1 : Int32)), .val (.int (1 : Int32))] [(.int (0 : Int32))])
      refine own_step (fun _ => XS.iload X0.here hx rfl (hb hby d2_9) rfl) ?_
      show own_Ends p e below s _ _ _ T0 (mkF m 11 #[.val (.ref o0), .val (.double d1), .second, .val (.int (0 : Int32)), .val (.int (1 : Int32)), .val (.int (1 : Int32))] [(.int (1 : Int32)), (.int (0 : Int32))])
      refine own_step (fun _ => XS.icmpNo X0.here hx rfl (hb hby d2_11) rfl (tlt (show (0 : Int32) < (1 : Int32) from (by decide))).2.1) ?_
      show own_Ends p e below s _ _ _ T0 (mkF m 14 #[.val (.ref o0), .val (.double d1), .second, .val (.int (0 : Int32)), .val (.int (1 : Int32)), .val (.int (1 : Int32))] [])
      refine own_step (fun _ => XS.iloadN X0.here hx rfl (hb hby d2_14) rfl) ?_
      show own_Ends p e below s _ _ _ T0 (mkF m 15 #[.val (.ref o0), .val (.double d1), .second, .val (.int (0 : Int32)), .val (.int (1 : Int32)), .val (.int (1 : Int32))] [(.int (0 : Int32))])
      refine own_step (fun _ => XS.iload X0.here hx rfl (hb hby d2_15) rfl) ?_
      show own_Ends p e below s _ _ _ T0 (mkF m 17 #[.val (.ref o0), .val (.double d1), .second, .val (.int (0 : Int32)), .val (.int (1 : Int32)), .val (.int (1 : Int32))] [(.int (1 : Int32)), (.int (0 : Int32))])
      refine own_step (fun _ => XS.iadd X0.here hx rfl (hb hby d2_17) rfl) ?_
      show own_Ends p e below s _ _ _ T0 (mkF m 18 #[.val (.ref o0), .val (.double d1), .second, .val (.int (0 : Int32)), .val (.int (1 : Int32)), .val (.int (1 : Int32))] [(.int (1 : Int32))])
      refine own_step (fun _ => XS.iconst X0.here hx rfl (hb hby d2_18)) ?_
      show own_Ends p e below s _ _ _ T0 (mkF m 19 #[.val (.ref o0), .val (.double d1), .second, .val (.int (0 : Int32)), .val (.int (1 : Int32)), .val (.int (1 : Int32))] [(.int (1 : Int32)), (.int (1 : Int32))])
      refine own_step (fun _ => XS.iushr X0.here hx rfl (hb hby d2_19) rfl) ?_
      show own_Ends p e below s _ _ _ T0 (mkF m 20 #[.val (.ref o0), .val (.double d1), .second, .val (.int (0 : Int32)), .val (.int (1 : Int32)), .val (.int (1 : Int32))] [(.int (0 : Int32))])
      refine own_step (fun _ => XS.istore X0.here hx rfl (hb hby d2_20) rfl (l' := #[.val (.ref o0), .val (.double d1), .second, .val (.int (0 : Int32)), .val (.int (1 : Int32)), .val (.int (0 : Int32))]) rfl) ?_
      show own_Ends p e below s _ _ _ T0 (mkF m 22 #[.val (.ref o0), .val (.double d1), .second, .val (.int (0 : Int32)), .val (.int (1 : Int32)), .val (.int (0 : Int32))] [])
      refine own_step (fun _ => XS.aloadN X0.here hx rfl (hb hby d2_22) rfl rfl) ?_
      show own_Ends p e below s _ _ _ T0 (mkF m 23 #[.val (.ref o0), .val (.double d1), .second, .val (.int (0 : Int32)), .val (.int (1 : Int32)), .val (.int (0 : Int32))] [(.ref o0)])
      refine own_step (fun _ => XS.iload X0.here hx rfl (hb hby d2_23) rfl) ?_
      show own_Ends p e below s _ _ _ T0 (mkF m 25 #[.val (.ref o0), .val (.double d1), .second, .val (.int (0 : Int32)), .val (.int (1 : Int32)), .val (.int (0 : Int32))] [(.int (0 : Int32)), (.ref o0)])
      obtain ⟨cl9, Ar9, q9, S9, N9_, H9, G9⟩ := id Vt
      have hin9 : ¬ ((0 : Int32) < 0 ∨ cl9.slots.size ≤ ((0 : Int32)).toNatClampNeg) := inb_of S9 ⟨by decide, by decide⟩
      have hat9 : cl9.slots[((0 : Int32)).toNatClampNeg]? = some (.double t0) := H9.at hin9 rfl
      refine own_step (fun _ => X0.daload hx (j := (0 : Int32)) (v := (.double t0)) (by rw [e0]; exact Ar9.1) (State.isArrayOf_alike hZ.alike Ar9.2.1) Ar9.2.2 hin9 hat9 (g := (mkF m 25 #[.val (.ref o0), .val (.double d1), .second, .val (.int (0 : Int32)), .val (.int (1 : Int32)), .val (.int (0 : Int32))] [(.int (0 : Int32)), (.ref o0)])) rfl rfl (hb hby d2_25) _) ?_
      show own_Ends p e below s _ _ _ T0 (mkF m 26 #[.val (.ref o0), .val (.double d1), .second, .val (.int (0 : Int32)), .val (.int (1 : Int32)), .val (.int (0 : Int32))] [(.double t0)])
      refine own_step (fun _ => XS.dloadN X0.here hx rfl (hb hby d2_26) rfl) ?_
      show own_Ends p e below s _ _ _ T0 (mkF m 27 #[.val (.ref o0), .val (.double d1), .second, .val (.int (0 : Int32)), .val (.int (1 : Int32)), .val (.int (0 : Int32))] [(.double d1), (.double t0)])
      refine own_step (fun _ => XS.dcmpS X0.here hx rfl (hb hby d2_27) rfl rfl) ?_
      show own_Ends p e below s _ _ _ T0 (mkF m 28 #[.val (.ref o0), .val (.double d1), .second, .val (.int (0 : Int32)), .val (.int (1 : Int32)), .val (.int (0 : Int32))] [(.int (cmpValue (FP.dcmp t0 d1) .l))])
      by_cases hc28 : (0 : Int32) < (cmpValue (FP.dcmp t0 d1) .l)
      · have hv_t_t_t := hv_t_t.trans (if_pos hc28)
        refine own_step (fun _ => XS.ifNo X0.here hx rfl (hb hby d2_28) rfl ((if0 _ _).trans (tlt hc28).2.2.2)) ?_
        show own_Ends p e below s _ _ _ T0 (mkF m 31 #[.val (.ref o0), .val (.double d1), .second, .val (.int (0 : Int32)), .val (.int (1 : Int32)), .val (.int (0 : Int32))] [])
        refine own_step (fun _ => XS.iload X0.here hx rfl (hb hby d2_31) rfl) ?_
        show own_Ends p e below s _ _ _ T0 (mkF m 33 #[.val (.ref o0), .val (.double d1), .second, .val (.int (0 : Int32)), .val (.int (1 : Int32)), .val (.int (0 : Int32))] [(.int (0 : Int32))])
        refine own_step (fun _ => XS.istore X0.here hx rfl (hb hby d2_33) rfl (l' := #[.val (.ref o0), .val (.double d1), .second, .val (.int (0 : Int32)), .val (.int (0 : Int32)), .val (.int (0 : Int32))]) rfl) ?_
        show own_Ends p e below s _ _ _ T0 (mkF m 35 #[.val (.ref o0), .val (.double d1), .second, .val (.int (0 : Int32)), .val (.int (0 : Int32)), .val (.int (0 : Int32))] [])
        refine own_step (fun _ => XS.goto X0.here hx rfl (pc0 := 35) (pc' := 43) rfl (hb hby d2_35) (by decide) (by decide)) ?_
        show own_Ends p e below s _ _ _ T0 (mkF m 43 #[.val (.ref o0), .val (.double d1), .second, .val (.int (0 : Int32)), .val (.int (0 : Int32)), .val (.int (0 : Int32))] [])
        refine own_step (fun _ => XS.goto X0.here hx rfl (pc0 := 43) (pc' := 8) rfl (hb hby d2_43) (by decide) (by decide)) ?_
        show own_Ends p e below s _ _ _ T0 (mkF m 8 #[.val (.ref o0), .val (.double d1), .second, .val (.int (0 : Int32)), .val (.int (0 : Int32)), .val (.int (0 : Int32))] [])
        refine own_step (fun _ => XS.iloadN X0.here hx rfl (hb hby d2_8) rfl) ?_
        show own_Ends p e below s _ _ _ T0 (mkF m 9 #[.val (.ref o0), .val (.double d1), .second, .val (.int (0 : Int32)), .val (.int (0 : Int32)), .val (.int (0 : Int32))] [(.int (0 : Int32))])
        refine own_step (fun _ => XS.iload X0.here hx rfl (hb hby d2_9) rfl) ?_
        show own_Ends p e below s _ _ _ T0 (mkF m 11 #[.val (.ref o0), .val (.double d1), .second, .val (.int (0 : Int32)), .val (.int (0 : Int32)), .val (.int (0 : Int32))] [(.int (0 : Int32)), (.int (0 : Int32))])
        refine own_step (fun _ => XS.icmpYes X0.here hx rfl (pc0 := 11) (pc' := 46) rfl (hb hby d2_11) rfl (flt (show ¬ ((0 : Int32) < (0 : Int32)) from (by decide))).2.1 (by decide) (by decide)) ?_
        show own_Ends p e below s _ _ _ T0 (mkF m 46 #[.val (.ref o0), .val (.double d1), .second, .val (.int (0 : Int32)), .val (.int (0 : Int32)), .val (.int (0 : Int32))] [])
        refine own_step (fun _ => XS.iloadN X0.here hx rfl (hb hby d2_46) rfl) ?_
        show own_Ends p e below s _ _ _ T0 (mkF m 47 #[.val (.ref o0), .val (.double d1), .second, .val (.int (0 : Int32)), .val (.int (0 : Int32)), .val (.int (0 : Int32))] [(.int (0 : Int32))])
        exact own_retI X0 hx hret hlk (hb hby d2_47) (by decide) (by decide) ⟨congrArg (fun z => some (Value.int z)) hv_t_t_t.symm, N0, e0⟩
      · have hv_t_t_f := hv_t_t.trans (if_neg hc28)
        refine own_step (fun _ => XS.ifYes X0.here hx rfl (pc0 := 28) (pc' := 38) rfl (hb hby d2_28) rfl ((if0 _ _).trans (flt hc28).2.2.2) (by decide) (by decide)) ?_
        show own_Ends p e below s _ _ _ T0 (mkF m 38 #[.val (.ref o0), .val (.double d1), .second, .val (.int (0 : Int32)), .val (.int (1 : Int32)), .val (.int (0 : Int32))] [])
        refine own_step (fun _ => XS.iload X0.here hx rfl (hb hby d2_38) rfl) ?_
        show own_Ends p e below s _ _ _ T0 (mkF m 40 #[.val (.ref o0), .val (.double d1), .second, .val (.int (0 : Int32)), .val (.int (1 : Int32)), .val (.int (0 : Int32))] [(.int (0 : Int32))])
        refine own_step (fun _ => XS.iconst X0.here hx rfl (hb hby d2_40)) ?_
        show own_Ends p e below s _ _ _ T0 (mkF m 41 #[.val (.ref o0), .val (.double d1), .second, .val (.int (0 : Int32)), .val (.int (1 : Int32)), .val (.int (0 : Int32))] [(.int (1 : Int32)), (.int (0 : Int32))])
        refine own_step (fun _ => XS.iadd X0.here hx rfl (hb hby d2_41) rfl) ?_
        show own_Ends p e below s _ _ _ T0 (mkF m 42 #[.val (.ref o0), .val (.double d1), .second, .val (.int (0 : Int32)), .val (.int (1 : Int32)), .val (.int (0 : Int32))] [(.int (1 : Int32))])
        refine own_step (fun _ => XS.istoreN X0.here hx rfl (hb hby d2_42) rfl (l' := #[.val (.ref o0), .val (.double d1), .second, .val (.int (1 : Int32)), .val (.int (1 : Int32)), .val (.int (0 : Int32))]) rfl) ?_
        show own_Ends p e below s _ _ _ T0 (mkF m 43 #[.val (.ref o0), .val (.double d1), .second, .val (.int (1 : Int32)), .val (.int (1 : Int32)), .val (.int (0 : Int32))] [])
        refine own_step (fun _ => XS.goto X0.here hx rfl (pc0 := 43) (pc' := 8) rfl (hb hby d2_43) (by decide) (by decide)) ?_
        show own_Ends p e below s _ _ _ T0 (mkF m 8 #[.val (.ref o0), .val (.double d1), .second, .val (.int (1 : Int32)), .val (.int (1 : Int32)), .val (.int (0 : Int32))] [])
        refine own_step (fun _ => XS.iloadN X0.here hx rfl (hb hby d2_8) rfl) ?_
        show own_Ends p e below s _ _ _ T0 (mkF m 9 #[.val (.ref o0), .val (.double d1), .second, .val (.int (1 : Int32)), .val (.int (1 : Int32)), .val (.int (0 : Int32))] [(.int (1 : Int32))])
        refine own_step (fun _ => XS.iload X0.here hx rfl (hb hby d2_9) rfl) ?_
        show own_Ends p e below s _ _ _ T0 (mkF m 11 #[.val (.ref o0), .val (.double d1), .second, .val (.int (1 : Int32)), .val (.int (1 : Int32)), .val (.int (0 : Int32))] [(.int (1 : Int32)), (.int (1 : Int32))])
        refine own_step (fun _ => XS.icmpYes X0.here hx rfl (pc0 := 11) (pc' := 46) rfl (hb hby d2_11) rfl (flt (show ¬ ((1 : Int32) < (1 : Int32)) from (by decide))).2.1 (by decide) (by decide)) ?_
        show own_Ends p e below s _ _ _ T0 (mkF m 46 #[.val (.ref o0), .val (.double d1), .second, .val (.int (1 : Int32)), .val (.int (1 : Int32)), .val (.int (0 : Int32))] [])
        refine own_step (fun _ => XS.iloadN X0.here hx rfl (hb hby d2_46) rfl) ?_
        show own_Ends p e below s _ _ _ T0 (mkF m 47 #[.val (.ref o0), .val (.double d1), .second, .val (.int (1 : Int32)), .val (.int (1 : Int32)), .val (.int (0 : Int32))] [(.int (1 : Int32))])
        exact own_retI X0 hx hret hlk (hb hby d2_47) (by decide) (by decide) ⟨congrArg (fun z => some (Value.int z)) hv_t_t_f.symm, N0, e0⟩
    · have hv_t_f := hv_t.trans (if_neg hc28)
      refine own_step (fun _ => XS.ifYes X0.here hx rfl (pc0 := 28) (pc' := 38) rfl (hb hby d2_28) rfl ((if0 _ _).trans (flt hc28).2.2.2) (by decide) (by decide)) ?_
      show own_Ends p e below s _ _ _ T0 (mkF m 38 #[.val (.ref o0), .val (.double d1), .second, .val (.int (0 : Int32)), .val (.int (2 : Int32)), .val (.int (1 : Int32))] [])
      refine own_step (fun _ => XS.iload X0.here hx rfl (hb hby d2_38) rfl) ?_
      show own_Ends p e below s _ _ _ T0 (mkF m 40 #[.val (.ref o0), .val (.double d1), .second, .val (.int (0 : Int32)), .val (.int (2 : Int32)), .val (.int (1 : Int32))] [(.int (1 : Int32))])
      refine own_step (fun _ => XS.iconst X0.here hx rfl (hb hby d2_40)) ?_
      show own_Ends p e below s _ _ _ T0 (mkF m 41 #[.val (.ref o0), .val (.double d1), .second, .val (.int (0 : Int32)), .val (.int (2 : Int32)), .val (.int (1 : Int32))] [(.int (1 : Int32)), (.int (1 : Int32))])
      refine own_step (fun _ => XS.iadd X0.here hx rfl (hb hby d2_41) rfl) ?_
      show own_Ends p e below s _ _ _ T0 (mkF m 42 #[.val (.ref o0), .val (.double d1), .second, .val (.int (0 : Int32)), .val (.int (2 : Int32)), .val (.int (1 : Int32))] [(.int (2 : Int32))])
      refine own_step (fun _ => XS.istoreN X0.here hx rfl (hb hby d2_42) rfl (l' := #[.val (.ref o0), .val (.double d1), .second, .val (.int (2 : Int32)), .val (.int (2 : Int32)), .val (.int (1 : Int32))]) rfl) ?_
      show own_Ends p e below s _ _ _ T0 (mkF m 43 #[.val (.ref o0), .val (.double d1), .second, .val (.int (2 : Int32)), .val (.int (2 : Int32)), .val (.int (1 : Int32))] [])
      refine own_step (fun _ => XS.goto X0.here hx rfl (pc0 := 43) (pc' := 8) rfl (hb hby d2_43) (by decide) (by decide)) ?_
      show own_Ends p e below s _ _ _ T0 (mkF m 8 #[.val (.ref o0), .val (.double d1), .second, .val (.int (2 : Int32)), .val (.int (2 : Int32)), .val (.int (1 : Int32))] [])
      refine own_step (fun _ => XS.iloadN X0.here hx rfl (hb hby d2_8) rfl) ?_
      show own_Ends p e below s _ _ _ T0 (mkF m 9 #[.val (.ref o0), .val (.double d1), .second, .val (.int (2 : Int32)), .val (.int (2 : Int32)), .val (.int (1 : Int32))] [(.int (2 : Int32))])
      refine own_step (fun _ => XS.iload X0.here hx rfl (hb hby d2_9) rfl) ?_
      show own_Ends p e below s _ _ _ T0 (mkF m 11 #[.val (.ref o0), .val (.double d1), .second, .val (.int (2 : Int32)), .val (.int (2 : Int32)), .val (.int (1 : Int32))] [(.int (2 : Int32)), (.int (2 : Int32))])
      refine own_step (fun _ => XS.icmpYes X0.here hx rfl (pc0 := 11) (pc' := 46) rfl (hb hby d2_11) rfl (flt (show ¬ ((2 : Int32) < (2 : Int32)) from (by decide))).2.1 (by decide) (by decide)) ?_
      show own_Ends p e below s _ _ _ T0 (mkF m 46 #[.val (.ref o0), .val (.double d1), .second, .val (.int (2 : Int32)), .val (.int (2 : Int32)), .val (.int (1 : Int32))] [])
      refine own_step (fun _ => XS.iloadN X0.here hx rfl (hb hby d2_46) rfl) ?_
      show own_Ends p e below s _ _ _ T0 (mkF m 47 #[.val (.ref o0), .val (.double d1), .second, .val (.int (2 : Int32)), .val (.int (2 : Int32)), .val (.int (1 : Int32))] [(.int (2 : Int32))])
      exact own_retI X0 hx hret hlk (hb hby d2_47) (by decide) (by decide) ⟨congrArg (fun z => some (Value.int z)) hv_t_f.symm, N0, e0⟩
  · have hv_f := hv.trans (if_neg hc28)
    refine own_step (fun _ => XS.ifYes X0.here hx rfl (pc0 := 28) (pc' := 38) rfl (hb hby d2_28) rfl ((if0 _ _).trans (flt hc28).2.2.2) (by decide) (by decide)) ?_
    show own_Ends p e below s _ _ _ T0 (mkF m 38 #[.val (.ref o0), .val (.double d1), .second, .val (.int (0 : Int32)), .val (.int (4 : Int32)), .val (.int (2 : Int32))] [])
    refine own_step (fun _ => XS.iload X0.here hx rfl (hb hby d2_38) rfl) ?_
    show own_Ends p e below s _ _ _ T0 (mkF m 40 #[.val (.ref o0), .val (.double d1), .second, .val (.int (0 : Int32)), .val (.int (4 : Int32)), .val (.int (2 : Int32))] [(.int (2 : Int32))])
    refine own_step (fun _ => XS.iconst X0.here hx rfl (hb hby d2_40)) ?_
    show own_Ends p e below s _ _ _ T0 (mkF m 41 #[.val (.ref o0), .val (.double d1), .second, .val (.int (0 : Int32)), .val (.int (4 : Int32)), .val (.int (2 : Int32))] [(.int (1 : Int32)), (.int (2 : Int32))])
    refine own_step (fun _ => XS.iadd X0.here hx rfl (hb hby d2_41) rfl) ?_
    show own_Ends p e below s _ _ _ T0 (mkF m 42 #[.val (.ref o0), .val (.double d1), .second, .val (.int (0 : Int32)), .val (.int (4 : Int32)), .val (.int (2 : Int32))] [(.int (3 : Int32))])
    refine own_step (fun _ => XS.istoreN X0.here hx rfl (hb hby d2_42) rfl (l' := #[.val (.ref o0), .val (.double d1), .second, .val (.int (3 : Int32)), .val (.int (4 : Int32)), .val (.int (2 : Int32))]) rfl) ?_
    show own_Ends p e below s _ _ _ T0 (mkF m 43 #[.val (.ref o0), .val (.double d1), .second, .val (.int (3 : Int32)), .val (.int (4 : Int32)), .val (.int (2 : Int32))] [])
    refine own_step (fun _ => XS.goto X0.here hx rfl (pc0 := 43) (pc' := 8) rfl (hb hby d2_43) (by decide) (by decide)) ?_
    show own_Ends p e below s _ _ _ T0 (mkF m 8 #[.val (.ref o0), .val (.double d1), .second, .val (.int (3 : Int32)), .val (.int (4 : Int32)), .val (.int (2 : Int32))] [])
    refine own_step (fun _ => XS.iloadN X0.here hx rfl (hb hby d2_8) rfl) ?_
    show own_Ends p e below s _ _ _ T0 (mkF m 9 #[.val (.ref o0), .val (.double d1), .second, .val (.int (3 : Int32)), .val (.int (4 : Int32)), .val (.int (2 : Int32))] [(.int (3 : Int32))])
    refine own_step (fun _ => XS.iload X0.here hx rfl (hb hby d2_9) rfl) ?_
    show own_Ends p e below s _ _ _ T0 (mkF m 11 #[.val (.ref o0), .val (.double d1), .second, .val (.int (3 : Int32)), .val (.int (4 : Int32)), .val (.int (2 : Int32))] [(.int (4 : Int32)), (.int (3 : Int32))])
    refine own_step (fun _ => XS.icmpNo X0.here hx rfl (hb hby d2_11) rfl (tlt (show (3 : Int32) < (4 : Int32) from (by decide))).2.1) ?_
    show own_Ends p e below s _ _ _ T0 (mkF m 14 #[.val (.ref o0), .val (.double d1), .second, .val (.int (3 : Int32)), .val (.int (4 : Int32)), .val (.int (2 : Int32))] [])
    refine own_step (fun _ => XS.iloadN X0.here hx rfl (hb hby d2_14) rfl) ?_
    show own_Ends p e below s _ _ _ T0 (mkF m 15 #[.val (.ref o0), .val (.double d1), .second, .val (.int (3 : Int32)), .val (.int (4 : Int32)), .val (.int (2 : Int32))] [(.int (3 : Int32))])
    refine own_step (fun _ => XS.iload X0.here hx rfl (hb hby d2_15) rfl) ?_
    show own_Ends p e below s _ _ _ T0 (mkF m 17 #[.val (.ref o0), .val (.double d1), .second, .val (.int (3 : Int32)), .val (.int (4 : Int32)), .val (.int (2 : Int32))] [(.int (4 : Int32)), (.int (3 : Int32))])
    refine own_step (fun _ => XS.iadd X0.here hx rfl (hb hby d2_17) rfl) ?_
    show own_Ends p e below s _ _ _ T0 (mkF m 18 #[.val (.ref o0), .val (.double d1), .second, .val (.int (3 : Int32)), .val (.int (4 : Int32)), .val (.int (2 : Int32))] [(.int (7 : Int32))])
    refine own_step (fun _ => XS.iconst X0.here hx rfl (hb hby d2_18)) ?_
    show own_Ends p e below s _ _ _ T0 (mkF m 19 #[.val (.ref o0), .val (.double d1), .second, .val (.int (3 : Int32)), .val (.int (4 : Int32)), .val (.int (2 : Int32))] [(.int (1 : Int32)), (.int (7 : Int32))])
    refine own_step (fun _ => XS.iushr X0.here hx rfl (hb hby d2_19) rfl) ?_
    show own_Ends p e below s _ _ _ T0 (mkF m 20 #[.val (.ref o0), .val (.double d1), .second, .val (.int (3 : Int32)), .val (.int (4 : Int32)), .val (.int (2 : Int32))] [(.int (3 : Int32))])
    refine own_step (fun _ => XS.istore X0.here hx rfl (hb hby d2_20) rfl (l' := #[.val (.ref o0), .val (.double d1), .second, .val (.int (3 : Int32)), .val (.int (4 : Int32)), .val (.int (3 : Int32))]) rfl) ?_
    show own_Ends p e below s _ _ _ T0 (mkF m 22 #[.val (.ref o0), .val (.double d1), .second, .val (.int (3 : Int32)), .val (.int (4 : Int32)), .val (.int (3 : Int32))] [])
    refine own_step (fun _ => XS.aloadN X0.here hx rfl (hb hby d2_22) rfl rfl) ?_
    show own_Ends p e below s _ _ _ T0 (mkF m 23 #[.val (.ref o0), .val (.double d1), .second, .val (.int (3 : Int32)), .val (.int (4 : Int32)), .val (.int (3 : Int32))] [(.ref o0)])
    refine own_step (fun _ => XS.iload X0.here hx rfl (hb hby d2_23) rfl) ?_
    show own_Ends p e below s _ _ _ T0 (mkF m 25 #[.val (.ref o0), .val (.double d1), .second, .val (.int (3 : Int32)), .val (.int (4 : Int32)), .val (.int (3 : Int32))] [(.int (3 : Int32)), (.ref o0)])
    obtain ⟨cl10, Ar10, q10, S10, N10_, H10, G10⟩ := id Vt
    have hin10 : ¬ ((3 : Int32) < 0 ∨ cl10.slots.size ≤ ((3 : Int32)).toNatClampNeg) := inb_of S10 ⟨by decide, by decide⟩
    have hat10 : cl10.slots[((3 : Int32)).toNatClampNeg]? = some (.double t3) := H10.at hin10 rfl
    refine own_step (fun _ => X0.daload hx (j := (3 : Int32)) (v := (.double t3)) (by rw [e0]; exact Ar10.1) (State.isArrayOf_alike hZ.alike Ar10.2.1) Ar10.2.2 hin10 hat10 (g := (mkF m 25 #[.val (.ref o0), .val (.double d1), .second, .val (.int (3 : Int32)), .val (.int (4 : Int32)), .val (.int (3 : Int32))] [(.int (3 : Int32)), (.ref o0)])) rfl rfl (hb hby d2_25) _) ?_
    show own_Ends p e below s _ _ _ T0 (mkF m 26 #[.val (.ref o0), .val (.double d1), .second, .val (.int (3 : Int32)), .val (.int (4 : Int32)), .val (.int (3 : Int32))] [(.double t3)])
    refine own_step (fun _ => XS.dloadN X0.here hx rfl (hb hby d2_26) rfl) ?_
    show own_Ends p e below s _ _ _ T0 (mkF m 27 #[.val (.ref o0), .val (.double d1), .second, .val (.int (3 : Int32)), .val (.int (4 : Int32)), .val (.int (3 : Int32))] [(.double d1), (.double t3)])
    refine own_step (fun _ => XS.dcmpS X0.here hx rfl (hb hby d2_27) rfl rfl) ?_
    show own_Ends p e below s _ _ _ T0 (mkF m 28 #[.val (.ref o0), .val (.double d1), .second, .val (.int (3 : Int32)), .val (.int (4 : Int32)), .val (.int (3 : Int32))] [(.int (cmpValue (FP.dcmp t3 d1) .l))])
    by_cases hc28 : (0 : Int32) < (cmpValue (FP.dcmp t3 d1) .l)
    · have hv_f_t := hv_f.trans (if_pos hc28)
      refine own_step (fun _ => XS.ifNo X0.here hx rfl (hb hby d2_28) rfl ((if0 _ _).trans (tlt hc28).2.2.2)) ?_
      show own_Ends p e below s _ _ _ T0 (mkF m 31 #[.val (.ref o0), .val (.double d1), .second, .val (.int (3 : Int32)), .val (.int (4 : Int32)), .val (.int (3 : Int32))] [])
      refine own_step (fun _ => XS.iload X0.here hx rfl (hb hby d2_31) rfl) ?_
      show own_Ends p e below s _ _ _ T0 (mkF m 33 #[.val (.ref o0), .val (.double d1), .second, .val (.int (3 : Int32)), .val (.int (4 : Int32)), .val (.int (3 : Int32))] [(.int (3 : Int32))])
      refine own_step (fun _ => XS.istore X0.here hx rfl (hb hby d2_33) rfl (l' := #[.val (.ref o0), .val (.double d1), .second, .val (.int (3 : Int32)), .val (.int (3 : Int32)), .val (.int (3 : Int32))]) rfl) ?_
      show own_Ends p e below s _ _ _ T0 (mkF m 35 #[.val (.ref o0), .val (.double d1), .second, .val (.int (3 : Int32)), .val (.int (3 : Int32)), .val (.int (3 : Int32))] [])
      refine own_step (fun _ => XS.goto X0.here hx rfl (pc0 := 35) (pc' := 43) rfl (hb hby d2_35) (by decide) (by decide)) ?_
      show own_Ends p e below s _ _ _ T0 (mkF m 43 #[.val (.ref o0), .val (.double d1), .second, .val (.int (3 : Int32)), .val (.int (3 : Int32)), .val (.int (3 : Int32))] [])
      refine own_step (fun _ => XS.goto X0.here hx rfl (pc0 := 43) (pc' := 8) rfl (hb hby d2_43) (by decide) (by decide)) ?_
      show own_Ends p e below s _ _ _ T0 (mkF m 8 #[.val (.ref o0), .val (.double d1), .second, .val (.int (3 : Int32)), .val (.int (3 : Int32)), .val (.int (3 : Int32))] [])
      refine own_step (fun _ => XS.iloadN X0.here hx rfl (hb hby d2_8) rfl) ?_
      show own_Ends p e below s _ _ _ T0 (mkF m 9 #[.val (.ref o0), .val (.double d1), .second, .val (.int (3 : Int32)), .val (.int (3 : Int32)), .val (.int (3 : Int32))] [(.int (3 : Int32))])
      refine own_step (fun _ => XS.iload X0.here hx rfl (hb hby d2_9) rfl) ?_
      show own_Ends p e below s _ _ _ T0 (mkF m 11 #[.val (.ref o0), .val (.double d1), .second, .val (.int (3 : Int32)), .val (.int (3 : Int32)), .val (.int (3 : Int32))] [(.int (3 : Int32)), (.int (3 : Int32))])
      refine own_step (fun _ => XS.icmpYes X0.here hx rfl (pc0 := 11) (pc' := 46) rfl (hb hby d2_11) rfl (flt (show ¬ ((3 : Int32) < (3 : Int32)) from (by decide))).2.1 (by decide) (by decide)) ?_
      show own_Ends p e below s _ _ _ T0 (mkF m 46 #[.val (.ref o0), .val (.double d1), .second, .val (.int (3 : Int32)), .val (.int (3 : Int32)), .val (.int (3 : Int32))] [])
      refine own_step (fun _ => XS.iloadN X0.here hx rfl (hb hby d2_46) rfl) ?_
      show own_Ends p e below s _ _ _ T0 (mkF m 47 #[.val (.ref o0), .val (.double d1), .second, .val (.int (3 : Int32)), .val (.int (3 : Int32)), .val (.int (3 : Int32))] [(.int (3 : Int32))])
      exact own_retI X0 hx hret hlk (hb hby d2_47) (by decide) (by decide) ⟨congrArg (fun z => some (Value.int z)) hv_f_t.symm, N0, e0⟩
    · have hv_f_f := hv_f.trans (if_neg hc28)
      refine own_step (fun _ => XS.ifYes X0.here hx rfl (pc0 := 28) (pc' := 38) rfl (hb hby d2_28) rfl ((if0 _ _).trans (flt hc28).2.2.2) (by decide) (by decide)) ?_
      show own_Ends p e below s _ _ _ T0 (mkF m 38 #[.val (.ref o0), .val (.double d1), .second, .val (.int (3 : Int32)), .val (.int (4 : Int32)), .val (.int (3 : Int32))] [])
      refine own_step (fun _ => XS.iload X0.here hx rfl (hb hby d2_38) rfl) ?_
      show own_Ends p e below s _ _ _ T0 (mkF m 40 #[.val (.ref o0), .val (.double d1), .second, .val (.int (3 : Int32)), .val (.int (4 : Int32)), .val (.int (3 : Int32))] [(.int (3 : Int32))])
      refine own_step (fun _ => XS.iconst X0.here hx rfl (hb hby d2_40)) ?_
      show own_Ends p e below s _ _ _ T0 (mkF m 41 #[.val (.ref o0), .val (.double d1), .second, .val (.int (3 : Int32)), .val (.int (4 : Int32)), .val (.int (3 : Int32))] [(.int (1 : Int32)), (.int (3 : Int32))])
      refine own_step (fun _ => XS.iadd X0.here hx rfl (hb hby d2_41) rfl) ?_
      show own_Ends p e below s _ _ _ T0 (mkF m 42 #[.val (.ref o0), .val (.double d1), .second, .val (.int (3 : Int32)), .val (.int (4 : Int32)), .val (.int (3 : Int32))] [(.int (4 : Int32))])
      refine own_step (fun _ => XS.istoreN X0.here hx rfl (hb hby d2_42) rfl (l' := #[.val (.ref o0), .val (.double d1), .second, .val (.int (4 : Int32)), .val (.int (4 : Int32)), .val (.int (3 : Int32))]) rfl) ?_
      show own_Ends p e below s _ _ _ T0 (mkF m 43 #[.val (.ref o0), .val (.double d1), .second, .val (.int (4 : Int32)), .val (.int (4 : Int32)), .val (.int (3 : Int32))] [])
      refine own_step (fun _ => XS.goto X0.here hx rfl (pc0 := 43) (pc' := 8) rfl (hb hby d2_43) (by decide) (by decide)) ?_
      show own_Ends p e below s _ _ _ T0 (mkF m 8 #[.val (.ref o0), .val (.double d1), .second, .val (.int (4 : Int32)), .val (.int (4 : Int32)), .val (.int (3 : Int32))] [])
      refine own_step (fun _ => XS.iloadN X0.here hx rfl (hb hby d2_8) rfl) ?_
      show own_Ends p e below s _ _ _ T0 (mkF m 9 #[.val (.ref o0), .val (.double d1), .second, .val (.int (4 : Int32)), .val (.int (4 : Int32)), .val (.int (3 : Int32))] [(.int (4 : Int32))])
      refine own_step (fun _ => XS.iload X0.here hx rfl (hb hby d2_9) rfl) ?_
      show own_Ends p e below s _ _ _ T0 (mkF m 11 #[.val (.ref o0), .val (.double d1), .second, .val (.int (4 : Int32)), .val (.int (4 : Int32)), .val (.int (3 : Int32))] [(.int (4 : Int32)), (.int (4 : Int32))])
      refine own_step (fun _ => XS.icmpYes X0.here hx rfl (pc0 := 11) (pc' := 46) rfl (hb hby d2_11) rfl (flt (show ¬ ((4 : Int32) < (4 : Int32)) from (by decide))).2.1 (by decide) (by decide)) ?_
      show own_Ends p e below s _ _ _ T0 (mkF m 46 #[.val (.ref o0), .val (.double d1), .second, .val (.int (4 : Int32)), .val (.int (4 : Int32)), .val (.int (3 : Int32))] [])
      refine own_step (fun _ => XS.iloadN X0.here hx rfl (hb hby d2_46) rfl) ?_
      show own_Ends p e below s _ _ _ T0 (mkF m 47 #[.val (.ref o0), .val (.double d1), .second, .val (.int (4 : Int32)), .val (.int (4 : Int32)), .val (.int (3 : Int32))] [(.int (4 : Int32))])
      exact own_retI X0 hx hret hlk (hb hby d2_47) (by decide) (by decide) ⟨congrArg (fun z => some (Value.int z)) hv_f_f.symm, N0, e0⟩
theorem ef_rm2_5 (m : MethodId) (o0 : Addr) (d1 : UInt64) : entryFrame m #[(.ref o0), (.double d1)] 6 = mkF m 0 #[.val (.ref o0), .val (.double d1), .second, .unset, .unset, .unset] [] := by first | (simp [entryFrame, mkF, argsToLocals, Value.category]; done) | rfl
set_option maxRecDepth 65536 in
set_option maxHeartbeats 40000000 in
theorem rm2_5 (l : Launch) (Z : State) (a0 : Array Value) (hw : ∀ d ∈ tables_1, d.before a0 Z = true) (ws : List Jvm.Cond) (o0 : Addr) (d1 : UInt64) (kt : ClassId) (t0 : UInt64) (t1 : UInt64) (t2 : UInt64) (t3 : UInt64) (t4 : UInt64) (h0 : Heap) (n0 : Nat) (Z0 : n0 ≤ h0.size) (Vt : Arv Z h0 o0 kt .double (5 : Int32) [(.double t0), (.double t1), (.double t2), (.double t3), (.double t4)] (.double 0)) :
    MetFree l (⟨"com/example/graded_queue/gradedqueue/sim/Cumulative", "firstAbove", "([DD)I"⟩ : MethodName) (head1 (Jvm.Cond.code (⟨"com/example/graded_queue/gradedqueue/sim/Cumulative", "firstAbove", "([DD)I"⟩ : MethodName) prog_56_method_2_code 6 (some .int) :: ws) ({ frames := 0, cells := 0, slots := 0, locals := 0 } : Room)) (fun a U => a = #[(.ref o0), (.double d1)] ∧ Z.Warmed39 U.vm ∧ U.heap = h0) (fun _ _ _ _ _ => True) (fun _ U o U' => ∃ v L, o = .returned v ∧ (own_Q n0 h0 (some (.int (f2e_0 d1 t0 t1 t2 t3 t4)))) v U'.heap L ∧ FrameEnd U o U' L ({ frames := 0, cells := 0, slots := 0, locals := 0 } : Room).cells ({ frames := 0, cells := 0, slots := 0, locals := 0 } : Room).slots) := by
  refine MetFree.of_bodySF (plainFor_of_name pn_1) hisR ?_
  intro p e s m args below meth c s₁ Bd hml0 hP hK
  obtain ⟨rfl, hZ, hh⟩ := hP
  have X0 : Stand p l e ({ frames := 0, cells := 0, slots := 0, locals := 0 } : Room) s m #[(.ref o0), (.double d1)] below meth c s₁ [] 0 0 := Stand.of_body Bd
  have e0 : s₁.heap = h0 := by rw [← hh, Bd.state]; rfl
  have C : own_C "com/example/graded_queue/gradedqueue/sim/Cumulative" prog_56_method_2_code 6 (some .int) "firstAbove" p s m meth c Z a0 := ⟨Bd.exec, hZ, hw, Bd.bytes, hml0, findClass_of_methodNamed Bd.named, Bd.returns, Bd.notSynchronized, (name_of_methodNamed Bd.named Bd.method).1⟩
  have r := b2e_0 C Z0 X0 e0 (Fr.nil n0) o0 d1 kt t0 t1 t2 t3 t4 Vt _ rfl
  rw [ef_rm2_5 m o0 d1]
  exact r
def f0_72 (i0 : Int32) (i1 : Int32) (i2 : Int32) (i3 : Int32) (il5_72 : Int32) (il6_72 : Int32) (il7_72 : Int32) (il8_72 : Int32) (il9_72 : Int32) (dl10_72 : UInt64) : Int32 := (if (((i3 &&& (2147483647 : Int32)) % (5 : Int32)) + (1 : Int32)) = (1 : Int32) then (if (0 : Int32) < (cmpValue (FP.dcmp (FP.i2d il5_72) dl10_72) .l) then (if (f2a_0 dl10_72 (FP.i2d il5_72)) = (((((f1_0 (1 : Int32) il5_72 dl10_72) + (f1_0 (0 : Int32) il6_72 dl10_72)) + (f1_0 (0 : Int32) il7_72 dl10_72)) + (f1_0 (0 : Int32) il8_72 dl10_72)) + (f1_0 (0 : Int32) il9_72 dl10_72)) then (1 : Int32) else (0 : Int32)) else (1 : Int32)) else (if (((i3 &&& (2147483647 : Int32)) % (5 : Int32)) + (1 : Int32)) = (2 : Int32) then (if (0 : Int32) < (cmpValue (FP.dcmp (FP.i2d il6_72) dl10_72) .l) then (if (f2b_0 dl10_72 (FP.i2d il5_72) (FP.i2d il6_72)) = (((((f1_0 (1 : Int32) il5_72 dl10_72) + (f1_0 (1 : Int32) il6_72 dl10_72)) + (f1_0 (0 : Int32) il7_72 dl10_72)) + (f1_0 (0 : Int32) il8_72 dl10_72)) + (f1_0 (0 : Int32) il9_72 dl10_72)) then (1 : Int32) else (0 : Int32)) else (1 : Int32)) else (if (((i3 &&& (2147483647 : Int32)) % (5 : Int32)) + (1 : Int32)) = (3 : Int32) then (if (0 : Int32) < (cmpValue (FP.dcmp (FP.i2d il7_72) dl10_72) .l) then (if (f2c_0 dl10_72 (FP.i2d il5_72) (FP.i2d il6_72) (FP.i2d il7_72)) = (((((f1_0 (1 : Int32) il5_72 dl10_72) + (f1_0 (1 : Int32) il6_72 dl10_72)) + (f1_0 (1 : Int32) il7_72 dl10_72)) + (f1_0 (0 : Int32) il8_72 dl10_72)) + (f1_0 (0 : Int32) il9_72 dl10_72)) then (1 : Int32) else (0 : Int32)) else (1 : Int32)) else (if (((i3 &&& (2147483647 : Int32)) % (5 : Int32)) + (1 : Int32)) = (4 : Int32) then (if (0 : Int32) < (cmpValue (FP.dcmp (FP.i2d il8_72) dl10_72) .l) then (if (f2d_0 dl10_72 (FP.i2d il5_72) (FP.i2d il6_72) (FP.i2d il7_72) (FP.i2d il8_72)) = (((((f1_0 (1 : Int32) il5_72 dl10_72) + (f1_0 (1 : Int32) il6_72 dl10_72)) + (f1_0 (1 : Int32) il7_72 dl10_72)) + (f1_0 (1 : Int32) il8_72 dl10_72)) + (f1_0 (0 : Int32) il9_72 dl10_72)) then (1 : Int32) else (0 : Int32)) else (1 : Int32)) else (if (0 : Int32) < (cmpValue (FP.dcmp (FP.i2d il9_72) dl10_72) .l) then (if (f2e_0 dl10_72 (FP.i2d il5_72) (FP.i2d il6_72) (FP.i2d il7_72) (FP.i2d il8_72) (FP.i2d il9_72)) = (((((f1_0 (1 : Int32) il5_72 dl10_72) + (f1_0 (1 : Int32) il6_72 dl10_72)) + (f1_0 (1 : Int32) il7_72 dl10_72)) + (f1_0 (1 : Int32) il8_72 dl10_72)) + (f1_0 (1 : Int32) il9_72 dl10_72)) then (1 : Int32) else (0 : Int32)) else (1 : Int32))))))
set_option maxRecDepth 65536 in
set_option maxHeartbeats 40000000 in
theorem b0_72 {p : Program} {l : Launch} {e : Env} {s : State} {m : MethodId} {args : Array Value} {below : List Frame} {meth : Method} {c : Code} {Z : State} {a0 : Array Value} {h0 : Heap} {n0 : Nat} (C : own_C "com/example/graded_queue/gradedqueue/sim/CumulativeFirstAbovePinLaw" code maxLocals ret x.name p s m meth c Z a0) (Z0 : n0 ≤ h0.size) {T0 : State} {locs : List Loc} (X0 : Stand p l e room_1 s m args below meth c T0 locs 0 0) (e0 : T0.heap = h0) (N0 : Fr n0 locs) (i0 : Int32) (i1 : Int32) (i2 : Int32) (i3 : Int32) (il5_72 : Int32) (il6_72 : Int32) (il7_72 : Int32) (il8_72 : Int32) (il9_72 : Int32) (dl10_72 : UInt64) (W : Int32) (hv : W = f0_72 i0 i1 i2 i3 il5_72 il6_72 il7_72 il8_72 il9_72 dl10_72) :
    own_Ends p e below s room_1.cells room_1.slots (own_QL n0 (some (.int W))) T0 (mkF m 72 #[.val (.int i0), .val (.int i1), .val (.int i2), .val (.int i3), .val (.int (((i3 &&& (2147483647 : Int32)) % (5 : Int32)) + (1 : Int32))), .val (.int il5_72), .val (.int il6_72), .val (.int il7_72), .val (.int il8_72), .val (.int il9_72), .val (.double dl10_72), .second, .unset, .unset, .unset, .unset] []) := by
  obtain ⟨hx, hZ, hw, hby, hml, hown, hret, hlk, hnm⟩ := C
  have C : own_C "com/example/graded_queue/gradedqueue/sim/CumulativeFirstAbovePinLaw" code maxLocals ret x.name p s m meth c Z a0 := ⟨hx, hZ, hw, hby, hml, hown, hret, hlk, hnm⟩
  unfold f0_72 at hv
  by_cases hN1 : (((i3 &&& (2147483647 : Int32)) % (5 : Int32)) + (1 : Int32)) = (1 : Int32)
  · have hvt0 := hv.trans (if_pos hN1)
    rw [hN1]
    refine own_step (fun _ => XS.iload X0.here hx rfl (hb hby at_72) rfl) ?_
    show own_Ends p e below s _ _ _ T0 (mkF m 74 #[.val (.int i0), .val (.int i1), .val (.int i2), .val (.int i3), .val (.int (1 : Int32)), .val (.int il5_72), .val (.int il6_72), .val (.int il7_72), .val (.int il8_72), .val (.int il9_72), .val (.double dl10_72), .second, .unset, .unset, .unset, .unset] [(.int (1 : Int32))])
    refine own_step (fun _ => XS.iconst X0.here hx rfl (hb hby at_74)) ?_
    show own_Ends p e below s _ _ _ T0 (mkF m 75 #[.val (.int i0), .val (.int i1), .val (.int i2), .val (.int i3), .val (.int (1 : Int32)), .val (.int il5_72), .val (.int il6_72), .val (.int il7_72), .val (.int il8_72), .val (.int il9_72), .val (.double dl10_72), .second, .unset, .unset, .unset, .unset] [(.int (1 : Int32)), (.int (1 : Int32))])
    refine own_step (fun _ => XS.icmpNo X0.here hx rfl (hb hby at_75) rfl (teq (show (1 : Int32) = (1 : Int32) from (by decide))).2) ?_
    show own_Ends p e below s _ _ _ T0 (mkF m 78 #[.val (.int i0), .val (.int i1), .val (.int i2), .val (.int i3), .val (.int (1 : Int32)), .val (.int il5_72), .val (.int il6_72), .val (.int il7_72), .val (.int il8_72), .val (.int il9_72), .val (.double dl10_72), .second, .unset, .unset, .unset, .unset] [])
    refine own_step (fun _ => XS.iload X0.here hx rfl (hb hby at_78) rfl) ?_
    show own_Ends p e below s _ _ _ T0 (mkF m 80 #[.val (.int i0), .val (.int i1), .val (.int i2), .val (.int i3), .val (.int (1 : Int32)), .val (.int il5_72), .val (.int il6_72), .val (.int il7_72), .val (.int il8_72), .val (.int il9_72), .val (.double dl10_72), .second, .unset, .unset, .unset, .unset] [(.int il5_72)])
    refine own_step (fun _ => XS.istore X0.here hx rfl (hb hby at_80) rfl (l' := #[.val (.int i0), .val (.int i1), .val (.int i2), .val (.int i3), .val (.int (1 : Int32)), .val (.int il5_72), .val (.int il6_72), .val (.int il7_72), .val (.int il8_72), .val (.int il9_72), .val (.double dl10_72), .second, .val (.int il5_72), .unset, .unset, .unset]) rfl) ?_
    show own_Ends p e below s _ _ _ T0 (mkF m 82 #[.val (.int i0), .val (.int i1), .val (.int i2), .val (.int i3), .val (.int (1 : Int32)), .val (.int il5_72), .val (.int il6_72), .val (.int il7_72), .val (.int il8_72), .val (.int il9_72), .val (.double dl10_72), .second, .val (.int il5_72), .unset, .unset, .unset] [])
    refine own_step (fun _ => XS.goto X0.here hx rfl (pc0 := 82) (pc' := 128) rfl (hb hby at_82) (by decide) (by decide)) ?_
    show own_Ends p e below s _ _ _ T0 (mkF m 128 #[.val (.int i0), .val (.int i1), .val (.int i2), .val (.int i3), .val (.int (1 : Int32)), .val (.int il5_72), .val (.int il6_72), .val (.int il7_72), .val (.int il8_72), .val (.int il9_72), .val (.double dl10_72), .second, .val (.int il5_72), .unset, .unset, .unset] [])
    refine own_step (fun _ => XS.iload X0.here hx rfl (hb hby at_128) rfl) ?_
    show own_Ends p e below s _ _ _ T0 (mkF m 130 #[.val (.int i0), .val (.int i1), .val (.int i2), .val (.int i3), .val (.int (1 : Int32)), .val (.int il5_72), .val (.int il6_72), .val (.int il7_72), .val (.int il8_72), .val (.int il9_72), .val (.double dl10_72), .second, .val (.int il5_72), .unset, .unset, .unset] [(.int il5_72)])
    refine own_step (fun _ => XS.i2dS X0.here hx rfl (hb hby at_130) rfl rfl) ?_
    show own_Ends p e below s _ _ _ T0 (mkF m 131 #[.val (.int i0), .val (.int i1), .val (.int i2), .val (.int i3), .val (.int (1 : Int32)), .val (.int il5_72), .val (.int il6_72), .val (.int il7_72), .val (.int il8_72), .val (.int il9_72), .val (.double dl10_72), .second, .val (.int il5_72), .unset, .unset, .unset] [(.double (FP.i2d il5_72))])
    refine own_step (fun _ => XS.dload X0.here hx rfl (hb hby at_131) rfl) ?_
    show own_Ends p e below s _ _ _ T0 (mkF m 133 #[.val (.int i0), .val (.int i1), .val (.int i2), .val (.int i3), .val (.int (1 : Int32)), .val (.int il5_72), .val (.int il6_72), .val (.int il7_72), .val (.int il8_72), .val (.int il9_72), .val (.double dl10_72), .second, .val (.int il5_72), .unset, .unset, .unset] [(.double dl10_72), (.double (FP.i2d il5_72))])
    refine own_step (fun _ => XS.dcmpS X0.here hx rfl (hb hby at_133) rfl rfl) ?_
    show own_Ends p e below s _ _ _ T0 (mkF m 134 #[.val (.int i0), .val (.int i1), .val (.int i2), .val (.int i3), .val (.int (1 : Int32)), .val (.int il5_72), .val (.int il6_72), .val (.int il7_72), .val (.int il8_72), .val (.int il9_72), .val (.double dl10_72), .second, .val (.int il5_72), .unset, .unset, .unset] [(.int (cmpValue (FP.dcmp (FP.i2d il5_72) dl10_72) .l))])
    by_cases hc134 : (0 : Int32) < (cmpValue (FP.dcmp (FP.i2d il5_72) dl10_72) .l)
    · have hvt0_t := hvt0.trans (if_pos hc134)
      refine own_step (fun _ => XS.ifYes X0.here hx rfl (pc0 := 134) (pc' := 139) rfl (hb hby at_134) rfl ((if0 _ _).trans (tlt hc134).2.2.1) (by decide) (by decide)) ?_
      show own_Ends p e below s _ _ _ T0 (mkF m 139 #[.val (.int i0), .val (.int i1), .val (.int i2), .val (.int i3), .val (.int (1 : Int32)), .val (.int il5_72), .val (.int il6_72), .val (.int il7_72), .val (.int il8_72), .val (.int il9_72), .val (.double dl10_72), .second, .val (.int il5_72), .unset, .unset, .unset] [])
      refine own_step (fun _ => XS.iload X0.here hx rfl (hb hby at_139) rfl) ?_
      show own_Ends p e below s _ _ _ T0 (mkF m 141 #[.val (.int i0), .val (.int i1), .val (.int i2), .val (.int i3), .val (.int (1 : Int32)), .val (.int il5_72), .val (.int il6_72), .val (.int il7_72), .val (.int il8_72), .val (.int il9_72), .val (.double dl10_72), .second, .val (.int il5_72), .unset, .unset, .unset] [(.int (1 : Int32))])
      obtain ⟨T51, h51, k51, X51, e51, E51, A51, st51⟩ := newP X0 hx hZ (hw _ (List.mem_of_getElem? (i := 2) rfl)) e0 (g := (mkF m 141 #[.val (.int i0), .val (.int i1), .val (.int i2), .val (.int i3), .val (.int (1 : Int32)), .val (.int il5_72), .val (.int il6_72), .val (.int il7_72), .val (.int il8_72), .val (.int il9_72), .val (.double dl10_72), .second, .val (.int il5_72), .unset, .unset, .unset] [(.int (1 : Int32))])) rfl (hb hby at_141) rfl (by decide) (cap := 1) (by decide) (by decide) (by decide) (by decide)
      obtain ⟨b51, g51⟩ : ∃ z, z = h0.size := ⟨_, rfl⟩
      rw [← g51] at A51 st51
      have V51 : Arv Z h51 b51 k51 .double (1 : Int32) [(.double 0)] (.double 0) := (Arv.new A51 (by decide)).pad (pad_rep [] (.double 0) 1)
      have g_b51 : n0 ≤ b51 := Nat.le_trans Z0 (Nat.le_of_eq g51.symm)
      have Zs51 : n0 ≤ h51.size := Nat.le_trans Z0 E51.1
      refine own_step st51 ?_
      show own_Ends p e below s _ _ _ T51 (mkF m 143 #[.val (.int i0), .val (.int i1), .val (.int i2), .val (.int i3), .val (.int (1 : Int32)), .val (.int il5_72), .val (.int il6_72), .val (.int il7_72), .val (.int il8_72), .val (.int il9_72), .val (.double dl10_72), .second, .val (.int il5_72), .unset, .unset, .unset] [(.ref b51)])
      refine own_step (fun _ => XS.astore X51.here hx rfl (hb hby at_143) rfl rfl (l' := #[.val (.int i0), .val (.int i1), .val (.int i2), .val (.int i3), .val (.int (1 : Int32)), .val (.int il5_72), .val (.int il6_72), .val (.int il7_72), .val (.int il8_72), .val (.int il9_72), .val (.double dl10_72), .second, .val (.int il5_72), .val (.ref b51), .unset, .unset]) rfl) ?_
      show own_Ends p e below s _ _ _ T51 (mkF m 145 #[.val (.int i0), .val (.int i1), .val (.int i2), .val (.int i3), .val (.int (1 : Int32)), .val (.int il5_72), .val (.int il6_72), .val (.int il7_72), .val (.int il8_72), .val (.int il9_72), .val (.double dl10_72), .second, .val (.int il5_72), .val (.ref b51), .unset, .unset] [])
      refine own_step (fun _ => XS.aload X51.here hx rfl (hb hby at_145) rfl rfl) ?_
      show own_Ends p e below s _ _ _ T51 (mkF m 147 #[.val (.int i0), .val (.int i1), .val (.int i2), .val (.int i3), .val (.int (1 : Int32)), .val (.int il5_72), .val (.int il6_72), .val (.int il7_72), .val (.int il8_72), .val (.int il9_72), .val (.double dl10_72), .second, .val (.int il5_72), .val (.ref b51), .unset, .unset] [(.ref b51)])
      refine own_step (fun _ => XS.iconst X51.here hx rfl (hb hby at_147)) ?_
      show own_Ends p e below s _ _ _ T51 (mkF m 148 #[.val (.int i0), .val (.int i1), .val (.int i2), .val (.int i3), .val (.int (1 : Int32)), .val (.int il5_72), .val (.int il6_72), .val (.int il7_72), .val (.int il8_72), .val (.int il9_72), .val (.double dl10_72), .second, .val (.int il5_72), .val (.ref b51), .unset, .unset] [(.int (0 : Int32)), (.ref b51)])
      refine own_step (fun _ => XS.iload X51.here hx rfl (hb hby at_148) rfl) ?_
      show own_Ends p e below s _ _ _ T51 (mkF m 150 #[.val (.int i0), .val (.int i1), .val (.int i2), .val (.int i3), .val (.int (1 : Int32)), .val (.int il5_72), .val (.int il6_72), .val (.int il7_72), .val (.int il8_72), .val (.int il9_72), .val (.double dl10_72), .second, .val (.int il5_72), .val (.ref b51), .unset, .unset] [(.int il5_72), (.int (0 : Int32)), (.ref b51)])
      refine own_step (fun _ => XS.i2dS X51.here hx rfl (hb hby at_150) rfl rfl) ?_
      show own_Ends p e below s _ _ _ T51 (mkF m 151 #[.val (.int i0), .val (.int i1), .val (.int i2), .val (.int i3), .val (.int (1 : Int32)), .val (.int il5_72), .val (.int il6_72), .val (.int il7_72), .val (.int il8_72), .val (.int il9_72), .val (.double dl10_72), .second, .val (.int il5_72), .val (.ref b51), .unset, .unset] [(.double (FP.i2d il5_72)), (.int (0 : Int32)), (.ref b51)])
      obtain ⟨cl52, Ar52, q52, S52, N52_, H52, G52⟩ := id V51
      have hin52 : ¬ ((0 : Int32) < 0 ∨ cl52.slots.size ≤ ((0 : Int32)).toNatClampNeg) := inb_of S52 ⟨by decide, by decide⟩
      obtain ⟨T52, h52, X52, e52, W52, st52⟩ := stD X51 hx hZ e51 Ar52 (j := (0 : Int32)) hin52 (g := (mkF m 151 #[.val (.int i0), .val (.int i1), .val (.int i2), .val (.int i3), .val (.int (1 : Int32)), .val (.int il5_72), .val (.int il6_72), .val (.int il7_72), .val (.int il8_72), .val (.int il9_72), .val (.double dl10_72), .second, .val (.int il5_72), .val (.ref b51), .unset, .unset] [(.double (FP.i2d il5_72)), (.int (0 : Int32)), (.ref b51)])) rfl rfl (hb hby at_151)
      have V52 : Arv Z h52 b51 k51 .double (1 : Int32) [(.double (FP.i2d il5_72))] (.double 0) := Arv.set Ar52 q52 S52 N52_ H52 G52 rfl W52 0 rfl (Nat.le_of_ble_eq_true rfl)
      have Zs52 : n0 ≤ h52.size := (by rw [W52.size]; exact Zs51)
      have N52 := Fr.snoc X52 N0 g_b51
      refine own_step st52 ?_
      show own_Ends p e below s _ _ _ T52 (mkF m 152 #[.val (.int i0), .val (.int i1), .val (.int i2), .val (.int i3), .val (.int (1 : Int32)), .val (.int il5_72), .val (.int il6_72), .val (.int il7_72), .val (.int il8_72), .val (.int il9_72), .val (.double dl10_72), .second, .val (.int il5_72), .val (.ref b51), .unset, .unset] [])
      refine own_step (fun _ => XS.iload X52.here hx rfl (hb hby at_152) rfl) ?_
      show own_Ends p e below s _ _ _ T52 (mkF m 154 #[.val (.int i0), .val (.int i1), .val (.int i2), .val (.int i3), .val (.int (1 : Int32)), .val (.int il5_72), .val (.int il6_72), .val (.int il7_72), .val (.int il8_72), .val (.int il9_72), .val (.double dl10_72), .second, .val (.int il5_72), .val (.ref b51), .unset, .unset] [(.int (1 : Int32))])
      refine own_step (fun _ => XS.iconst X52.here hx rfl (hb hby at_154)) ?_
      show own_Ends p e below s _ _ _ T52 (mkF m 155 #[.val (.int i0), .val (.int i1), .val (.int i2), .val (.int i3), .val (.int (1 : Int32)), .val (.int il5_72), .val (.int il6_72), .val (.int il7_72), .val (.int il8_72), .val (.int il9_72), .val (.double dl10_72), .second, .val (.int il5_72), .val (.ref b51), .unset, .unset] [(.int (1 : Int32)), (.int (1 : Int32))])
      refine own_step (fun _ => XS.icmpYes X52.here hx rfl (pc0 := 155) (pc' := 165) rfl (hb hby at_155) rfl (flt (show ¬ ((1 : Int32) < (1 : Int32)) from (by decide))).2.2.2 (by decide) (by decide)) ?_
      show own_Ends p e below s _ _ _ T52 (mkF m 165 #[.val (.int i0), .val (.int i1), .val (.int i2), .val (.int i3), .val (.int (1 : Int32)), .val (.int il5_72), .val (.int il6_72), .val (.int il7_72), .val (.int il8_72), .val (.int il9_72), .val (.double dl10_72), .second, .val (.int il5_72), .val (.ref b51), .unset, .unset] [])
      refine own_step (fun _ => XS.iload X52.here hx rfl (hb hby at_165) rfl) ?_
      show own_Ends p e below s _ _ _ T52 (mkF m 167 #[.val (.int i0), .val (.int i1), .val (.int i2), .val (.int i3), .val (.int (1 : Int32)), .val (.int il5_72), .val (.int il6_72), .val (.int il7_72), .val (.int il8_72), .val (.int il9_72), .val (.double dl10_72), .second, .val (.int il5_72), .val (.ref b51), .unset, .unset] [(.int (1 : Int32))])
      refine own_step (fun _ => XS.iconst X52.here hx rfl (hb hby at_167)) ?_
      show own_Ends p e below s _ _ _ T52 (mkF m 168 #[.val (.int i0), .val (.int i1), .val (.int i2), .val (.int i3), .val (.int (1 : Int32)), .val (.int il5_72), .val (.int il6_72), .val (.int il7_72), .val (.int il8_72), .val (.int il9_72), .val (.double dl10_72), .second, .val (.int il5_72), .val (.ref b51), .unset, .unset] [(.int (2 : Int32)), (.int (1 : Int32))])
      refine own_step (fun _ => XS.icmpYes X52.here hx rfl (pc0 := 168) (pc' := 178) rfl (hb hby at_168) rfl (flt (show ¬ ((2 : Int32) < (1 : Int32)) from (by decide))).2.2.2 (by decide) (by decide)) ?_
      show own_Ends p e below s _ _ _ T52 (mkF m 178 #[.val (.int i0), .val (.int i1), .val (.int i2), .val (.int i3), .val (.int (1 : Int32)), .val (.int il5_72), .val (.int il6_72), .val (.int il7_72), .val (.int il8_72), .val (.int il9_72), .val (.double dl10_72), .second, .val (.int il5_72), .val (.ref b51), .unset, .unset] [])
      refine own_step (fun _ => XS.iload X52.here hx rfl (hb hby at_178) rfl) ?_
      show own_Ends p e below s _ _ _ T52 (mkF m 180 #[.val (.int i0), .val (.int i1), .val (.int i2), .val (.int i3), .val (.int (1 : Int32)), .val (.int il5_72), .val (.int il6_72), .val (.int il7_72), .val (.int il8_72), .val (.int il9_72), .val (.double dl10_72), .second, .val (.int il5_72), .val (.ref b51), .unset, .unset] [(.int (1 : Int32))])
      refine own_step (fun _ => XS.iconst X52.here hx rfl (hb hby at_180)) ?_
      show own_Ends p e below s _ _ _ T52 (mkF m 181 #[.val (.int i0), .val (.int i1), .val (.int i2), .val (.int i3), .val (.int (1 : Int32)), .val (.int il5_72), .val (.int il6_72), .val (.int il7_72), .val (.int il8_72), .val (.int il9_72), .val (.double dl10_72), .second, .val (.int il5_72), .val (.ref b51), .unset, .unset] [(.int (3 : Int32)), (.int (1 : Int32))])
      refine own_step (fun _ => XS.icmpYes X52.here hx rfl (pc0 := 181) (pc' := 191) rfl (hb hby at_181) rfl (flt (show ¬ ((3 : Int32) < (1 : Int32)) from (by decide))).2.2.2 (by decide) (by decide)) ?_
      show own_Ends p e below s _ _ _ T52 (mkF m 191 #[.val (.int i0), .val (.int i1), .val (.int i2), .val (.int i3), .val (.int (1 : Int32)), .val (.int il5_72), .val (.int il6_72), .val (.int il7_72), .val (.int il8_72), .val (.int il9_72), .val (.double dl10_72), .second, .val (.int il5_72), .val (.ref b51), .unset, .unset] [])
      refine own_step (fun _ => XS.iload X52.here hx rfl (hb hby at_191) rfl) ?_
      show own_Ends p e below s _ _ _ T52 (mkF m 193 #[.val (.int i0), .val (.int i1), .val (.int i2), .val (.int i3), .val (.int (1 : Int32)), .val (.int il5_72), .val (.int il6_72), .val (.int il7_72), .val (.int il8_72), .val (.int il9_72), .val (.double dl10_72), .second, .val (.int il5_72), .val (.ref b51), .unset, .unset] [(.int (1 : Int32))])
      refine own_step (fun _ => XS.iconst X52.here hx rfl (hb hby at_193)) ?_
      show own_Ends p e below s _ _ _ T52 (mkF m 194 #[.val (.int i0), .val (.int i1), .val (.int i2), .val (.int i3), .val (.int (1 : Int32)), .val (.int il5_72), .val (.int il6_72), .val (.int il7_72), .val (.int il8_72), .val (.int il9_72), .val (.double dl10_72), .second, .val (.int il5_72), .val (.ref b51), .unset, .unset] [(.int (4 : Int32)), (.int (1 : Int32))])
      refine own_step (fun _ => XS.icmpYes X52.here hx rfl (pc0 := 194) (pc' := 204) rfl (hb hby at_194) rfl (flt (show ¬ ((4 : Int32) < (1 : Int32)) from (by decide))).2.2.2 (by decide) (by decide)) ?_
      show own_Ends p e below s _ _ _ T52 (mkF m 204 #[.val (.int i0), .val (.int i1), .val (.int i2), .val (.int i3), .val (.int (1 : Int32)), .val (.int il5_72), .val (.int il6_72), .val (.int il7_72), .val (.int il8_72), .val (.int il9_72), .val (.double dl10_72), .second, .val (.int il5_72), .val (.ref b51), .unset, .unset] [])
      refine own_step (fun _ => XS.iconst X52.here hx rfl (hb hby at_204)) ?_
      show own_Ends p e below s _ _ _ T52 (mkF m 205 #[.val (.int i0), .val (.int i1), .val (.int i2), .val (.int i3), .val (.int (1 : Int32)), .val (.int il5_72), .val (.int il6_72), .val (.int il7_72), .val (.int il8_72), .val (.int il9_72), .val (.double dl10_72), .second, .val (.int il5_72), .val (.ref b51), .unset, .unset] [(.int (1 : Int32))])
      refine own_step (fun _ => XS.iload X52.here hx rfl (hb hby at_205) rfl) ?_
      show own_Ends p e below s _ _ _ T52 (mkF m 207 #[.val (.int i0), .val (.int i1), .val (.int i2), .val (.int i3), .val (.int (1 : Int32)), .val (.int il5_72), .val (.int il6_72), .val (.int il7_72), .val (.int il8_72), .val (.int il9_72), .val (.double dl10_72), .second, .val (.int il5_72), .val (.ref b51), .unset, .unset] [(.int il5_72), (.int (1 : Int32))])
      refine own_step (fun _ => XS.dload X52.here hx rfl (hb hby at_207) rfl) ?_
      show own_Ends p e below s _ _ _ T52 (mkF m 209 #[.val (.int i0), .val (.int i1), .val (.int i2), .val (.int i3), .val (.int (1 : Int32)), .val (.int il5_72), .val (.int il6_72), .val (.int il7_72), .val (.int il8_72), .val (.int il9_72), .val (.double dl10_72), .second, .val (.int il5_72), .val (.ref b51), .unset, .unset] [(.double dl10_72), (.int il5_72), (.int (1 : Int32))])
      obtain ⟨_, _, ⟨T53, L53, k53, n53⟩, -, X53, ⟨Lc53, hQ53, l53, y53, z53⟩, st53⟩ := Jvm.LawKit.callS X52 hx (y := (⟨"com/example/graded_queue/gradedqueue/sim/CumulativeFirstAbovePinLaw", "le", "(ZID)I"⟩ : MethodName)) hown (mvT hZ (hw _ (List.mem_of_getElem? (i := 3) rfl))) (mvT hZ (hw _ (List.mem_of_getElem? (i := 4) rfl))) (mvT hZ (hw _ (List.mem_of_getElem? (i := 5) rfl))) (mvT hZ (hw _ (List.mem_of_getElem? (i := 6) rfl))) (by decide) (backOf (W := 0) (rm1 l Z a0 hw [] (1 : Int32) il5_72 dl10_72 h52 n0 Zs52) hZ (hw _ (List.mem_of_getElem? (i := 6) rfl)) (hw _ (List.mem_of_getElem? (i := 5) rfl)) (by decide) (by decide)) (g := (mkF m 209 #[.val (.int i0), .val (.int i1), .val (.int i2), .val (.int i3), .val (.int (1 : Int32)), .val (.int il5_72), .val (.int il6_72), .val (.int il7_72), .val (.int il8_72), .val (.int il9_72), .val (.double dl10_72), .second, .val (.int il5_72), .val (.ref b51), .unset, .unset] [(.double dl10_72), (.int il5_72), (.int (1 : Int32))])) rfl (by rw [hml]; rfl) (argsL := [(.int (1 : Int32)), (.int il5_72), (.double dl10_72)]) (rest := []) (lenOf pd_0 rfl) rfl (by show 2 * 0 + _ ≤ _; exact Nat.le_of_eq rfl) (hb hby at_209) (fun _ _ => ⟨rfl, e52, (by decide : 1 + 0 ≤ _), (by decide : 1 + 0 ≤ _)⟩)
      dsimp only [Pt.U, Pt.locs, Pt.cells, Pt.slots] at X53 l53 y53 z53 st53 hQ53
      subst l53 y53 z53
      obtain ⟨rfl, N53q, hh53⟩ := hQ53
      have N53 := Fr.app N52 N53q
      refine own_step st53 ?_
      show own_Ends p e below s _ _ _ T53 (mkF m 212 #[.val (.int i0), .val (.int i1), .val (.int i2), .val (.int i3), .val (.int (1 : Int32)), .val (.int il5_72), .val (.int il6_72), .val (.int il7_72), .val (.int il8_72), .val (.int il9_72), .val (.double dl10_72), .second, .val (.int il5_72), .val (.ref b51), .unset, .unset] [(.int (f1_0 (1 : Int32) il5_72 dl10_72))])
      refine own_step (fun _ => XS.iload X53.here hx rfl (hb hby at_212) rfl) ?_
      show own_Ends p e below s _ _ _ T53 (mkF m 214 #[.val (.int i0), .val (.int i1), .val (.int i2), .val (.int i3), .val (.int (1 : Int32)), .val (.int il5_72), .val (.int il6_72), .val (.int il7_72), .val (.int il8_72), .val (.int il9_72), .val (.double dl10_72), .second, .val (.int il5_72), .val (.ref b51), .unset, .unset] [(.int (1 : Int32)), (.int (f1_0 (1 : Int32) il5_72 dl10_72))])
      refine own_step (fun _ => XS.iconst X53.here hx rfl (hb hby at_214)) ?_
      show own_Ends p e below s _ _ _ T53 (mkF m 215 #[.val (.int i0), .val (.int i1), .val (.int i2), .val (.int i3), .val (.int (1 : Int32)), .val (.int il5_72), .val (.int il6_72), .val (.int il7_72), .val (.int il8_72), .val (.int il9_72), .val (.double dl10_72), .second, .val (.int il5_72), .val (.ref b51), .unset, .unset] [(.int (1 : Int32)), (.int (1 : Int32)), (.int (f1_0 (1 : Int32) il5_72 dl10_72))])
      refine own_step (fun _ => XS.icmpYes X53.here hx rfl (pc0 := 215) (pc' := 222) rfl (hb hby at_215) rfl (flt (show ¬ ((1 : Int32) < (1 : Int32)) from (by decide))).2.2.2 (by decide) (by decide)) ?_
      show own_Ends p e below s _ _ _ T53 (mkF m 222 #[.val (.int i0), .val (.int i1), .val (.int i2), .val (.int i3), .val (.int (1 : Int32)), .val (.int il5_72), .val (.int il6_72), .val (.int il7_72), .val (.int il8_72), .val (.int il9_72), .val (.double dl10_72), .second, .val (.int il5_72), .val (.ref b51), .unset, .unset] [(.int (f1_0 (1 : Int32) il5_72 dl10_72))])
      refine own_step (fun _ => XS.iconst X53.here hx rfl (hb hby at_222)) ?_
      show own_Ends p e below s _ _ _ T53 (mkF m 223 #[.val (.int i0), .val (.int i1), .val (.int i2), .val (.int i3), .val (.int (1 : Int32)), .val (.int il5_72), .val (.int il6_72), .val (.int il7_72), .val (.int il8_72), .val (.int il9_72), .val (.double dl10_72), .second, .val (.int il5_72), .val (.ref b51), .unset, .unset] [(.int (0 : Int32)), (.int (f1_0 (1 : Int32) il5_72 dl10_72))])
      refine own_step (fun _ => XS.iload X53.here hx rfl (hb hby at_223) rfl) ?_
      show own_Ends p e below s _ _ _ T53 (mkF m 225 #[.val (.int i0), .val (.int i1), .val (.int i2), .val (.int i3), .val (.int (1 : Int32)), .val (.int il5_72), .val (.int il6_72), .val (.int il7_72), .val (.int il8_72), .val (.int il9_72), .val (.double dl10_72), .second, .val (.int il5_72), .val (.ref b51), .unset, .unset] [(.int il6_72), (.int (0 : Int32)), (.int (f1_0 (1 : Int32) il5_72 dl10_72))])
      refine own_step (fun _ => XS.dload X53.here hx rfl (hb hby at_225) rfl) ?_
      show own_Ends p e below s _ _ _ T53 (mkF m 227 #[.val (.int i0), .val (.int i1), .val (.int i2), .val (.int i3), .val (.int (1 : Int32)), .val (.int il5_72), .val (.int il6_72), .val (.int il7_72), .val (.int il8_72), .val (.int il9_72), .val (.double dl10_72), .second, .val (.int il5_72), .val (.ref b51), .unset, .unset] [(.double dl10_72), (.int il6_72), (.int (0 : Int32)), (.int (f1_0 (1 : Int32) il5_72 dl10_72))])
      obtain ⟨_, _, ⟨T54, L54, k54, n54⟩, -, X54, ⟨Lc54, hQ54, l54, y54, z54⟩, st54⟩ := Jvm.LawKit.callS X53 hx (y := (⟨"com/example/graded_queue/gradedqueue/sim/CumulativeFirstAbovePinLaw", "le", "(ZID)I"⟩ : MethodName)) hown (mvT hZ (hw _ (List.mem_of_getElem? (i := 3) rfl))) (mvT hZ (hw _ (List.mem_of_getElem? (i := 4) rfl))) (mvT hZ (hw _ (List.mem_of_getElem? (i := 5) rfl))) (mvT hZ (hw _ (List.mem_of_getElem? (i := 6) rfl))) (by decide) (backOf (W := 1) (rm1 l Z a0 hw [] (0 : Int32) il6_72 dl10_72 h52 n0 Zs52) hZ (hw _ (List.mem_of_getElem? (i := 6) rfl)) (hw _ (List.mem_of_getElem? (i := 5) rfl)) (by decide) (by decide)) (g := (mkF m 227 #[.val (.int i0), .val (.int i1), .val (.int i2), .val (.int i3), .val (.int (1 : Int32)), .val (.int il5_72), .val (.int il6_72), .val (.int il7_72), .val (.int il8_72), .val (.int il9_72), .val (.double dl10_72), .second, .val (.int il5_72), .val (.ref b51), .unset, .unset] [(.double dl10_72), (.int il6_72), (.int (0 : Int32)), (.int (f1_0 (1 : Int32) il5_72 dl10_72))])) rfl (by rw [hml]; rfl) (argsL := [(.int (0 : Int32)), (.int il6_72), (.double dl10_72)]) (rest := [(.int (f1_0 (1 : Int32) il5_72 dl10_72))]) (lenOf pd_0 rfl) rfl (by show 2 * 0 + _ ≤ _; exact Nat.le_of_eq rfl) (hb hby at_227) (fun _ _ => ⟨rfl, hh53, (by decide : 1 + 0 ≤ _), (by decide : 1 + 0 ≤ _)⟩)
      dsimp only [Pt.U, Pt.locs, Pt.cells, Pt.slots] at X54 l54 y54 z54 st54 hQ54
      subst l54 y54 z54
      obtain ⟨rfl, N54q, hh54⟩ := hQ54
      have N54 := Fr.app N53 N54q
      refine own_step st54 ?_
      show own_Ends p e below s _ _ _ T54 (mkF m 230 #[.val (.int i0), .val (.int i1), .val (.int i2), .val (.int i3), .val (.int (1 : Int32)), .val (.int il5_72), .val (.int il6_72), .val (.int il7_72), .val (.int il8_72), .val (.int il9_72), .val (.double dl10_72), .second, .val (.int il5_72), .val (.ref b51), .unset, .unset] [(.int (f1_0 (0 : Int32) il6_72 dl10_72)), (.int (f1_0 (1 : Int32) il5_72 dl10_72))])
      refine own_step (fun _ => XS.iadd X54.here hx rfl (hb hby at_230) rfl) ?_
      show own_Ends p e below s _ _ _ T54 (mkF m 231 #[.val (.int i0), .val (.int i1), .val (.int i2), .val (.int i3), .val (.int (1 : Int32)), .val (.int il5_72), .val (.int il6_72), .val (.int il7_72), .val (.int il8_72), .val (.int il9_72), .val (.double dl10_72), .second, .val (.int il5_72), .val (.ref b51), .unset, .unset] [(.int ((f1_0 (1 : Int32) il5_72 dl10_72) + (f1_0 (0 : Int32) il6_72 dl10_72)))])
      refine own_step (fun _ => XS.iload X54.here hx rfl (hb hby at_231) rfl) ?_
      show own_Ends p e below s _ _ _ T54 (mkF m 233 #[.val (.int i0), .val (.int i1), .val (.int i2), .val (.int i3), .val (.int (1 : Int32)), .val (.int il5_72), .val (.int il6_72), .val (.int il7_72), .val (.int il8_72), .val (.int il9_72), .val (.double dl10_72), .second, .val (.int il5_72), .val (.ref b51), .unset, .unset] [(.int (1 : Int32)), (.int ((f1_0 (1 : Int32) il5_72 dl10_72) + (f1_0 (0 : Int32) il6_72 dl10_72)))])
      refine own_step (fun _ => XS.iconst X54.here hx rfl (hb hby at_233)) ?_
      show own_Ends p e below s _ _ _ T54 (mkF m 234 #[.val (.int i0), .val (.int i1), .val (.int i2), .val (.int i3), .val (.int (1 : Int32)), .val (.int il5_72), .val (.int il6_72), .val (.int il7_72), .val (.int il8_72), .val (.int il9_72), .val (.double dl10_72), .second, .val (.int il5_72), .val (.ref b51), .unset, .unset] [(.int (2 : Int32)), (.int (1 : Int32)), (.int ((f1_0 (1 : Int32) il5_72 dl10_72) + (f1_0 (0 : Int32) il6_72 dl10_72)))])
      refine own_step (fun _ => XS.icmpYes X54.here hx rfl (pc0 := 234) (pc' := 241) rfl (hb hby at_234) rfl (flt (show ¬ ((2 : Int32) < (1 : Int32)) from (by decide))).2.2.2 (by decide) (by decide)) ?_
      show own_Ends p e below s _ _ _ T54 (mkF m 241 #[.val (.int i0), .val (.int i1), .val (.int i2), .val (.int i3), .val (.int (1 : Int32)), .val (.int il5_72), .val (.int il6_72), .val (.int il7_72), .val (.int il8_72), .val (.int il9_72), .val (.double dl10_72), .second, .val (.int il5_72), .val (.ref b51), .unset, .unset] [(.int ((f1_0 (1 : Int32) il5_72 dl10_72) + (f1_0 (0 : Int32) il6_72 dl10_72)))])
      refine own_step (fun _ => XS.iconst X54.here hx rfl (hb hby at_241)) ?_
      show own_Ends p e below s _ _ _ T54 (mkF m 242 #[.val (.int i0), .val (.int i1), .val (.int i2), .val (.int i3), .val (.int (1 : Int32)), .val (.int il5_72), .val (.int il6_72), .val (.int il7_72), .val (.int il8_72), .val (.int il9_72), .val (.double dl10_72), .second, .val (.int il5_72), .val (.ref b51), .unset, .unset] [(.int (0 : Int32)), (.int ((f1_0 (1 : Int32) il5_72 dl10_72) + (f1_0 (0 : Int32) il6_72 dl10_72)))])
      refine own_step (fun _ => XS.iload X54.here hx rfl (hb hby at_242) rfl) ?_
      show own_Ends p e below s _ _ _ T54 (mkF m 244 #[.val (.int i0), .val (.int i1), .val (.int i2), .val (.int i3), .val (.int (1 : Int32)), .val (.int il5_72), .val (.int il6_72), .val (.int il7_72), .val (.int il8_72), .val (.int il9_72), .val (.double dl10_72), .second, .val (.int il5_72), .val (.ref b51), .unset, .unset] [(.int il7_72), (.int (0 : Int32)), (.int ((f1_0 (1 : Int32) il5_72 dl10_72) + (f1_0 (0 : Int32) il6_72 dl10_72)))])
      refine own_step (fun _ => XS.dload X54.here hx rfl (hb hby at_244) rfl) ?_
      show own_Ends p e below s _ _ _ T54 (mkF m 246 #[.val (.int i0), .val (.int i1), .val (.int i2), .val (.int i3), .val (.int (1 : Int32)), .val (.int il5_72), .val (.int il6_72), .val (.int il7_72), .val (.int il8_72), .val (.int il9_72), .val (.double dl10_72), .second, .val (.int il5_72), .val (.ref b51), .unset, .unset] [(.double dl10_72), (.int il7_72), (.int (0 : Int32)), (.int ((f1_0 (1 : Int32) il5_72 dl10_72) + (f1_0 (0 : Int32) il6_72 dl10_72)))])
      obtain ⟨_, _, ⟨T55, L55, k55, n55⟩, -, X55, ⟨Lc55, hQ55, l55, y55, z55⟩, st55⟩ := Jvm.LawKit.callS X54 hx (y := (⟨"com/example/graded_queue/gradedqueue/sim/CumulativeFirstAbovePinLaw", "le", "(ZID)I"⟩ : MethodName)) hown (mvT hZ (hw _ (List.mem_of_getElem? (i := 3) rfl))) (mvT hZ (hw _ (List.mem_of_getElem? (i := 4) rfl))) (mvT hZ (hw _ (List.mem_of_getElem? (i := 5) rfl))) (mvT hZ (hw _ (List.mem_of_getElem? (i := 6) rfl))) (by decide) (backOf (W := 1) (rm1 l Z a0 hw [] (0 : Int32) il7_72 dl10_72 h52 n0 Zs52) hZ (hw _ (List.mem_of_getElem? (i := 6) rfl)) (hw _ (List.mem_of_getElem? (i := 5) rfl)) (by decide) (by decide)) (g := (mkF m 246 #[.val (.int i0), .val (.int i1), .val (.int i2), .val (.int i3), .val (.int (1 : Int32)), .val (.int il5_72), .val (.int il6_72), .val (.int il7_72), .val (.int il8_72), .val (.int il9_72), .val (.double dl10_72), .second, .val (.int il5_72), .val (.ref b51), .unset, .unset] [(.double dl10_72), (.int il7_72), (.int (0 : Int32)), (.int ((f1_0 (1 : Int32) il5_72 dl10_72) + (f1_0 (0 : Int32) il6_72 dl10_72)))])) rfl (by rw [hml]; rfl) (argsL := [(.int (0 : Int32)), (.int il7_72), (.double dl10_72)]) (rest := [(.int ((f1_0 (1 : Int32) il5_72 dl10_72) + (f1_0 (0 : Int32) il6_72 dl10_72)))]) (lenOf pd_0 rfl) rfl (by show 2 * 0 + _ ≤ _; exact Nat.le_of_eq rfl) (hb hby at_246) (fun _ _ => ⟨rfl, hh54, (by decide : 1 + 0 ≤ _), (by decide : 1 + 0 ≤ _)⟩)
      dsimp only [Pt.U, Pt.locs, Pt.cells, Pt.slots] at X55 l55 y55 z55 st55 hQ55
      subst l55 y55 z55
      obtain ⟨rfl, N55q, hh55⟩ := hQ55
      have N55 := Fr.app N54 N55q
      refine own_step st55 ?_
      show own_Ends p e below s _ _ _ T55 (mkF m 249 #[.val (.int i0), .val (.int i1), .val (.int i2), .val (.int i3), .val (.int (1 : Int32)), .val (.int il5_72), .val (.int il6_72), .val (.int il7_72), .val (.int il8_72), .val (.int il9_72), .val (.double dl10_72), .second, .val (.int il5_72), .val (.ref b51), .unset, .unset] [(.int (f1_0 (0 : Int32) il7_72 dl10_72)), (.int ((f1_0 (1 : Int32) il5_72 dl10_72) + (f1_0 (0 : Int32) il6_72 dl10_72)))])
      refine own_step (fun _ => XS.iadd X55.here hx rfl (hb hby at_249) rfl) ?_
      show own_Ends p e below s _ _ _ T55 (mkF m 250 #[.val (.int i0), .val (.int i1), .val (.int i2), .val (.int i3), .val (.int (1 : Int32)), .val (.int il5_72), .val (.int il6_72), .val (.int il7_72), .val (.int il8_72), .val (.int il9_72), .val (.double dl10_72), .second, .val (.int il5_72), .val (.ref b51), .unset, .unset] [(.int (((f1_0 (1 : Int32) il5_72 dl10_72) + (f1_0 (0 : Int32) il6_72 dl10_72)) + (f1_0 (0 : Int32) il7_72 dl10_72)))])
      refine own_step (fun _ => XS.iload X55.here hx rfl (hb hby at_250) rfl) ?_
      show own_Ends p e below s _ _ _ T55 (mkF m 252 #[.val (.int i0), .val (.int i1), .val (.int i2), .val (.int i3), .val (.int (1 : Int32)), .val (.int il5_72), .val (.int il6_72), .val (.int il7_72), .val (.int il8_72), .val (.int il9_72), .val (.double dl10_72), .second, .val (.int il5_72), .val (.ref b51), .unset, .unset] [(.int (1 : Int32)), (.int (((f1_0 (1 : Int32) il5_72 dl10_72) + (f1_0 (0 : Int32) il6_72 dl10_72)) + (f1_0 (0 : Int32) il7_72 dl10_72)))])
      refine own_step (fun _ => XS.iconst X55.here hx rfl (hb hby at_252)) ?_
      show own_Ends p e below s _ _ _ T55 (mkF m 253 #[.val (.int i0), .val (.int i1), .val (.int i2), .val (.int i3), .val (.int (1 : Int32)), .val (.int il5_72), .val (.int il6_72), .val (.int il7_72), .val (.int il8_72), .val (.int il9_72), .val (.double dl10_72), .second, .val (.int il5_72), .val (.ref b51), .unset, .unset] [(.int (3 : Int32)), (.int (1 : Int32)), (.int (((f1_0 (1 : Int32) il5_72 dl10_72) + (f1_0 (0 : Int32) il6_72 dl10_72)) + (f1_0 (0 : Int32) il7_72 dl10_72)))])
      refine own_step (fun _ => XS.icmpYes X55.here hx rfl (pc0 := 253) (pc' := 260) rfl (hb hby at_253) rfl (flt (show ¬ ((3 : Int32) < (1 : Int32)) from (by decide))).2.2.2 (by decide) (by decide)) ?_
      show own_Ends p e below s _ _ _ T55 (mkF m 260 #[.val (.int i0), .val (.int i1), .val (.int i2), .val (.int i3), .val (.int (1 : Int32)), .val (.int il5_72), .val (.int il6_72), .val (.int il7_72), .val (.int il8_72), .val (.int il9_72), .val (.double dl10_72), .second, .val (.int il5_72), .val (.ref b51), .unset, .unset] [(.int (((f1_0 (1 : Int32) il5_72 dl10_72) + (f1_0 (0 : Int32) il6_72 dl10_72)) + (f1_0 (0 : Int32) il7_72 dl10_72)))])
      refine own_step (fun _ => XS.iconst X55.here hx rfl (hb hby at_260)) ?_
      show own_Ends p e below s _ _ _ T55 (mkF m 261 #[.val (.int i0), .val (.int i1), .val (.int i2), .val (.int i3), .val (.int (1 : Int32)), .val (.int il5_72), .val (.int il6_72), .val (.int il7_72), .val (.int il8_72), .val (.int il9_72), .val (.double dl10_72), .second, .val (.int il5_72), .val (.ref b51), .unset, .unset] [(.int (0 : Int32)), (.int (((f1_0 (1 : Int32) il5_72 dl10_72) + (f1_0 (0 : Int32) il6_72 dl10_72)) + (f1_0 (0 : Int32) il7_72 dl10_72)))])
      refine own_step (fun _ => XS.iload X55.here hx rfl (hb hby at_261) rfl) ?_
      show own_Ends p e below s _ _ _ T55 (mkF m 263 #[.val (.int i0), .val (.int i1), .val (.int i2), .val (.int i3), .val (.int (1 : Int32)), .val (.int il5_72), .val (.int il6_72), .val (.int il7_72), .val (.int il8_72), .val (.int il9_72), .val (.double dl10_72), .second, .val (.int il5_72), .val (.ref b51), .unset, .unset] [(.int il8_72), (.int (0 : Int32)), (.int (((f1_0 (1 : Int32) il5_72 dl10_72) + (f1_0 (0 : Int32) il6_72 dl10_72)) + (f1_0 (0 : Int32) il7_72 dl10_72)))])
      refine own_step (fun _ => XS.dload X55.here hx rfl (hb hby at_263) rfl) ?_
      show own_Ends p e below s _ _ _ T55 (mkF m 265 #[.val (.int i0), .val (.int i1), .val (.int i2), .val (.int i3), .val (.int (1 : Int32)), .val (.int il5_72), .val (.int il6_72), .val (.int il7_72), .val (.int il8_72), .val (.int il9_72), .val (.double dl10_72), .second, .val (.int il5_72), .val (.ref b51), .unset, .unset] [(.double dl10_72), (.int il8_72), (.int (0 : Int32)), (.int (((f1_0 (1 : Int32) il5_72 dl10_72) + (f1_0 (0 : Int32) il6_72 dl10_72)) + (f1_0 (0 : Int32) il7_72 dl10_72)))])
      obtain ⟨_, _, ⟨T56, L56, k56, n56⟩, -, X56, ⟨Lc56, hQ56, l56, y56, z56⟩, st56⟩ := Jvm.LawKit.callS X55 hx (y := (⟨"com/example/graded_queue/gradedqueue/sim/CumulativeFirstAbovePinLaw", "le", "(ZID)I"⟩ : MethodName)) hown (mvT hZ (hw _ (List.mem_of_getElem? (i := 3) rfl))) (mvT hZ (hw _ (List.mem_of_getElem? (i := 4) rfl))) (mvT hZ (hw _ (List.mem_of_getElem? (i := 5) rfl))) (mvT hZ (hw _ (List.mem_of_getElem? (i := 6) rfl))) (by decide) (backOf (W := 1) (rm1 l Z a0 hw [] (0 : Int32) il8_72 dl10_72 h52 n0 Zs52) hZ (hw _ (List.mem_of_getElem? (i := 6) rfl)) (hw _ (List.mem_of_getElem? (i := 5) rfl)) (by decide) (by decide)) (g := (mkF m 265 #[.val (.int i0), .val (.int i1), .val (.int i2), .val (.int i3), .val (.int (1 : Int32)), .val (.int il5_72), .val (.int il6_72), .val (.int il7_72), .val (.int il8_72), .val (.int il9_72), .val (.double dl10_72), .second, .val (.int il5_72), .val (.ref b51), .unset, .unset] [(.double dl10_72), (.int il8_72), (.int (0 : Int32)), (.int (((f1_0 (1 : Int32) il5_72 dl10_72) + (f1_0 (0 : Int32) il6_72 dl10_72)) + (f1_0 (0 : Int32) il7_72 dl10_72)))])) rfl (by rw [hml]; rfl) (argsL := [(.int (0 : Int32)), (.int il8_72), (.double dl10_72)]) (rest := [(.int (((f1_0 (1 : Int32) il5_72 dl10_72) + (f1_0 (0 : Int32) il6_72 dl10_72)) + (f1_0 (0 : Int32) il7_72 dl10_72)))]) (lenOf pd_0 rfl) rfl (by show 2 * 0 + _ ≤ _; exact Nat.le_of_eq rfl) (hb hby at_265) (fun _ _ => ⟨rfl, hh55, (by decide : 1 + 0 ≤ _), (by decide : 1 + 0 ≤ _)⟩)
      dsimp only [Pt.U, Pt.locs, Pt.cells, Pt.slots] at X56 l56 y56 z56 st56 hQ56
      subst l56 y56 z56
      obtain ⟨rfl, N56q, hh56⟩ := hQ56
      have N56 := Fr.app N55 N56q
      refine own_step st56 ?_
      show own_Ends p e below s _ _ _ T56 (mkF m 268 #[.val (.int i0), .val (.int i1), .val (.int i2), .val (.int i3), .val (.int (1 : Int32)), .val (.int il5_72), .val (.int il6_72), .val (.int il7_72), .val (.int il8_72), .val (.int il9_72), .val (.double dl10_72), .second, .val (.int il5_72), .val (.ref b51), .unset, .unset] [(.int (f1_0 (0 : Int32) il8_72 dl10_72)), (.int (((f1_0 (1 : Int32) il5_72 dl10_72) + (f1_0 (0 : Int32) il6_72 dl10_72)) + (f1_0 (0 : Int32) il7_72 dl10_72)))])
      refine own_step (fun _ => XS.iadd X56.here hx rfl (hb hby at_268) rfl) ?_
      show own_Ends p e below s _ _ _ T56 (mkF m 269 #[.val (.int i0), .val (.int i1), .val (.int i2), .val (.int i3), .val (.int (1 : Int32)), .val (.int il5_72), .val (.int il6_72), .val (.int il7_72), .val (.int il8_72), .val (.int il9_72), .val (.double dl10_72), .second, .val (.int il5_72), .val (.ref b51), .unset, .unset] [(.int ((((f1_0 (1 : Int32) il5_72 dl10_72) + (f1_0 (0 : Int32) il6_72 dl10_72)) + (f1_0 (0 : Int32) il7_72 dl10_72)) + (f1_0 (0 : Int32) il8_72 dl10_72)))])
      refine own_step (fun _ => XS.iload X56.here hx rfl (hb hby at_269) rfl) ?_
      show own_Ends p e below s _ _ _ T56 (mkF m 271 #[.val (.int i0), .val (.int i1), .val (.int i2), .val (.int i3), .val (.int (1 : Int32)), .val (.int il5_72), .val (.int il6_72), .val (.int il7_72), .val (.int il8_72), .val (.int il9_72), .val (.double dl10_72), .second, .val (.int il5_72), .val (.ref b51), .unset, .unset] [(.int (1 : Int32)), (.int ((((f1_0 (1 : Int32) il5_72 dl10_72) + (f1_0 (0 : Int32) il6_72 dl10_72)) + (f1_0 (0 : Int32) il7_72 dl10_72)) + (f1_0 (0 : Int32) il8_72 dl10_72)))])
      refine own_step (fun _ => XS.iconst X56.here hx rfl (hb hby at_271)) ?_
      show own_Ends p e below s _ _ _ T56 (mkF m 272 #[.val (.int i0), .val (.int i1), .val (.int i2), .val (.int i3), .val (.int (1 : Int32)), .val (.int il5_72), .val (.int il6_72), .val (.int il7_72), .val (.int il8_72), .val (.int il9_72), .val (.double dl10_72), .second, .val (.int il5_72), .val (.ref b51), .unset, .unset] [(.int (4 : Int32)), (.int (1 : Int32)), (.int ((((f1_0 (1 : Int32) il5_72 dl10_72) + (f1_0 (0 : Int32) il6_72 dl10_72)) + (f1_0 (0 : Int32) il7_72 dl10_72)) + (f1_0 (0 : Int32) il8_72 dl10_72)))])
      refine own_step (fun _ => XS.icmpYes X56.here hx rfl (pc0 := 272) (pc' := 279) rfl (hb hby at_272) rfl (flt (show ¬ ((4 : Int32) < (1 : Int32)) from (by decide))).2.2.2 (by decide) (by decide)) ?_
      show own_Ends p e below s _ _ _ T56 (mkF m 279 #[.val (.int i0), .val (.int i1), .val (.int i2), .val (.int i3), .val (.int (1 : Int32)), .val (.int il5_72), .val (.int il6_72), .val (.int il7_72), .val (.int il8_72), .val (.int il9_72), .val (.double dl10_72), .second, .val (.int il5_72), .val (.ref b51), .unset, .unset] [(.int ((((f1_0 (1 : Int32) il5_72 dl10_72) + (f1_0 (0 : Int32) il6_72 dl10_72)) + (f1_0 (0 : Int32) il7_72 dl10_72)) + (f1_0 (0 : Int32) il8_72 dl10_72)))])
      refine own_step (fun _ => XS.iconst X56.here hx rfl (hb hby at_279)) ?_
      show own_Ends p e below s _ _ _ T56 (mkF m 280 #[.val (.int i0), .val (.int i1), .val (.int i2), .val (.int i3), .val (.int (1 : Int32)), .val (.int il5_72), .val (.int il6_72), .val (.int il7_72), .val (.int il8_72), .val (.int il9_72), .val (.double dl10_72), .second, .val (.int il5_72), .val (.ref b51), .unset, .unset] [(.int (0 : Int32)), (.int ((((f1_0 (1 : Int32) il5_72 dl10_72) + (f1_0 (0 : Int32) il6_72 dl10_72)) + (f1_0 (0 : Int32) il7_72 dl10_72)) + (f1_0 (0 : Int32) il8_72 dl10_72)))])
      refine own_step (fun _ => XS.iload X56.here hx rfl (hb hby at_280) rfl) ?_
      show own_Ends p e below s _ _ _ T56 (mkF m 282 #[.val (.int i0), .val (.int i1), .val (.int i2), .val (.int i3), .val (.int (1 : Int32)), .val (.int il5_72), .val (.int il6_72), .val (.int il7_72), .val (.int il8_72), .val (.int il9_72), .val (.double dl10_72), .second, .val (.int il5_72), .val (.ref b51), .unset, .unset] [(.int il9_72), (.int (0 : Int32)), (.int ((((f1_0 (1 : Int32) il5_72 dl10_72) + (f1_0 (0 : Int32) il6_72 dl10_72)) + (f1_0 (0 : Int32) il7_72 dl10_72)) + (f1_0 (0 : Int32) il8_72 dl10_72)))])
      refine own_step (fun _ => XS.dload X56.here hx rfl (hb hby at_282) rfl) ?_
      show own_Ends p e below s _ _ _ T56 (mkF m 284 #[.val (.int i0), .val (.int i1), .val (.int i2), .val (.int i3), .val (.int (1 : Int32)), .val (.int il5_72), .val (.int il6_72), .val (.int il7_72), .val (.int il8_72), .val (.int il9_72), .val (.double dl10_72), .second, .val (.int il5_72), .val (.ref b51), .unset, .unset] [(.double dl10_72), (.int il9_72), (.int (0 : Int32)), (.int ((((f1_0 (1 : Int32) il5_72 dl10_72) + (f1_0 (0 : Int32) il6_72 dl10_72)) + (f1_0 (0 : Int32) il7_72 dl10_72)) + (f1_0 (0 : Int32) il8_72 dl10_72)))])
      obtain ⟨_, _, ⟨T57, L57, k57, n57⟩, -, X57, ⟨Lc57, hQ57, l57, y57, z57⟩, st57⟩ := Jvm.LawKit.callS X56 hx (y := (⟨"com/example/graded_queue/gradedqueue/sim/CumulativeFirstAbovePinLaw", "le", "(ZID)I"⟩ : MethodName)) hown (mvT hZ (hw _ (List.mem_of_getElem? (i := 3) rfl))) (mvT hZ (hw _ (List.mem_of_getElem? (i := 4) rfl))) (mvT hZ (hw _ (List.mem_of_getElem? (i := 5) rfl))) (mvT hZ (hw _ (List.mem_of_getElem? (i := 6) rfl))) (by decide) (backOf (W := 1) (rm1 l Z a0 hw [] (0 : Int32) il9_72 dl10_72 h52 n0 Zs52) hZ (hw _ (List.mem_of_getElem? (i := 6) rfl)) (hw _ (List.mem_of_getElem? (i := 5) rfl)) (by decide) (by decide)) (g := (mkF m 284 #[.val (.int i0), .val (.int i1), .val (.int i2), .val (.int i3), .val (.int (1 : Int32)), .val (.int il5_72), .val (.int il6_72), .val (.int il7_72), .val (.int il8_72), .val (.int il9_72), .val (.double dl10_72), .second, .val (.int il5_72), .val (.ref b51), .unset, .unset] [(.double dl10_72), (.int il9_72), (.int (0 : Int32)), (.int ((((f1_0 (1 : Int32) il5_72 dl10_72) + (f1_0 (0 : Int32) il6_72 dl10_72)) + (f1_0 (0 : Int32) il7_72 dl10_72)) + (f1_0 (0 : Int32) il8_72 dl10_72)))])) rfl (by rw [hml]; rfl) (argsL := [(.int (0 : Int32)), (.int il9_72), (.double dl10_72)]) (rest := [(.int ((((f1_0 (1 : Int32) il5_72 dl10_72) + (f1_0 (0 : Int32) il6_72 dl10_72)) + (f1_0 (0 : Int32) il7_72 dl10_72)) + (f1_0 (0 : Int32) il8_72 dl10_72)))]) (lenOf pd_0 rfl) rfl (by show 2 * 0 + _ ≤ _; exact Nat.le_of_eq rfl) (hb hby at_284) (fun _ _ => ⟨rfl, hh56, (by decide : 1 + 0 ≤ _), (by decide : 1 + 0 ≤ _)⟩)
      dsimp only [Pt.U, Pt.locs, Pt.cells, Pt.slots] at X57 l57 y57 z57 st57 hQ57
      subst l57 y57 z57
      obtain ⟨rfl, N57q, hh57⟩ := hQ57
      have N57 := Fr.app N56 N57q
      refine own_step st57 ?_
      show own_Ends p e below s _ _ _ T57 (mkF m 287 #[.val (.int i0), .val (.int i1), .val (.int i2), .val (.int i3), .val (.int (1 : Int32)), .val (.int il5_72), .val (.int il6_72), .val (.int il7_72), .val (.int il8_72), .val (.int il9_72), .val (.double dl10_72), .second, .val (.int il5_72), .val (.ref b51), .unset, .unset] [(.int (f1_0 (0 : Int32) il9_72 dl10_72)), (.int ((((f1_0 (1 : Int32) il5_72 dl10_72) + (f1_0 (0 : Int32) il6_72 dl10_72)) + (f1_0 (0 : Int32) il7_72 dl10_72)) + (f1_0 (0 : Int32) il8_72 dl10_72)))])
      refine own_step (fun _ => XS.iadd X57.here hx rfl (hb hby at_287) rfl) ?_
      show own_Ends p e below s _ _ _ T57 (mkF m 288 #[.val (.int i0), .val (.int i1), .val (.int i2), .val (.int i3), .val (.int (1 : Int32)), .val (.int il5_72), .val (.int il6_72), .val (.int il7_72), .val (.int il8_72), .val (.int il9_72), .val (.double dl10_72), .second, .val (.int il5_72), .val (.ref b51), .unset, .unset] [(.int (((((f1_0 (1 : Int32) il5_72 dl10_72) + (f1_0 (0 : Int32) il6_72 dl10_72)) + (f1_0 (0 : Int32) il7_72 dl10_72)) + (f1_0 (0 : Int32) il8_72 dl10_72)) + (f1_0 (0 : Int32) il9_72 dl10_72)))])
      refine own_step (fun _ => XS.istore X57.here hx rfl (hb hby at_288) rfl (l' := #[.val (.int i0), .val (.int i1), .val (.int i2), .val (.int i3), .val (.int (1 : Int32)), .val (.int il5_72), .val (.int il6_72), .val (.int il7_72), .val (.int il8_72), .val (.int il9_72), .val (.double dl10_72), .second, .val (.int il5_72), .val (.ref b51), .val (.int (((((f1_0 (1 : Int32) il5_72 dl10_72) + (f1_0 (0 : Int32) il6_72 dl10_72)) + (f1_0 (0 : Int32) il7_72 dl10_72)) + (f1_0 (0 : Int32) il8_72 dl10_72)) + (f1_0 (0 : Int32) il9_72 dl10_72))), .unset]) rfl) ?_
      show own_Ends p e below s _ _ _ T57 (mkF m 290 #[.val (.int i0), .val (.int i1), .val (.int i2), .val (.int i3), .val (.int (1 : Int32)), .val (.int il5_72), .val (.int il6_72), .val (.int il7_72), .val (.int il8_72), .val (.int il9_72), .val (.double dl10_72), .second, .val (.int il5_72), .val (.ref b51), .val (.int (((((f1_0 (1 : Int32) il5_72 dl10_72) + (f1_0 (0 : Int32) il6_72 dl10_72)) + (f1_0 (0 : Int32) il7_72 dl10_72)) + (f1_0 (0 : Int32) il8_72 dl10_72)) + (f1_0 (0 : Int32) il9_72 dl10_72))), .unset] [])
      refine own_step (fun _ => XS.aload X57.here hx rfl (hb hby at_290) rfl rfl) ?_
      show own_Ends p e below s _ _ _ T57 (mkF m 292 #[.val (.int i0), .val (.int i1), .val (.int i2), .val (.int i3), .val (.int (1 : Int32)), .val (.int il5_72), .val (.int il6_72), .val (.int il7_72), .val (.int il8_72), .val (.int il9_72), .val (.double dl10_72), .second, .val (.int il5_72), .val (.ref b51), .val (.int (((((f1_0 (1 : Int32) il5_72 dl10_72) + (f1_0 (0 : Int32) il6_72 dl10_72)) + (f1_0 (0 : Int32) il7_72 dl10_72)) + (f1_0 (0 : Int32) il8_72 dl10_72)) + (f1_0 (0 : Int32) il9_72 dl10_72))), .unset] [(.ref b51)])
      refine own_step (fun _ => XS.dload X57.here hx rfl (hb hby at_292) rfl) ?_
      show own_Ends p e below s _ _ _ T57 (mkF m 294 #[.val (.int i0), .val (.int i1), .val (.int i2), .val (.int i3), .val (.int (1 : Int32)), .val (.int il5_72), .val (.int il6_72), .val (.int il7_72), .val (.int il8_72), .val (.int il9_72), .val (.double dl10_72), .second, .val (.int il5_72), .val (.ref b51), .val (.int (((((f1_0 (1 : Int32) il5_72 dl10_72) + (f1_0 (0 : Int32) il6_72 dl10_72)) + (f1_0 (0 : Int32) il7_72 dl10_72)) + (f1_0 (0 : Int32) il8_72 dl10_72)) + (f1_0 (0 : Int32) il9_72 dl10_72))), .unset] [(.double dl10_72), (.ref b51)])
      obtain ⟨_, _, ⟨T58, L58, k58, n58⟩, -, X58, ⟨Lc58, hQ58, l58, y58, z58⟩, st58⟩ := Jvm.LawKit.callS X57 hx (y := (⟨"com/example/graded_queue/gradedqueue/sim/Cumulative", "firstAbove", "([DD)I"⟩ : MethodName)) hown (mvT hZ (hw _ (List.mem_of_getElem? (i := 7) rfl))) (mvT hZ (hw _ (List.mem_of_getElem? (i := 8) rfl))) (mvT hZ (hw _ (List.mem_of_getElem? (i := 9) rfl))) (mvT hZ (hw _ (List.mem_of_getElem? (i := 10) rfl))) (by decide) (backOf (W := 0) (rm2_1 l Z a0 hw [] b51 dl10_72 k51 (FP.i2d il5_72) h52 n0 Zs52 V52) hZ (hw _ (List.mem_of_getElem? (i := 10) rfl)) (hw _ (List.mem_of_getElem? (i := 9) rfl)) (by decide) (by decide)) (g := (mkF m 294 #[.val (.int i0), .val (.int i1), .val (.int i2), .val (.int i3), .val (.int (1 : Int32)), .val (.int il5_72), .val (.int il6_72), .val (.int il7_72), .val (.int il8_72), .val (.int il9_72), .val (.double dl10_72), .second, .val (.int il5_72), .val (.ref b51), .val (.int (((((f1_0 (1 : Int32) il5_72 dl10_72) + (f1_0 (0 : Int32) il6_72 dl10_72)) + (f1_0 (0 : Int32) il7_72 dl10_72)) + (f1_0 (0 : Int32) il8_72 dl10_72)) + (f1_0 (0 : Int32) il9_72 dl10_72))), .unset] [(.double dl10_72), (.ref b51)])) rfl (by rw [hml]; rfl) (argsL := [(.ref b51), (.double dl10_72)]) (rest := []) (lenOf pd_1 rfl) rfl (by show 2 * 0 + _ ≤ _; exact Nat.le_of_eq rfl) (hb hby at_294) (fun _ _ => ⟨rfl, hh57, (by decide : 1 + 0 ≤ _), (by decide : 1 + 0 ≤ _)⟩)
      dsimp only [Pt.U, Pt.locs, Pt.cells, Pt.slots] at X58 l58 y58 z58 st58 hQ58
      subst l58 y58 z58
      obtain ⟨rfl, N58q, hh58⟩ := hQ58
      have N58 := Fr.app N57 N58q
      refine own_step st58 ?_
      show own_Ends p e below s _ _ _ T58 (mkF m 297 #[.val (.int i0), .val (.int i1), .val (.int i2), .val (.int i3), .val (.int (1 : Int32)), .val (.int il5_72), .val (.int il6_72), .val (.int il7_72), .val (.int il8_72), .val (.int il9_72), .val (.double dl10_72), .second, .val (.int il5_72), .val (.ref b51), .val (.int (((((f1_0 (1 : Int32) il5_72 dl10_72) + (f1_0 (0 : Int32) il6_72 dl10_72)) + (f1_0 (0 : Int32) il7_72 dl10_72)) + (f1_0 (0 : Int32) il8_72 dl10_72)) + (f1_0 (0 : Int32) il9_72 dl10_72))), .unset] [(.int (f2a_0 dl10_72 (FP.i2d il5_72)))])
      refine own_step (fun _ => XS.istore X58.here hx rfl (hb hby at_297) rfl (l' := #[.val (.int i0), .val (.int i1), .val (.int i2), .val (.int i3), .val (.int (1 : Int32)), .val (.int il5_72), .val (.int il6_72), .val (.int il7_72), .val (.int il8_72), .val (.int il9_72), .val (.double dl10_72), .second, .val (.int il5_72), .val (.ref b51), .val (.int (((((f1_0 (1 : Int32) il5_72 dl10_72) + (f1_0 (0 : Int32) il6_72 dl10_72)) + (f1_0 (0 : Int32) il7_72 dl10_72)) + (f1_0 (0 : Int32) il8_72 dl10_72)) + (f1_0 (0 : Int32) il9_72 dl10_72))), .val (.int (f2a_0 dl10_72 (FP.i2d il5_72)))]) rfl) ?_
      show own_Ends p e below s _ _ _ T58 (mkF m 299 #[.val (.int i0), .val (.int i1), .val (.int i2), .val (.int i3), .val (.int (1 : Int32)), .val (.int il5_72), .val (.int il6_72), .val (.int il7_72), .val (.int il8_72), .val (.int il9_72), .val (.double dl10_72), .second, .val (.int il5_72), .val (.ref b51), .val (.int (((((f1_0 (1 : Int32) il5_72 dl10_72) + (f1_0 (0 : Int32) il6_72 dl10_72)) + (f1_0 (0 : Int32) il7_72 dl10_72)) + (f1_0 (0 : Int32) il8_72 dl10_72)) + (f1_0 (0 : Int32) il9_72 dl10_72))), .val (.int (f2a_0 dl10_72 (FP.i2d il5_72)))] [])
      refine own_step (fun _ => XS.iload X58.here hx rfl (hb hby at_299) rfl) ?_
      show own_Ends p e below s _ _ _ T58 (mkF m 301 #[.val (.int i0), .val (.int i1), .val (.int i2), .val (.int i3), .val (.int (1 : Int32)), .val (.int il5_72), .val (.int il6_72), .val (.int il7_72), .val (.int il8_72), .val (.int il9_72), .val (.double dl10_72), .second, .val (.int il5_72), .val (.ref b51), .val (.int (((((f1_0 (1 : Int32) il5_72 dl10_72) + (f1_0 (0 : Int32) il6_72 dl10_72)) + (f1_0 (0 : Int32) il7_72 dl10_72)) + (f1_0 (0 : Int32) il8_72 dl10_72)) + (f1_0 (0 : Int32) il9_72 dl10_72))), .val (.int (f2a_0 dl10_72 (FP.i2d il5_72)))] [(.int (f2a_0 dl10_72 (FP.i2d il5_72)))])
      refine own_step (fun _ => XS.iload X58.here hx rfl (hb hby at_301) rfl) ?_
      show own_Ends p e below s _ _ _ T58 (mkF m 303 #[.val (.int i0), .val (.int i1), .val (.int i2), .val (.int i3), .val (.int (1 : Int32)), .val (.int il5_72), .val (.int il6_72), .val (.int il7_72), .val (.int il8_72), .val (.int il9_72), .val (.double dl10_72), .second, .val (.int il5_72), .val (.ref b51), .val (.int (((((f1_0 (1 : Int32) il5_72 dl10_72) + (f1_0 (0 : Int32) il6_72 dl10_72)) + (f1_0 (0 : Int32) il7_72 dl10_72)) + (f1_0 (0 : Int32) il8_72 dl10_72)) + (f1_0 (0 : Int32) il9_72 dl10_72))), .val (.int (f2a_0 dl10_72 (FP.i2d il5_72)))] [(.int (((((f1_0 (1 : Int32) il5_72 dl10_72) + (f1_0 (0 : Int32) il6_72 dl10_72)) + (f1_0 (0 : Int32) il7_72 dl10_72)) + (f1_0 (0 : Int32) il8_72 dl10_72)) + (f1_0 (0 : Int32) il9_72 dl10_72))), (.int (f2a_0 dl10_72 (FP.i2d il5_72)))])
      by_cases hc303 : (f2a_0 dl10_72 (FP.i2d il5_72)) = (((((f1_0 (1 : Int32) il5_72 dl10_72) + (f1_0 (0 : Int32) il6_72 dl10_72)) + (f1_0 (0 : Int32) il7_72 dl10_72)) + (f1_0 (0 : Int32) il8_72 dl10_72)) + (f1_0 (0 : Int32) il9_72 dl10_72))
      · have hvt0_t_t := hvt0_t.trans (if_pos hc303)
        refine own_step (fun _ => XS.icmpNo X58.here hx rfl (hb hby at_303) rfl (teq hc303).2) ?_
        show own_Ends p e below s _ _ _ T58 (mkF m 306 #[.val (.int i0), .val (.int i1), .val (.int i2), .val (.int i3), .val (.int (1 : Int32)), .val (.int il5_72), .val (.int il6_72), .val (.int il7_72), .val (.int il8_72), .val (.int il9_72), .val (.double dl10_72), .second, .val (.int il5_72), .val (.ref b51), .val (.int (((((f1_0 (1 : Int32) il5_72 dl10_72) + (f1_0 (0 : Int32) il6_72 dl10_72)) + (f1_0 (0 : Int32) il7_72 dl10_72)) + (f1_0 (0 : Int32) il8_72 dl10_72)) + (f1_0 (0 : Int32) il9_72 dl10_72))), .val (.int (f2a_0 dl10_72 (FP.i2d il5_72)))] [])
        refine own_step (fun _ => XS.iconst X58.here hx rfl (hb hby at_306)) ?_
        show own_Ends p e below s _ _ _ T58 (mkF m 307 #[.val (.int i0), .val (.int i1), .val (.int i2), .val (.int i3), .val (.int (1 : Int32)), .val (.int il5_72), .val (.int il6_72), .val (.int il7_72), .val (.int il8_72), .val (.int il9_72), .val (.double dl10_72), .second, .val (.int il5_72), .val (.ref b51), .val (.int (((((f1_0 (1 : Int32) il5_72 dl10_72) + (f1_0 (0 : Int32) il6_72 dl10_72)) + (f1_0 (0 : Int32) il7_72 dl10_72)) + (f1_0 (0 : Int32) il8_72 dl10_72)) + (f1_0 (0 : Int32) il9_72 dl10_72))), .val (.int (f2a_0 dl10_72 (FP.i2d il5_72)))] [(.int (1 : Int32))])
        refine own_step (fun _ => XS.goto X58.here hx rfl (pc0 := 307) (pc' := 311) rfl (hb hby at_307) (by decide) (by decide)) ?_
        show own_Ends p e below s _ _ _ T58 (mkF m 311 #[.val (.int i0), .val (.int i1), .val (.int i2), .val (.int i3), .val (.int (1 : Int32)), .val (.int il5_72), .val (.int il6_72), .val (.int il7_72), .val (.int il8_72), .val (.int il9_72), .val (.double dl10_72), .second, .val (.int il5_72), .val (.ref b51), .val (.int (((((f1_0 (1 : Int32) il5_72 dl10_72) + (f1_0 (0 : Int32) il6_72 dl10_72)) + (f1_0 (0 : Int32) il7_72 dl10_72)) + (f1_0 (0 : Int32) il8_72 dl10_72)) + (f1_0 (0 : Int32) il9_72 dl10_72))), .val (.int (f2a_0 dl10_72 (FP.i2d il5_72)))] [(.int (1 : Int32))])
        exact own_retN X58 (t := .boolean) hx hret hlk (hb hby at_311) (by decide) (by decide) (by simp) ⟨congrArg (fun z => some (Value.int z)) hvt0_t_t.symm, N58, trivial⟩
      · have hvt0_t_f := hvt0_t.trans (if_neg hc303)
        refine own_step (fun _ => XS.icmpYes X58.here hx rfl (pc0 := 303) (pc' := 310) rfl (hb hby at_303) rfl (feq hc303).2 (by decide) (by decide)) ?_
        show own_Ends p e below s _ _ _ T58 (mkF m 310 #[.val (.int i0), .val (.int i1), .val (.int i2), .val (.int i3), .val (.int (1 : Int32)), .val (.int il5_72), .val (.int il6_72), .val (.int il7_72), .val (.int il8_72), .val (.int il9_72), .val (.double dl10_72), .second, .val (.int il5_72), .val (.ref b51), .val (.int (((((f1_0 (1 : Int32) il5_72 dl10_72) + (f1_0 (0 : Int32) il6_72 dl10_72)) + (f1_0 (0 : Int32) il7_72 dl10_72)) + (f1_0 (0 : Int32) il8_72 dl10_72)) + (f1_0 (0 : Int32) il9_72 dl10_72))), .val (.int (f2a_0 dl10_72 (FP.i2d il5_72)))] [])
        refine own_step (fun _ => XS.iconst X58.here hx rfl (hb hby at_310)) ?_
        show own_Ends p e below s _ _ _ T58 (mkF m 311 #[.val (.int i0), .val (.int i1), .val (.int i2), .val (.int i3), .val (.int (1 : Int32)), .val (.int il5_72), .val (.int il6_72), .val (.int il7_72), .val (.int il8_72), .val (.int il9_72), .val (.double dl10_72), .second, .val (.int il5_72), .val (.ref b51), .val (.int (((((f1_0 (1 : Int32) il5_72 dl10_72) + (f1_0 (0 : Int32) il6_72 dl10_72)) + (f1_0 (0 : Int32) il7_72 dl10_72)) + (f1_0 (0 : Int32) il8_72 dl10_72)) + (f1_0 (0 : Int32) il9_72 dl10_72))), .val (.int (f2a_0 dl10_72 (FP.i2d il5_72)))] [(.int (0 : Int32))])
        exact own_retN X58 (t := .boolean) hx hret hlk (hb hby at_311) (by decide) (by decide) (by simp) ⟨congrArg (fun z => some (Value.int z)) hvt0_t_f.symm, N58, trivial⟩
    · have hvt0_f := hvt0.trans (if_neg hc134)
      refine own_step (fun _ => XS.ifNo X0.here hx rfl (hb hby at_134) rfl ((if0 _ _).trans (flt hc134).2.2.1)) ?_
      show own_Ends p e below s _ _ _ T0 (mkF m 137 #[.val (.int i0), .val (.int i1), .val (.int i2), .val (.int i3), .val (.int (1 : Int32)), .val (.int il5_72), .val (.int il6_72), .val (.int il7_72), .val (.int il8_72), .val (.int il9_72), .val (.double dl10_72), .second, .val (.int il5_72), .unset, .unset, .unset] [])
      refine own_step (fun _ => XS.iconst X0.here hx rfl (hb hby at_137)) ?_
      show own_Ends p e below s _ _ _ T0 (mkF m 138 #[.val (.int i0), .val (.int i1), .val (.int i2), .val (.int i3), .val (.int (1 : Int32)), .val (.int il5_72), .val (.int il6_72), .val (.int il7_72), .val (.int il8_72), .val (.int il9_72), .val (.double dl10_72), .second, .val (.int il5_72), .unset, .unset, .unset] [(.int (1 : Int32))])
      exact own_retN X0 (t := .boolean) hx hret hlk (hb hby at_138) (by decide) (by decide) (by simp) ⟨congrArg (fun z => some (Value.int z)) hvt0_f.symm, N0, trivial⟩
  · have hvf0 := hv.trans (if_neg hN1)
    by_cases hN2 : (((i3 &&& (2147483647 : Int32)) % (5 : Int32)) + (1 : Int32)) = (2 : Int32)
    · have hvf0t1 := hvf0.trans (if_pos hN2)
      rw [hN2]
      refine own_step (fun _ => XS.iload X0.here hx rfl (hb hby at_72) rfl) ?_
      show own_Ends p e below s _ _ _ T0 (mkF m 74 #[.val (.int i0), .val (.int i1), .val (.int i2), .val (.int i3), .val (.int (2 : Int32)), .val (.int il5_72), .val (.int il6_72), .val (.int il7_72), .val (.int il8_72), .val (.int il9_72), .val (.double dl10_72), .second, .unset, .unset, .unset, .unset] [(.int (2 : Int32))])
      refine own_step (fun _ => XS.iconst X0.here hx rfl (hb hby at_74)) ?_
      show own_Ends p e below s _ _ _ T0 (mkF m 75 #[.val (.int i0), .val (.int i1), .val (.int i2), .val (.int i3), .val (.int (2 : Int32)), .val (.int il5_72), .val (.int il6_72), .val (.int il7_72), .val (.int il8_72), .val (.int il9_72), .val (.double dl10_72), .second, .unset, .unset, .unset, .unset] [(.int (1 : Int32)), (.int (2 : Int32))])
      refine own_step (fun _ => XS.icmpYes X0.here hx rfl (pc0 := 75) (pc' := 85) rfl (hb hby at_75) rfl (feq (show ¬ ((2 : Int32) = (1 : Int32)) from (by decide))).2 (by decide) (by decide)) ?_
      show own_Ends p e below s _ _ _ T0 (mkF m 85 #[.val (.int i0), .val (.int i1), .val (.int i2), .val (.int i3), .val (.int (2 : Int32)), .val (.int il5_72), .val (.int il6_72), .val (.int il7_72), .val (.int il8_72), .val (.int il9_72), .val (.double dl10_72), .second, .unset, .unset, .unset, .unset] [])
      refine own_step (fun _ => XS.iload X0.here hx rfl (hb hby at_85) rfl) ?_
      show own_Ends p e below s _ _ _ T0 (mkF m 87 #[.val (.int i0), .val (.int i1), .val (.int i2), .val (.int i3), .val (.int (2 : Int32)), .val (.int il5_72), .val (.int il6_72), .val (.int il7_72), .val (.int il8_72), .val (.int il9_72), .val (.double dl10_72), .second, .unset, .unset, .unset, .unset] [(.int (2 : Int32))])
      refine own_step (fun _ => XS.iconst X0.here hx rfl (hb hby at_87)) ?_
      show own_Ends p e below s _ _ _ T0 (mkF m 88 #[.val (.int i0), .val (.int i1), .val (.int i2), .val (.int i3), .val (.int (2 : Int32)), .val (.int il5_72), .val (.int il6_72), .val (.int il7_72), .val (.int il8_72), .val (.int il9_72), .val (.double dl10_72), .second, .unset, .unset, .unset, .unset] [(.int (2 : Int32)), (.int (2 : Int32))])
      refine own_step (fun _ => XS.icmpNo X0.here hx rfl (hb hby at_88) rfl (teq (show (2 : Int32) = (2 : Int32) from (by decide))).2) ?_
      show own_Ends p e below s _ _ _ T0 (mkF m 91 #[.val (.int i0), .val (.int i1), .val (.int i2), .val (.int i3), .val (.int (2 : Int32)), .val (.int il5_72), .val (.int il6_72), .val (.int il7_72), .val (.int il8_72), .val (.int il9_72), .val (.double dl10_72), .second, .unset, .unset, .unset, .unset] [])
      refine own_step (fun _ => XS.iload X0.here hx rfl (hb hby at_91) rfl) ?_
      show own_Ends p e below s _ _ _ T0 (mkF m 93 #[.val (.int i0), .val (.int i1), .val (.int i2), .val (.int i3), .val (.int (2 : Int32)), .val (.int il5_72), .val (.int il6_72), .val (.int il7_72), .val (.int il8_72), .val (.int il9_72), .val (.double dl10_72), .second, .unset, .unset, .unset, .unset] [(.int il6_72)])
      refine own_step (fun _ => XS.istore X0.here hx rfl (hb hby at_93) rfl (l' := #[.val (.int i0), .val (.int i1), .val (.int i2), .val (.int i3), .val (.int (2 : Int32)), .val (.int il5_72), .val (.int il6_72), .val (.int il7_72), .val (.int il8_72), .val (.int il9_72), .val (.double dl10_72), .second, .val (.int il6_72), .unset, .unset, .unset]) rfl) ?_
      show own_Ends p e below s _ _ _ T0 (mkF m 95 #[.val (.int i0), .val (.int i1), .val (.int i2), .val (.int i3), .val (.int (2 : Int32)), .val (.int il5_72), .val (.int il6_72), .val (.int il7_72), .val (.int il8_72), .val (.int il9_72), .val (.double dl10_72), .second, .val (.int il6_72), .unset, .unset, .unset] [])
      refine own_step (fun _ => XS.goto X0.here hx rfl (pc0 := 95) (pc' := 128) rfl (hb hby at_95) (by decide) (by decide)) ?_
      show own_Ends p e below s _ _ _ T0 (mkF m 128 #[.val (.int i0), .val (.int i1), .val (.int i2), .val (.int i3), .val (.int (2 : Int32)), .val (.int il5_72), .val (.int il6_72), .val (.int il7_72), .val (.int il8_72), .val (.int il9_72), .val (.double dl10_72), .second, .val (.int il6_72), .unset, .unset, .unset] [])
      refine own_step (fun _ => XS.iload X0.here hx rfl (hb hby at_128) rfl) ?_
      show own_Ends p e below s _ _ _ T0 (mkF m 130 #[.val (.int i0), .val (.int i1), .val (.int i2), .val (.int i3), .val (.int (2 : Int32)), .val (.int il5_72), .val (.int il6_72), .val (.int il7_72), .val (.int il8_72), .val (.int il9_72), .val (.double dl10_72), .second, .val (.int il6_72), .unset, .unset, .unset] [(.int il6_72)])
      refine own_step (fun _ => XS.i2dS X0.here hx rfl (hb hby at_130) rfl rfl) ?_
      show own_Ends p e below s _ _ _ T0 (mkF m 131 #[.val (.int i0), .val (.int i1), .val (.int i2), .val (.int i3), .val (.int (2 : Int32)), .val (.int il5_72), .val (.int il6_72), .val (.int il7_72), .val (.int il8_72), .val (.int il9_72), .val (.double dl10_72), .second, .val (.int il6_72), .unset, .unset, .unset] [(.double (FP.i2d il6_72))])
      refine own_step (fun _ => XS.dload X0.here hx rfl (hb hby at_131) rfl) ?_
      show own_Ends p e below s _ _ _ T0 (mkF m 133 #[.val (.int i0), .val (.int i1), .val (.int i2), .val (.int i3), .val (.int (2 : Int32)), .val (.int il5_72), .val (.int il6_72), .val (.int il7_72), .val (.int il8_72), .val (.int il9_72), .val (.double dl10_72), .second, .val (.int il6_72), .unset, .unset, .unset] [(.double dl10_72), (.double (FP.i2d il6_72))])
      refine own_step (fun _ => XS.dcmpS X0.here hx rfl (hb hby at_133) rfl rfl) ?_
      show own_Ends p e below s _ _ _ T0 (mkF m 134 #[.val (.int i0), .val (.int i1), .val (.int i2), .val (.int i3), .val (.int (2 : Int32)), .val (.int il5_72), .val (.int il6_72), .val (.int il7_72), .val (.int il8_72), .val (.int il9_72), .val (.double dl10_72), .second, .val (.int il6_72), .unset, .unset, .unset] [(.int (cmpValue (FP.dcmp (FP.i2d il6_72) dl10_72) .l))])
      by_cases hc134 : (0 : Int32) < (cmpValue (FP.dcmp (FP.i2d il6_72) dl10_72) .l)
      · have hvf0t1_t := hvf0t1.trans (if_pos hc134)
        refine own_step (fun _ => XS.ifYes X0.here hx rfl (pc0 := 134) (pc' := 139) rfl (hb hby at_134) rfl ((if0 _ _).trans (tlt hc134).2.2.1) (by decide) (by decide)) ?_
        show own_Ends p e below s _ _ _ T0 (mkF m 139 #[.val (.int i0), .val (.int i1), .val (.int i2), .val (.int i3), .val (.int (2 : Int32)), .val (.int il5_72), .val (.int il6_72), .val (.int il7_72), .val (.int il8_72), .val (.int il9_72), .val (.double dl10_72), .second, .val (.int il6_72), .unset, .unset, .unset] [])
        refine own_step (fun _ => XS.iload X0.here hx rfl (hb hby at_139) rfl) ?_
        show own_Ends p e below s _ _ _ T0 (mkF m 141 #[.val (.int i0), .val (.int i1), .val (.int i2), .val (.int i3), .val (.int (2 : Int32)), .val (.int il5_72), .val (.int il6_72), .val (.int il7_72), .val (.int il8_72), .val (.int il9_72), .val (.double dl10_72), .second, .val (.int il6_72), .unset, .unset, .unset] [(.int (2 : Int32))])
        obtain ⟨T59, h59, k59, X59, e59, E59, A59, st59⟩ := newP X0 hx hZ (hw _ (List.mem_of_getElem? (i := 2) rfl)) e0 (g := (mkF m 141 #[.val (.int i0), .val (.int i1), .val (.int i2), .val (.int i3), .val (.int (2 : Int32)), .val (.int il5_72), .val (.int il6_72), .val (.int il7_72), .val (.int il8_72), .val (.int il9_72), .val (.double dl10_72), .second, .val (.int il6_72), .unset, .unset, .unset] [(.int (2 : Int32))])) rfl (hb hby at_141) rfl (by decide) (cap := 2) (by decide) (by decide) (by decide) (by decide)
        obtain ⟨b59, g59⟩ : ∃ z, z = h0.size := ⟨_, rfl⟩
        rw [← g59] at A59 st59
        have V59 : Arv Z h59 b59 k59 .double (2 : Int32) [(.double 0), (.double 0)] (.double 0) := (Arv.new A59 (by decide)).pad (pad_rep [] (.double 0) 2)
        have g_b59 : n0 ≤ b59 := Nat.le_trans Z0 (Nat.le_of_eq g59.symm)
        have Zs59 : n0 ≤ h59.size := Nat.le_trans Z0 E59.1
        refine own_step st59 ?_
        show own_Ends p e below s _ _ _ T59 (mkF m 143 #[.val (.int i0), .val (.int i1), .val (.int i2), .val (.int i3), .val (.int (2 : Int32)), .val (.int il5_72), .val (.int il6_72), .val (.int il7_72), .val (.int il8_72), .val (.int il9_72), .val (.double dl10_72), .second, .val (.int il6_72), .unset, .unset, .unset] [(.ref b59)])
        refine own_step (fun _ => XS.astore X59.here hx rfl (hb hby at_143) rfl rfl (l' := #[.val (.int i0), .val (.int i1), .val (.int i2), .val (.int i3), .val (.int (2 : Int32)), .val (.int il5_72), .val (.int il6_72), .val (.int il7_72), .val (.int il8_72), .val (.int il9_72), .val (.double dl10_72), .second, .val (.int il6_72), .val (.ref b59), .unset, .unset]) rfl) ?_
        show own_Ends p e below s _ _ _ T59 (mkF m 145 #[.val (.int i0), .val (.int i1), .val (.int i2), .val (.int i3), .val (.int (2 : Int32)), .val (.int il5_72), .val (.int il6_72), .val (.int il7_72), .val (.int il8_72), .val (.int il9_72), .val (.double dl10_72), .second, .val (.int il6_72), .val (.ref b59), .unset, .unset] [])
        refine own_step (fun _ => XS.aload X59.here hx rfl (hb hby at_145) rfl rfl) ?_
        show own_Ends p e below s _ _ _ T59 (mkF m 147 #[.val (.int i0), .val (.int i1), .val (.int i2), .val (.int i3), .val (.int (2 : Int32)), .val (.int il5_72), .val (.int il6_72), .val (.int il7_72), .val (.int il8_72), .val (.int il9_72), .val (.double dl10_72), .second, .val (.int il6_72), .val (.ref b59), .unset, .unset] [(.ref b59)])
        refine own_step (fun _ => XS.iconst X59.here hx rfl (hb hby at_147)) ?_
        show own_Ends p e below s _ _ _ T59 (mkF m 148 #[.val (.int i0), .val (.int i1), .val (.int i2), .val (.int i3), .val (.int (2 : Int32)), .val (.int il5_72), .val (.int il6_72), .val (.int il7_72), .val (.int il8_72), .val (.int il9_72), .val (.double dl10_72), .second, .val (.int il6_72), .val (.ref b59), .unset, .unset] [(.int (0 : Int32)), (.ref b59)])
        refine own_step (fun _ => XS.iload X59.here hx rfl (hb hby at_148) rfl) ?_
        show own_Ends p e below s _ _ _ T59 (mkF m 150 #[.val (.int i0), .val (.int i1), .val (.int i2), .val (.int i3), .val (.int (2 : Int32)), .val (.int il5_72), .val (.int il6_72), .val (.int il7_72), .val (.int il8_72), .val (.int il9_72), .val (.double dl10_72), .second, .val (.int il6_72), .val (.ref b59), .unset, .unset] [(.int il5_72), (.int (0 : Int32)), (.ref b59)])
        refine own_step (fun _ => XS.i2dS X59.here hx rfl (hb hby at_150) rfl rfl) ?_
        show own_Ends p e below s _ _ _ T59 (mkF m 151 #[.val (.int i0), .val (.int i1), .val (.int i2), .val (.int i3), .val (.int (2 : Int32)), .val (.int il5_72), .val (.int il6_72), .val (.int il7_72), .val (.int il8_72), .val (.int il9_72), .val (.double dl10_72), .second, .val (.int il6_72), .val (.ref b59), .unset, .unset] [(.double (FP.i2d il5_72)), (.int (0 : Int32)), (.ref b59)])
        obtain ⟨cl60, Ar60, q60, S60, N60_, H60, G60⟩ := id V59
        have hin60 : ¬ ((0 : Int32) < 0 ∨ cl60.slots.size ≤ ((0 : Int32)).toNatClampNeg) := inb_of S60 ⟨by decide, by decide⟩
        obtain ⟨T60, h60, X60, e60, W60, st60⟩ := stD X59 hx hZ e59 Ar60 (j := (0 : Int32)) hin60 (g := (mkF m 151 #[.val (.int i0), .val (.int i1), .val (.int i2), .val (.int i3), .val (.int (2 : Int32)), .val (.int il5_72), .val (.int il6_72), .val (.int il7_72), .val (.int il8_72), .val (.int il9_72), .val (.double dl10_72), .second, .val (.int il6_72), .val (.ref b59), .unset, .unset] [(.double (FP.i2d il5_72)), (.int (0 : Int32)), (.ref b59)])) rfl rfl (hb hby at_151)
        have V60 : Arv Z h60 b59 k59 .double (2 : Int32) [(.double (FP.i2d il5_72)), (.double 0)] (.double 0) := Arv.set Ar60 q60 S60 N60_ H60 G60 rfl W60 0 rfl (Nat.le_of_ble_eq_true rfl)
        have Zs60 : n0 ≤ h60.size := (by rw [W60.size]; exact Zs59)
        have N60 := Fr.snoc X60 N0 g_b59
        refine own_step st60 ?_
        show own_Ends p e below s _ _ _ T60 (mkF m 152 #[.val (.int i0), .val (.int i1), .val (.int i2), .val (.int i3), .val (.int (2 : Int32)), .val (.int il5_72), .val (.int il6_72), .val (.int il7_72), .val (.int il8_72), .val (.int il9_72), .val (.double dl10_72), .second, .val (.int il6_72), .val (.ref b59), .unset, .unset] [])
        refine own_step (fun _ => XS.iload X60.here hx rfl (hb hby at_152) rfl) ?_
        show own_Ends p e below s _ _ _ T60 (mkF m 154 #[.val (.int i0), .val (.int i1), .val (.int i2), .val (.int i3), .val (.int (2 : Int32)), .val (.int il5_72), .val (.int il6_72), .val (.int il7_72), .val (.int il8_72), .val (.int il9_72), .val (.double dl10_72), .second, .val (.int il6_72), .val (.ref b59), .unset, .unset] [(.int (2 : Int32))])
        refine own_step (fun _ => XS.iconst X60.here hx rfl (hb hby at_154)) ?_
        show own_Ends p e below s _ _ _ T60 (mkF m 155 #[.val (.int i0), .val (.int i1), .val (.int i2), .val (.int i3), .val (.int (2 : Int32)), .val (.int il5_72), .val (.int il6_72), .val (.int il7_72), .val (.int il8_72), .val (.int il9_72), .val (.double dl10_72), .second, .val (.int il6_72), .val (.ref b59), .unset, .unset] [(.int (1 : Int32)), (.int (2 : Int32))])
        refine own_step (fun _ => XS.icmpNo X60.here hx rfl (hb hby at_155) rfl (tlt (show (1 : Int32) < (2 : Int32) from (by decide))).2.2.2) ?_
        show own_Ends p e below s _ _ _ T60 (mkF m 158 #[.val (.int i0), .val (.int i1), .val (.int i2), .val (.int i3), .val (.int (2 : Int32)), .val (.int il5_72), .val (.int il6_72), .val (.int il7_72), .val (.int il8_72), .val (.int il9_72), .val (.double dl10_72), .second, .val (.int il6_72), .val (.ref b59), .unset, .unset] [])
        refine own_step (fun _ => XS.aload X60.here hx rfl (hb hby at_158) rfl rfl) ?_
        show own_Ends p e below s _ _ _ T60 (mkF m 160 #[.val (.int i0), .val (.int i1), .val (.int i2), .val (.int i3), .val (.int (2 : Int32)), .val (.int il5_72), .val (.int il6_72), .val (.int il7_72), .val (.int il8_72), .val (.int il9_72), .val (.double dl10_72), .second, .val (.int il6_72), .val (.ref b59), .unset, .unset] [(.ref b59)])
        refine own_step (fun _ => XS.iconst X60.here hx rfl (hb hby at_160)) ?_
        show own_Ends p e below s _ _ _ T60 (mkF m 161 #[.val (.int i0), .val (.int i1), .val (.int i2), .val (.int i3), .val (.int (2 : Int32)), .val (.int il5_72), .val (.int il6_72), .val (.int il7_72), .val (.int il8_72), .val (.int il9_72), .val (.double dl10_72), .second, .val (.int il6_72), .val (.ref b59), .unset, .unset] [(.int (1 : Int32)), (.ref b59)])
        refine own_step (fun _ => XS.iload X60.here hx rfl (hb hby at_161) rfl) ?_
        show own_Ends p e below s _ _ _ T60 (mkF m 163 #[.val (.int i0), .val (.int i1), .val (.int i2), .val (.int i3), .val (.int (2 : Int32)), .val (.int il5_72), .val (.int il6_72), .val (.int il7_72), .val (.int il8_72), .val (.int il9_72), .val (.double dl10_72), .second, .val (.int il6_72), .val (.ref b59), .unset, .unset] [(.int il6_72), (.int (1 : Int32)), (.ref b59)])
        refine own_step (fun _ => XS.i2dS X60.here hx rfl (hb hby at_163) rfl rfl) ?_
        show own_Ends p e below s _ _ _ T60 (mkF m 164 #[.val (.int i0), .val (.int i1), .val (.int i2), .val (.int i3), .val (.int (2 : Int32)), .val (.int il5_72), .val (.int il6_72), .val (.int il7_72), .val (.int il8_72), .val (.int il9_72), .val (.double dl10_72), .second, .val (.int il6_72), .val (.ref b59), .unset, .unset] [(.double (FP.i2d il6_72)), (.int (1 : Int32)), (.ref b59)])
        obtain ⟨cl61, Ar61, q61, S61, N61_, H61, G61⟩ := id V60
        have hin61 : ¬ ((1 : Int32) < 0 ∨ cl61.slots.size ≤ ((1 : Int32)).toNatClampNeg) := inb_of S61 ⟨by decide, by decide⟩
        obtain ⟨T61, h61, X61, e61, W61, st61⟩ := stD X60 hx hZ e60 Ar61 (j := (1 : Int32)) hin61 (g := (mkF m 164 #[.val (.int i0), .val (.int i1), .val (.int i2), .val (.int i3), .val (.int (2 : Int32)), .val (.int il5_72), .val (.int il6_72), .val (.int il7_72), .val (.int il8_72), .val (.int il9_72), .val (.double dl10_72), .second, .val (.int il6_72), .val (.ref b59), .unset, .unset] [(.double (FP.i2d il6_72)), (.int (1 : Int32)), (.ref b59)])) rfl rfl (hb hby at_164)
        have V61 : Arv Z h61 b59 k59 .double (2 : Int32) [(.double (FP.i2d il5_72)), (.double (FP.i2d il6_72))] (.double 0) := Arv.set Ar61 q61 S61 N61_ H61 G61 rfl W61 1 rfl (Nat.le_of_ble_eq_true rfl)
        have Zs61 : n0 ≤ h61.size := (by rw [W61.size]; exact Zs60)
        have N61 := Fr.snoc X61 N60 g_b59
        refine own_step st61 ?_
        show own_Ends p e below s _ _ _ T61 (mkF m 165 #[.val (.int i0), .val (.int i1), .val (.int i2), .val (.int i3), .val (.int (2 : Int32)), .val (.int il5_72), .val (.int il6_72), .val (.int il7_72), .val (.int il8_72), .val (.int il9_72), .val (.double dl10_72), .second, .val (.int il6_72), .val (.ref b59), .unset, .unset] [])
        refine own_step (fun _ => XS.iload X61.here hx rfl (hb hby at_165) rfl) ?_
        show own_Ends p e below s _ _ _ T61 (mkF m 167 #[.val (.int i0), .val (.int i1), .val (.int i2), .val (.int i3), .val (.int (2 : Int32)), .val (.int il5_72), .val (.int il6_72), .val (.int il7_72), .val (.int il8_72), .val (.int il9_72), .val (.double dl10_72), .second, .val (.int il6_72), .val (.ref b59), .unset, .unset] [(.int (2 : Int32))])
        refine own_step (fun _ => XS.iconst X61.here hx rfl (hb hby at_167)) ?_
        show own_Ends p e below s _ _ _ T61 (mkF m 168 #[.val (.int i0), .val (.int i1), .val (.int i2), .val (.int i3), .val (.int (2 : Int32)), .val (.int il5_72), .val (.int il6_72), .val (.int il7_72), .val (.int il8_72), .val (.int il9_72), .val (.double dl10_72), .second, .val (.int il6_72), .val (.ref b59), .unset, .unset] [(.int (2 : Int32)), (.int (2 : Int32))])
        refine own_step (fun _ => XS.icmpYes X61.here hx rfl (pc0 := 168) (pc' := 178) rfl (hb hby at_168) rfl (flt (show ¬ ((2 : Int32) < (2 : Int32)) from (by decide))).2.2.2 (by decide) (by decide)) ?_
        show own_Ends p e below s _ _ _ T61 (mkF m 178 #[.val (.int i0), .val (.int i1), .val (.int i2), .val (.int i3), .val (.int (2 : Int32)), .val (.int il5_72), .val (.int il6_72), .val (.int il7_72), .val (.int il8_72), .val (.int il9_72), .val (.double dl10_72), .second, .val (.int il6_72), .val (.ref b59), .unset, .unset] [])
        refine own_step (fun _ => XS.iload X61.here hx rfl (hb hby at_178) rfl) ?_
        show own_Ends p e below s _ _ _ T61 (mkF m 180 #[.val (.int i0), .val (.int i1), .val (.int i2), .val (.int i3), .val (.int (2 : Int32)), .val (.int il5_72), .val (.int il6_72), .val (.int il7_72), .val (.int il8_72), .val (.int il9_72), .val (.double dl10_72), .second, .val (.int il6_72), .val (.ref b59), .unset, .unset] [(.int (2 : Int32))])
        refine own_step (fun _ => XS.iconst X61.here hx rfl (hb hby at_180)) ?_
        show own_Ends p e below s _ _ _ T61 (mkF m 181 #[.val (.int i0), .val (.int i1), .val (.int i2), .val (.int i3), .val (.int (2 : Int32)), .val (.int il5_72), .val (.int il6_72), .val (.int il7_72), .val (.int il8_72), .val (.int il9_72), .val (.double dl10_72), .second, .val (.int il6_72), .val (.ref b59), .unset, .unset] [(.int (3 : Int32)), (.int (2 : Int32))])
        refine own_step (fun _ => XS.icmpYes X61.here hx rfl (pc0 := 181) (pc' := 191) rfl (hb hby at_181) rfl (flt (show ¬ ((3 : Int32) < (2 : Int32)) from (by decide))).2.2.2 (by decide) (by decide)) ?_
        show own_Ends p e below s _ _ _ T61 (mkF m 191 #[.val (.int i0), .val (.int i1), .val (.int i2), .val (.int i3), .val (.int (2 : Int32)), .val (.int il5_72), .val (.int il6_72), .val (.int il7_72), .val (.int il8_72), .val (.int il9_72), .val (.double dl10_72), .second, .val (.int il6_72), .val (.ref b59), .unset, .unset] [])
        refine own_step (fun _ => XS.iload X61.here hx rfl (hb hby at_191) rfl) ?_
        show own_Ends p e below s _ _ _ T61 (mkF m 193 #[.val (.int i0), .val (.int i1), .val (.int i2), .val (.int i3), .val (.int (2 : Int32)), .val (.int il5_72), .val (.int il6_72), .val (.int il7_72), .val (.int il8_72), .val (.int il9_72), .val (.double dl10_72), .second, .val (.int il6_72), .val (.ref b59), .unset, .unset] [(.int (2 : Int32))])
        refine own_step (fun _ => XS.iconst X61.here hx rfl (hb hby at_193)) ?_
        show own_Ends p e below s _ _ _ T61 (mkF m 194 #[.val (.int i0), .val (.int i1), .val (.int i2), .val (.int i3), .val (.int (2 : Int32)), .val (.int il5_72), .val (.int il6_72), .val (.int il7_72), .val (.int il8_72), .val (.int il9_72), .val (.double dl10_72), .second, .val (.int il6_72), .val (.ref b59), .unset, .unset] [(.int (4 : Int32)), (.int (2 : Int32))])
        refine own_step (fun _ => XS.icmpYes X61.here hx rfl (pc0 := 194) (pc' := 204) rfl (hb hby at_194) rfl (flt (show ¬ ((4 : Int32) < (2 : Int32)) from (by decide))).2.2.2 (by decide) (by decide)) ?_
        show own_Ends p e below s _ _ _ T61 (mkF m 204 #[.val (.int i0), .val (.int i1), .val (.int i2), .val (.int i3), .val (.int (2 : Int32)), .val (.int il5_72), .val (.int il6_72), .val (.int il7_72), .val (.int il8_72), .val (.int il9_72), .val (.double dl10_72), .second, .val (.int il6_72), .val (.ref b59), .unset, .unset] [])
        refine own_step (fun _ => XS.iconst X61.here hx rfl (hb hby at_204)) ?_
        show own_Ends p e below s _ _ _ T61 (mkF m 205 #[.val (.int i0), .val (.int i1), .val (.int i2), .val (.int i3), .val (.int (2 : Int32)), .val (.int il5_72), .val (.int il6_72), .val (.int il7_72), .val (.int il8_72), .val (.int il9_72), .val (.double dl10_72), .second, .val (.int il6_72), .val (.ref b59), .unset, .unset] [(.int (1 : Int32))])
        refine own_step (fun _ => XS.iload X61.here hx rfl (hb hby at_205) rfl) ?_
        show own_Ends p e below s _ _ _ T61 (mkF m 207 #[.val (.int i0), .val (.int i1), .val (.int i2), .val (.int i3), .val (.int (2 : Int32)), .val (.int il5_72), .val (.int il6_72), .val (.int il7_72), .val (.int il8_72), .val (.int il9_72), .val (.double dl10_72), .second, .val (.int il6_72), .val (.ref b59), .unset, .unset] [(.int il5_72), (.int (1 : Int32))])
        refine own_step (fun _ => XS.dload X61.here hx rfl (hb hby at_207) rfl) ?_
        show own_Ends p e below s _ _ _ T61 (mkF m 209 #[.val (.int i0), .val (.int i1), .val (.int i2), .val (.int i3), .val (.int (2 : Int32)), .val (.int il5_72), .val (.int il6_72), .val (.int il7_72), .val (.int il8_72), .val (.int il9_72), .val (.double dl10_72), .second, .val (.int il6_72), .val (.ref b59), .unset, .unset] [(.double dl10_72), (.int il5_72), (.int (1 : Int32))])
        obtain ⟨_, _, ⟨T62, L62, k62, n62⟩, -, X62, ⟨Lc62, hQ62, l62, y62, z62⟩, st62⟩ := Jvm.LawKit.callS X61 hx (y := (⟨"com/example/graded_queue/gradedqueue/sim/CumulativeFirstAbovePinLaw", "le", "(ZID)I"⟩ : MethodName)) hown (mvT hZ (hw _ (List.mem_of_getElem? (i := 3) rfl))) (mvT hZ (hw _ (List.mem_of_getElem? (i := 4) rfl))) (mvT hZ (hw _ (List.mem_of_getElem? (i := 5) rfl))) (mvT hZ (hw _ (List.mem_of_getElem? (i := 6) rfl))) (by decide) (backOf (W := 0) (rm1 l Z a0 hw [] (1 : Int32) il5_72 dl10_72 h61 n0 Zs61) hZ (hw _ (List.mem_of_getElem? (i := 6) rfl)) (hw _ (List.mem_of_getElem? (i := 5) rfl)) (by decide) (by decide)) (g := (mkF m 209 #[.val (.int i0), .val (.int i1), .val (.int i2), .val (.int i3), .val (.int (2 : Int32)), .val (.int il5_72), .val (.int il6_72), .val (.int il7_72), .val (.int il8_72), .val (.int il9_72), .val (.double dl10_72), .second, .val (.int il6_72), .val (.ref b59), .unset, .unset] [(.double dl10_72), (.int il5_72), (.int (1 : Int32))])) rfl (by rw [hml]; rfl) (argsL := [(.int (1 : Int32)), (.int il5_72), (.double dl10_72)]) (rest := []) (lenOf pd_0 rfl) rfl (by show 2 * 0 + _ ≤ _; exact Nat.le_of_eq rfl) (hb hby at_209) (fun _ _ => ⟨rfl, e61, (by decide : 1 + 0 ≤ _), (by decide : 2 + 0 ≤ _)⟩)
        dsimp only [Pt.U, Pt.locs, Pt.cells, Pt.slots] at X62 l62 y62 z62 st62 hQ62
        subst l62 y62 z62
        obtain ⟨rfl, N62q, hh62⟩ := hQ62
        have N62 := Fr.app N61 N62q
        refine own_step st62 ?_
        show own_Ends p e below s _ _ _ T62 (mkF m 212 #[.val (.int i0), .val (.int i1), .val (.int i2), .val (.int i3), .val (.int (2 : Int32)), .val (.int il5_72), .val (.int il6_72), .val (.int il7_72), .val (.int il8_72), .val (.int il9_72), .val (.double dl10_72), .second, .val (.int il6_72), .val (.ref b59), .unset, .unset] [(.int (f1_0 (1 : Int32) il5_72 dl10_72))])
        refine own_step (fun _ => XS.iload X62.here hx rfl (hb hby at_212) rfl) ?_
        show own_Ends p e below s _ _ _ T62 (mkF m 214 #[.val (.int i0), .val (.int i1), .val (.int i2), .val (.int i3), .val (.int (2 : Int32)), .val (.int il5_72), .val (.int il6_72), .val (.int il7_72), .val (.int il8_72), .val (.int il9_72), .val (.double dl10_72), .second, .val (.int il6_72), .val (.ref b59), .unset, .unset] [(.int (2 : Int32)), (.int (f1_0 (1 : Int32) il5_72 dl10_72))])
        refine own_step (fun _ => XS.iconst X62.here hx rfl (hb hby at_214)) ?_
        show own_Ends p e below s _ _ _ T62 (mkF m 215 #[.val (.int i0), .val (.int i1), .val (.int i2), .val (.int i3), .val (.int (2 : Int32)), .val (.int il5_72), .val (.int il6_72), .val (.int il7_72), .val (.int il8_72), .val (.int il9_72), .val (.double dl10_72), .second, .val (.int il6_72), .val (.ref b59), .unset, .unset] [(.int (1 : Int32)), (.int (2 : Int32)), (.int (f1_0 (1 : Int32) il5_72 dl10_72))])
        refine own_step (fun _ => XS.icmpNo X62.here hx rfl (hb hby at_215) rfl (tlt (show (1 : Int32) < (2 : Int32) from (by decide))).2.2.2) ?_
        show own_Ends p e below s _ _ _ T62 (mkF m 218 #[.val (.int i0), .val (.int i1), .val (.int i2), .val (.int i3), .val (.int (2 : Int32)), .val (.int il5_72), .val (.int il6_72), .val (.int il7_72), .val (.int il8_72), .val (.int il9_72), .val (.double dl10_72), .second, .val (.int il6_72), .val (.ref b59), .unset, .unset] [(.int (f1_0 (1 : Int32) il5_72 dl10_72))])
        refine own_step (fun _ => XS.iconst X62.here hx rfl (hb hby at_218)) ?_
        show own_Ends p e below s _ _ _ T62 (mkF m 219 #[.val (.int i0), .val (.int i1), .val (.int i2), .val (.int i3), .val (.int (2 : Int32)), .val (.int il5_72), .val (.int il6_72), .val (.int il7_72), .val (.int il8_72), .val (.int il9_72), .val (.double dl10_72), .second, .val (.int il6_72), .val (.ref b59), .unset, .unset] [(.int (1 : Int32)), (.int (f1_0 (1 : Int32) il5_72 dl10_72))])
        refine own_step (fun _ => XS.goto X62.here hx rfl (pc0 := 219) (pc' := 223) rfl (hb hby at_219) (by decide) (by decide)) ?_
        show own_Ends p e below s _ _ _ T62 (mkF m 223 #[.val (.int i0), .val (.int i1), .val (.int i2), .val (.int i3), .val (.int (2 : Int32)), .val (.int il5_72), .val (.int il6_72), .val (.int il7_72), .val (.int il8_72), .val (.int il9_72), .val (.double dl10_72), .second, .val (.int il6_72), .val (.ref b59), .unset, .unset] [(.int (1 : Int32)), (.int (f1_0 (1 : Int32) il5_72 dl10_72))])
        refine own_step (fun _ => XS.iload X62.here hx rfl (hb hby at_223) rfl) ?_
        show own_Ends p e below s _ _ _ T62 (mkF m 225 #[.val (.int i0), .val (.int i1), .val (.int i2), .val (.int i3), .val (.int (2 : Int32)), .val (.int il5_72), .val (.int il6_72), .val (.int il7_72), .val (.int il8_72), .val (.int il9_72), .val (.double dl10_72), .second, .val (.int il6_72), .val (.ref b59), .unset, .unset] [(.int il6_72), (.int (1 : Int32)), (.int (f1_0 (1 : Int32) il5_72 dl10_72))])
        refine own_step (fun _ => XS.dload X62.here hx rfl (hb hby at_225) rfl) ?_
        show own_Ends p e below s _ _ _ T62 (mkF m 227 #[.val (.int i0), .val (.int i1), .val (.int i2), .val (.int i3), .val (.int (2 : Int32)), .val (.int il5_72), .val (.int il6_72), .val (.int il7_72), .val (.int il8_72), .val (.int il9_72), .val (.double dl10_72), .second, .val (.int il6_72), .val (.ref b59), .unset, .unset] [(.double dl10_72), (.int il6_72), (.int (1 : Int32)), (.int (f1_0 (1 : Int32) il5_72 dl10_72))])
        obtain ⟨_, _, ⟨T63, L63, k63, n63⟩, -, X63, ⟨Lc63, hQ63, l63, y63, z63⟩, st63⟩ := Jvm.LawKit.callS X62 hx (y := (⟨"com/example/graded_queue/gradedqueue/sim/CumulativeFirstAbovePinLaw", "le", "(ZID)I"⟩ : MethodName)) hown (mvT hZ (hw _ (List.mem_of_getElem? (i := 3) rfl))) (mvT hZ (hw _ (List.mem_of_getElem? (i := 4) rfl))) (mvT hZ (hw _ (List.mem_of_getElem? (i := 5) rfl))) (mvT hZ (hw _ (List.mem_of_getElem? (i := 6) rfl))) (by decide) (backOf (W := 1) (rm1 l Z a0 hw [] (1 : Int32) il6_72 dl10_72 h61 n0 Zs61) hZ (hw _ (List.mem_of_getElem? (i := 6) rfl)) (hw _ (List.mem_of_getElem? (i := 5) rfl)) (by decide) (by decide)) (g := (mkF m 227 #[.val (.int i0), .val (.int i1), .val (.int i2), .val (.int i3), .val (.int (2 : Int32)), .val (.int il5_72), .val (.int il6_72), .val (.int il7_72), .val (.int il8_72), .val (.int il9_72), .val (.double dl10_72), .second, .val (.int il6_72), .val (.ref b59), .unset, .unset] [(.double dl10_72), (.int il6_72), (.int (1 : Int32)), (.int (f1_0 (1 : Int32) il5_72 dl10_72))])) rfl (by rw [hml]; rfl) (argsL := [(.int (1 : Int32)), (.int il6_72), (.double dl10_72)]) (rest := [(.int (f1_0 (1 : Int32) il5_72 dl10_72))]) (lenOf pd_0 rfl) rfl (by show 2 * 0 + _ ≤ _; exact Nat.le_of_eq rfl) (hb hby at_227) (fun _ _ => ⟨rfl, hh62, (by decide : 1 + 0 ≤ _), (by decide : 2 + 0 ≤ _)⟩)
        dsimp only [Pt.U, Pt.locs, Pt.cells, Pt.slots] at X63 l63 y63 z63 st63 hQ63
        subst l63 y63 z63
        obtain ⟨rfl, N63q, hh63⟩ := hQ63
        have N63 := Fr.app N62 N63q
        refine own_step st63 ?_
        show own_Ends p e below s _ _ _ T63 (mkF m 230 #[.val (.int i0), .val (.int i1), .val (.int i2), .val (.int i3), .val (.int (2 : Int32)), .val (.int il5_72), .val (.int il6_72), .val (.int il7_72), .val (.int il8_72), .val (.int il9_72), .val (.double dl10_72), .second, .val (.int il6_72), .val (.ref b59), .unset, .unset] [(.int (f1_0 (1 : Int32) il6_72 dl10_72)), (.int (f1_0 (1 : Int32) il5_72 dl10_72))])
        refine own_step (fun _ => XS.iadd X63.here hx rfl (hb hby at_230) rfl) ?_
        show own_Ends p e below s _ _ _ T63 (mkF m 231 #[.val (.int i0), .val (.int i1), .val (.int i2), .val (.int i3), .val (.int (2 : Int32)), .val (.int il5_72), .val (.int il6_72), .val (.int il7_72), .val (.int il8_72), .val (.int il9_72), .val (.double dl10_72), .second, .val (.int il6_72), .val (.ref b59), .unset, .unset] [(.int ((f1_0 (1 : Int32) il5_72 dl10_72) + (f1_0 (1 : Int32) il6_72 dl10_72)))])
        refine own_step (fun _ => XS.iload X63.here hx rfl (hb hby at_231) rfl) ?_
        show own_Ends p e below s _ _ _ T63 (mkF m 233 #[.val (.int i0), .val (.int i1), .val (.int i2), .val (.int i3), .val (.int (2 : Int32)), .val (.int il5_72), .val (.int il6_72), .val (.int il7_72), .val (.int il8_72), .val (.int il9_72), .val (.double dl10_72), .second, .val (.int il6_72), .val (.ref b59), .unset, .unset] [(.int (2 : Int32)), (.int ((f1_0 (1 : Int32) il5_72 dl10_72) + (f1_0 (1 : Int32) il6_72 dl10_72)))])
        refine own_step (fun _ => XS.iconst X63.here hx rfl (hb hby at_233)) ?_
        show own_Ends p e below s _ _ _ T63 (mkF m 234 #[.val (.int i0), .val (.int i1), .val (.int i2), .val (.int i3), .val (.int (2 : Int32)), .val (.int il5_72), .val (.int il6_72), .val (.int il7_72), .val (.int il8_72), .val (.int il9_72), .val (.double dl10_72), .second, .val (.int il6_72), .val (.ref b59), .unset, .unset] [(.int (2 : Int32)), (.int (2 : Int32)), (.int ((f1_0 (1 : Int32) il5_72 dl10_72) + (f1_0 (1 : Int32) il6_72 dl10_72)))])
        refine own_step (fun _ => XS.icmpYes X63.here hx rfl (pc0 := 234) (pc' := 241) rfl (hb hby at_234) rfl (flt (show ¬ ((2 : Int32) < (2 : Int32)) from (by decide))).2.2.2 (by decide) (by decide)) ?_
        show own_Ends p e below s _ _ _ T63 (mkF m 241 #[.val (.int i0), .val (.int i1), .val (.int i2), .val (.int i3), .val (.int (2 : Int32)), .val (.int il5_72), .val (.int il6_72), .val (.int il7_72), .val (.int il8_72), .val (.int il9_72), .val (.double dl10_72), .second, .val (.int il6_72), .val (.ref b59), .unset, .unset] [(.int ((f1_0 (1 : Int32) il5_72 dl10_72) + (f1_0 (1 : Int32) il6_72 dl10_72)))])
        refine own_step (fun _ => XS.iconst X63.here hx rfl (hb hby at_241)) ?_
        show own_Ends p e below s _ _ _ T63 (mkF m 242 #[.val (.int i0), .val (.int i1), .val (.int i2), .val (.int i3), .val (.int (2 : Int32)), .val (.int il5_72), .val (.int il6_72), .val (.int il7_72), .val (.int il8_72), .val (.int il9_72), .val (.double dl10_72), .second, .val (.int il6_72), .val (.ref b59), .unset, .unset] [(.int (0 : Int32)), (.int ((f1_0 (1 : Int32) il5_72 dl10_72) + (f1_0 (1 : Int32) il6_72 dl10_72)))])
        refine own_step (fun _ => XS.iload X63.here hx rfl (hb hby at_242) rfl) ?_
        show own_Ends p e below s _ _ _ T63 (mkF m 244 #[.val (.int i0), .val (.int i1), .val (.int i2), .val (.int i3), .val (.int (2 : Int32)), .val (.int il5_72), .val (.int il6_72), .val (.int il7_72), .val (.int il8_72), .val (.int il9_72), .val (.double dl10_72), .second, .val (.int il6_72), .val (.ref b59), .unset, .unset] [(.int il7_72), (.int (0 : Int32)), (.int ((f1_0 (1 : Int32) il5_72 dl10_72) + (f1_0 (1 : Int32) il6_72 dl10_72)))])
        refine own_step (fun _ => XS.dload X63.here hx rfl (hb hby at_244) rfl) ?_
        show own_Ends p e below s _ _ _ T63 (mkF m 246 #[.val (.int i0), .val (.int i1), .val (.int i2), .val (.int i3), .val (.int (2 : Int32)), .val (.int il5_72), .val (.int il6_72), .val (.int il7_72), .val (.int il8_72), .val (.int il9_72), .val (.double dl10_72), .second, .val (.int il6_72), .val (.ref b59), .unset, .unset] [(.double dl10_72), (.int il7_72), (.int (0 : Int32)), (.int ((f1_0 (1 : Int32) il5_72 dl10_72) + (f1_0 (1 : Int32) il6_72 dl10_72)))])
        obtain ⟨_, _, ⟨T64, L64, k64, n64⟩, -, X64, ⟨Lc64, hQ64, l64, y64, z64⟩, st64⟩ := Jvm.LawKit.callS X63 hx (y := (⟨"com/example/graded_queue/gradedqueue/sim/CumulativeFirstAbovePinLaw", "le", "(ZID)I"⟩ : MethodName)) hown (mvT hZ (hw _ (List.mem_of_getElem? (i := 3) rfl))) (mvT hZ (hw _ (List.mem_of_getElem? (i := 4) rfl))) (mvT hZ (hw _ (List.mem_of_getElem? (i := 5) rfl))) (mvT hZ (hw _ (List.mem_of_getElem? (i := 6) rfl))) (by decide) (backOf (W := 1) (rm1 l Z a0 hw [] (0 : Int32) il7_72 dl10_72 h61 n0 Zs61) hZ (hw _ (List.mem_of_getElem? (i := 6) rfl)) (hw _ (List.mem_of_getElem? (i := 5) rfl)) (by decide) (by decide)) (g := (mkF m 246 #[.val (.int i0), .val (.int i1), .val (.int i2), .val (.int i3), .val (.int (2 : Int32)), .val (.int il5_72), .val (.int il6_72), .val (.int il7_72), .val (.int il8_72), .val (.int il9_72), .val (.double dl10_72), .second, .val (.int il6_72), .val (.ref b59), .unset, .unset] [(.double dl10_72), (.int il7_72), (.int (0 : Int32)), (.int ((f1_0 (1 : Int32) il5_72 dl10_72) + (f1_0 (1 : Int32) il6_72 dl10_72)))])) rfl (by rw [hml]; rfl) (argsL := [(.int (0 : Int32)), (.int il7_72), (.double dl10_72)]) (rest := [(.int ((f1_0 (1 : Int32) il5_72 dl10_72) + (f1_0 (1 : Int32) il6_72 dl10_72)))]) (lenOf pd_0 rfl) rfl (by show 2 * 0 + _ ≤ _; exact Nat.le_of_eq rfl) (hb hby at_246) (fun _ _ => ⟨rfl, hh63, (by decide : 1 + 0 ≤ _), (by decide : 2 + 0 ≤ _)⟩)
        dsimp only [Pt.U, Pt.locs, Pt.cells, Pt.slots] at X64 l64 y64 z64 st64 hQ64
        subst l64 y64 z64
        obtain ⟨rfl, N64q, hh64⟩ := hQ64
        have N64 := Fr.app N63 N64q
        refine own_step st64 ?_
        show own_Ends p e below s _ _ _ T64 (mkF m 249 #[.val (.int i0), .val (.int i1), .val (.int i2), .val (.int i3), .val (.int (2 : Int32)), .val (.int il5_72), .val (.int il6_72), .val (.int il7_72), .val (.int il8_72), .val (.int il9_72), .val (.double dl10_72), .second, .val (.int il6_72), .val (.ref b59), .unset, .unset] [(.int (f1_0 (0 : Int32) il7_72 dl10_72)), (.int ((f1_0 (1 : Int32) il5_72 dl10_72) + (f1_0 (1 : Int32) il6_72 dl10_72)))])
        refine own_step (fun _ => XS.iadd X64.here hx rfl (hb hby at_249) rfl) ?_
        show own_Ends p e below s _ _ _ T64 (mkF m 250 #[.val (.int i0), .val (.int i1), .val (.int i2), .val (.int i3), .val (.int (2 : Int32)), .val (.int il5_72), .val (.int il6_72), .val (.int il7_72), .val (.int il8_72), .val (.int il9_72), .val (.double dl10_72), .second, .val (.int il6_72), .val (.ref b59), .unset, .unset] [(.int (((f1_0 (1 : Int32) il5_72 dl10_72) + (f1_0 (1 : Int32) il6_72 dl10_72)) + (f1_0 (0 : Int32) il7_72 dl10_72)))])
        refine own_step (fun _ => XS.iload X64.here hx rfl (hb hby at_250) rfl) ?_
        show own_Ends p e below s _ _ _ T64 (mkF m 252 #[.val (.int i0), .val (.int i1), .val (.int i2), .val (.int i3), .val (.int (2 : Int32)), .val (.int il5_72), .val (.int il6_72), .val (.int il7_72), .val (.int il8_72), .val (.int il9_72), .val (.double dl10_72), .second, .val (.int il6_72), .val (.ref b59), .unset, .unset] [(.int (2 : Int32)), (.int (((f1_0 (1 : Int32) il5_72 dl10_72) + (f1_0 (1 : Int32) il6_72 dl10_72)) + (f1_0 (0 : Int32) il7_72 dl10_72)))])
        refine own_step (fun _ => XS.iconst X64.here hx rfl (hb hby at_252)) ?_
        show own_Ends p e below s _ _ _ T64 (mkF m 253 #[.val (.int i0), .val (.int i1), .val (.int i2), .val (.int i3), .val (.int (2 : Int32)), .val (.int il5_72), .val (.int il6_72), .val (.int il7_72), .val (.int il8_72), .val (.int il9_72), .val (.double dl10_72), .second, .val (.int il6_72), .val (.ref b59), .unset, .unset] [(.int (3 : Int32)), (.int (2 : Int32)), (.int (((f1_0 (1 : Int32) il5_72 dl10_72) + (f1_0 (1 : Int32) il6_72 dl10_72)) + (f1_0 (0 : Int32) il7_72 dl10_72)))])
        refine own_step (fun _ => XS.icmpYes X64.here hx rfl (pc0 := 253) (pc' := 260) rfl (hb hby at_253) rfl (flt (show ¬ ((3 : Int32) < (2 : Int32)) from (by decide))).2.2.2 (by decide) (by decide)) ?_
        show own_Ends p e below s _ _ _ T64 (mkF m 260 #[.val (.int i0), .val (.int i1), .val (.int i2), .val (.int i3), .val (.int (2 : Int32)), .val (.int il5_72), .val (.int il6_72), .val (.int il7_72), .val (.int il8_72), .val (.int il9_72), .val (.double dl10_72), .second, .val (.int il6_72), .val (.ref b59), .unset, .unset] [(.int (((f1_0 (1 : Int32) il5_72 dl10_72) + (f1_0 (1 : Int32) il6_72 dl10_72)) + (f1_0 (0 : Int32) il7_72 dl10_72)))])
        refine own_step (fun _ => XS.iconst X64.here hx rfl (hb hby at_260)) ?_
        show own_Ends p e below s _ _ _ T64 (mkF m 261 #[.val (.int i0), .val (.int i1), .val (.int i2), .val (.int i3), .val (.int (2 : Int32)), .val (.int il5_72), .val (.int il6_72), .val (.int il7_72), .val (.int il8_72), .val (.int il9_72), .val (.double dl10_72), .second, .val (.int il6_72), .val (.ref b59), .unset, .unset] [(.int (0 : Int32)), (.int (((f1_0 (1 : Int32) il5_72 dl10_72) + (f1_0 (1 : Int32) il6_72 dl10_72)) + (f1_0 (0 : Int32) il7_72 dl10_72)))])
        refine own_step (fun _ => XS.iload X64.here hx rfl (hb hby at_261) rfl) ?_
        show own_Ends p e below s _ _ _ T64 (mkF m 263 #[.val (.int i0), .val (.int i1), .val (.int i2), .val (.int i3), .val (.int (2 : Int32)), .val (.int il5_72), .val (.int il6_72), .val (.int il7_72), .val (.int il8_72), .val (.int il9_72), .val (.double dl10_72), .second, .val (.int il6_72), .val (.ref b59), .unset, .unset] [(.int il8_72), (.int (0 : Int32)), (.int (((f1_0 (1 : Int32) il5_72 dl10_72) + (f1_0 (1 : Int32) il6_72 dl10_72)) + (f1_0 (0 : Int32) il7_72 dl10_72)))])
        refine own_step (fun _ => XS.dload X64.here hx rfl (hb hby at_263) rfl) ?_
        show own_Ends p e below s _ _ _ T64 (mkF m 265 #[.val (.int i0), .val (.int i1), .val (.int i2), .val (.int i3), .val (.int (2 : Int32)), .val (.int il5_72), .val (.int il6_72), .val (.int il7_72), .val (.int il8_72), .val (.int il9_72), .val (.double dl10_72), .second, .val (.int il6_72), .val (.ref b59), .unset, .unset] [(.double dl10_72), (.int il8_72), (.int (0 : Int32)), (.int (((f1_0 (1 : Int32) il5_72 dl10_72) + (f1_0 (1 : Int32) il6_72 dl10_72)) + (f1_0 (0 : Int32) il7_72 dl10_72)))])
        obtain ⟨_, _, ⟨T65, L65, k65, n65⟩, -, X65, ⟨Lc65, hQ65, l65, y65, z65⟩, st65⟩ := Jvm.LawKit.callS X64 hx (y := (⟨"com/example/graded_queue/gradedqueue/sim/CumulativeFirstAbovePinLaw", "le", "(ZID)I"⟩ : MethodName)) hown (mvT hZ (hw _ (List.mem_of_getElem? (i := 3) rfl))) (mvT hZ (hw _ (List.mem_of_getElem? (i := 4) rfl))) (mvT hZ (hw _ (List.mem_of_getElem? (i := 5) rfl))) (mvT hZ (hw _ (List.mem_of_getElem? (i := 6) rfl))) (by decide) (backOf (W := 1) (rm1 l Z a0 hw [] (0 : Int32) il8_72 dl10_72 h61 n0 Zs61) hZ (hw _ (List.mem_of_getElem? (i := 6) rfl)) (hw _ (List.mem_of_getElem? (i := 5) rfl)) (by decide) (by decide)) (g := (mkF m 265 #[.val (.int i0), .val (.int i1), .val (.int i2), .val (.int i3), .val (.int (2 : Int32)), .val (.int il5_72), .val (.int il6_72), .val (.int il7_72), .val (.int il8_72), .val (.int il9_72), .val (.double dl10_72), .second, .val (.int il6_72), .val (.ref b59), .unset, .unset] [(.double dl10_72), (.int il8_72), (.int (0 : Int32)), (.int (((f1_0 (1 : Int32) il5_72 dl10_72) + (f1_0 (1 : Int32) il6_72 dl10_72)) + (f1_0 (0 : Int32) il7_72 dl10_72)))])) rfl (by rw [hml]; rfl) (argsL := [(.int (0 : Int32)), (.int il8_72), (.double dl10_72)]) (rest := [(.int (((f1_0 (1 : Int32) il5_72 dl10_72) + (f1_0 (1 : Int32) il6_72 dl10_72)) + (f1_0 (0 : Int32) il7_72 dl10_72)))]) (lenOf pd_0 rfl) rfl (by show 2 * 0 + _ ≤ _; exact Nat.le_of_eq rfl) (hb hby at_265) (fun _ _ => ⟨rfl, hh64, (by decide : 1 + 0 ≤ _), (by decide : 2 + 0 ≤ _)⟩)
        dsimp only [Pt.U, Pt.locs, Pt.cells, Pt.slots] at X65 l65 y65 z65 st65 hQ65
        subst l65 y65 z65
        obtain ⟨rfl, N65q, hh65⟩ := hQ65
        have N65 := Fr.app N64 N65q
        refine own_step st65 ?_
        show own_Ends p e below s _ _ _ T65 (mkF m 268 #[.val (.int i0), .val (.int i1), .val (.int i2), .val (.int i3), .val (.int (2 : Int32)), .val (.int il5_72), .val (.int il6_72), .val (.int il7_72), .val (.int il8_72), .val (.int il9_72), .val (.double dl10_72), .second, .val (.int il6_72), .val (.ref b59), .unset, .unset] [(.int (f1_0 (0 : Int32) il8_72 dl10_72)), (.int (((f1_0 (1 : Int32) il5_72 dl10_72) + (f1_0 (1 : Int32) il6_72 dl10_72)) + (f1_0 (0 : Int32) il7_72 dl10_72)))])
        refine own_step (fun _ => XS.iadd X65.here hx rfl (hb hby at_268) rfl) ?_
        show own_Ends p e below s _ _ _ T65 (mkF m 269 #[.val (.int i0), .val (.int i1), .val (.int i2), .val (.int i3), .val (.int (2 : Int32)), .val (.int il5_72), .val (.int il6_72), .val (.int il7_72), .val (.int il8_72), .val (.int il9_72), .val (.double dl10_72), .second, .val (.int il6_72), .val (.ref b59), .unset, .unset] [(.int ((((f1_0 (1 : Int32) il5_72 dl10_72) + (f1_0 (1 : Int32) il6_72 dl10_72)) + (f1_0 (0 : Int32) il7_72 dl10_72)) + (f1_0 (0 : Int32) il8_72 dl10_72)))])
        refine own_step (fun _ => XS.iload X65.here hx rfl (hb hby at_269) rfl) ?_
        show own_Ends p e below s _ _ _ T65 (mkF m 271 #[.val (.int i0), .val (.int i1), .val (.int i2), .val (.int i3), .val (.int (2 : Int32)), .val (.int il5_72), .val (.int il6_72), .val (.int il7_72), .val (.int il8_72), .val (.int il9_72), .val (.double dl10_72), .second, .val (.int il6_72), .val (.ref b59), .unset, .unset] [(.int (2 : Int32)), (.int ((((f1_0 (1 : Int32) il5_72 dl10_72) + (f1_0 (1 : Int32) il6_72 dl10_72)) + (f1_0 (0 : Int32) il7_72 dl10_72)) + (f1_0 (0 : Int32) il8_72 dl10_72)))])
        refine own_step (fun _ => XS.iconst X65.here hx rfl (hb hby at_271)) ?_
        show own_Ends p e below s _ _ _ T65 (mkF m 272 #[.val (.int i0), .val (.int i1), .val (.int i2), .val (.int i3), .val (.int (2 : Int32)), .val (.int il5_72), .val (.int il6_72), .val (.int il7_72), .val (.int il8_72), .val (.int il9_72), .val (.double dl10_72), .second, .val (.int il6_72), .val (.ref b59), .unset, .unset] [(.int (4 : Int32)), (.int (2 : Int32)), (.int ((((f1_0 (1 : Int32) il5_72 dl10_72) + (f1_0 (1 : Int32) il6_72 dl10_72)) + (f1_0 (0 : Int32) il7_72 dl10_72)) + (f1_0 (0 : Int32) il8_72 dl10_72)))])
        refine own_step (fun _ => XS.icmpYes X65.here hx rfl (pc0 := 272) (pc' := 279) rfl (hb hby at_272) rfl (flt (show ¬ ((4 : Int32) < (2 : Int32)) from (by decide))).2.2.2 (by decide) (by decide)) ?_
        show own_Ends p e below s _ _ _ T65 (mkF m 279 #[.val (.int i0), .val (.int i1), .val (.int i2), .val (.int i3), .val (.int (2 : Int32)), .val (.int il5_72), .val (.int il6_72), .val (.int il7_72), .val (.int il8_72), .val (.int il9_72), .val (.double dl10_72), .second, .val (.int il6_72), .val (.ref b59), .unset, .unset] [(.int ((((f1_0 (1 : Int32) il5_72 dl10_72) + (f1_0 (1 : Int32) il6_72 dl10_72)) + (f1_0 (0 : Int32) il7_72 dl10_72)) + (f1_0 (0 : Int32) il8_72 dl10_72)))])
        refine own_step (fun _ => XS.iconst X65.here hx rfl (hb hby at_279)) ?_
        show own_Ends p e below s _ _ _ T65 (mkF m 280 #[.val (.int i0), .val (.int i1), .val (.int i2), .val (.int i3), .val (.int (2 : Int32)), .val (.int il5_72), .val (.int il6_72), .val (.int il7_72), .val (.int il8_72), .val (.int il9_72), .val (.double dl10_72), .second, .val (.int il6_72), .val (.ref b59), .unset, .unset] [(.int (0 : Int32)), (.int ((((f1_0 (1 : Int32) il5_72 dl10_72) + (f1_0 (1 : Int32) il6_72 dl10_72)) + (f1_0 (0 : Int32) il7_72 dl10_72)) + (f1_0 (0 : Int32) il8_72 dl10_72)))])
        refine own_step (fun _ => XS.iload X65.here hx rfl (hb hby at_280) rfl) ?_
        show own_Ends p e below s _ _ _ T65 (mkF m 282 #[.val (.int i0), .val (.int i1), .val (.int i2), .val (.int i3), .val (.int (2 : Int32)), .val (.int il5_72), .val (.int il6_72), .val (.int il7_72), .val (.int il8_72), .val (.int il9_72), .val (.double dl10_72), .second, .val (.int il6_72), .val (.ref b59), .unset, .unset] [(.int il9_72), (.int (0 : Int32)), (.int ((((f1_0 (1 : Int32) il5_72 dl10_72) + (f1_0 (1 : Int32) il6_72 dl10_72)) + (f1_0 (0 : Int32) il7_72 dl10_72)) + (f1_0 (0 : Int32) il8_72 dl10_72)))])
        refine own_step (fun _ => XS.dload X65.here hx rfl (hb hby at_282) rfl) ?_
        show own_Ends p e below s _ _ _ T65 (mkF m 284 #[.val (.int i0), .val (.int i1), .val (.int i2), .val (.int i3), .val (.int (2 : Int32)), .val (.int il5_72), .val (.int il6_72), .val (.int il7_72), .val (.int il8_72), .val (.int il9_72), .val (.double dl10_72), .second, .val (.int il6_72), .val (.ref b59), .unset, .unset] [(.double dl10_72), (.int il9_72), (.int (0 : Int32)), (.int ((((f1_0 (1 : Int32) il5_72 dl10_72) + (f1_0 (1 : Int32) il6_72 dl10_72)) + (f1_0 (0 : Int32) il7_72 dl10_72)) + (f1_0 (0 : Int32) il8_72 dl10_72)))])
        obtain ⟨_, _, ⟨T66, L66, k66, n66⟩, -, X66, ⟨Lc66, hQ66, l66, y66, z66⟩, st66⟩ := Jvm.LawKit.callS X65 hx (y := (⟨"com/example/graded_queue/gradedqueue/sim/CumulativeFirstAbovePinLaw", "le", "(ZID)I"⟩ : MethodName)) hown (mvT hZ (hw _ (List.mem_of_getElem? (i := 3) rfl))) (mvT hZ (hw _ (List.mem_of_getElem? (i := 4) rfl))) (mvT hZ (hw _ (List.mem_of_getElem? (i := 5) rfl))) (mvT hZ (hw _ (List.mem_of_getElem? (i := 6) rfl))) (by decide) (backOf (W := 1) (rm1 l Z a0 hw [] (0 : Int32) il9_72 dl10_72 h61 n0 Zs61) hZ (hw _ (List.mem_of_getElem? (i := 6) rfl)) (hw _ (List.mem_of_getElem? (i := 5) rfl)) (by decide) (by decide)) (g := (mkF m 284 #[.val (.int i0), .val (.int i1), .val (.int i2), .val (.int i3), .val (.int (2 : Int32)), .val (.int il5_72), .val (.int il6_72), .val (.int il7_72), .val (.int il8_72), .val (.int il9_72), .val (.double dl10_72), .second, .val (.int il6_72), .val (.ref b59), .unset, .unset] [(.double dl10_72), (.int il9_72), (.int (0 : Int32)), (.int ((((f1_0 (1 : Int32) il5_72 dl10_72) + (f1_0 (1 : Int32) il6_72 dl10_72)) + (f1_0 (0 : Int32) il7_72 dl10_72)) + (f1_0 (0 : Int32) il8_72 dl10_72)))])) rfl (by rw [hml]; rfl) (argsL := [(.int (0 : Int32)), (.int il9_72), (.double dl10_72)]) (rest := [(.int ((((f1_0 (1 : Int32) il5_72 dl10_72) + (f1_0 (1 : Int32) il6_72 dl10_72)) + (f1_0 (0 : Int32) il7_72 dl10_72)) + (f1_0 (0 : Int32) il8_72 dl10_72)))]) (lenOf pd_0 rfl) rfl (by show 2 * 0 + _ ≤ _; exact Nat.le_of_eq rfl) (hb hby at_284) (fun _ _ => ⟨rfl, hh65, (by decide : 1 + 0 ≤ _), (by decide : 2 + 0 ≤ _)⟩)
        dsimp only [Pt.U, Pt.locs, Pt.cells, Pt.slots] at X66 l66 y66 z66 st66 hQ66
        subst l66 y66 z66
        obtain ⟨rfl, N66q, hh66⟩ := hQ66
        have N66 := Fr.app N65 N66q
        refine own_step st66 ?_
        show own_Ends p e below s _ _ _ T66 (mkF m 287 #[.val (.int i0), .val (.int i1), .val (.int i2), .val (.int i3), .val (.int (2 : Int32)), .val (.int il5_72), .val (.int il6_72), .val (.int il7_72), .val (.int il8_72), .val (.int il9_72), .val (.double dl10_72), .second, .val (.int il6_72), .val (.ref b59), .unset, .unset] [(.int (f1_0 (0 : Int32) il9_72 dl10_72)), (.int ((((f1_0 (1 : Int32) il5_72 dl10_72) + (f1_0 (1 : Int32) il6_72 dl10_72)) + (f1_0 (0 : Int32) il7_72 dl10_72)) + (f1_0 (0 : Int32) il8_72 dl10_72)))])
        refine own_step (fun _ => XS.iadd X66.here hx rfl (hb hby at_287) rfl) ?_
        show own_Ends p e below s _ _ _ T66 (mkF m 288 #[.val (.int i0), .val (.int i1), .val (.int i2), .val (.int i3), .val (.int (2 : Int32)), .val (.int il5_72), .val (.int il6_72), .val (.int il7_72), .val (.int il8_72), .val (.int il9_72), .val (.double dl10_72), .second, .val (.int il6_72), .val (.ref b59), .unset, .unset] [(.int (((((f1_0 (1 : Int32) il5_72 dl10_72) + (f1_0 (1 : Int32) il6_72 dl10_72)) + (f1_0 (0 : Int32) il7_72 dl10_72)) + (f1_0 (0 : Int32) il8_72 dl10_72)) + (f1_0 (0 : Int32) il9_72 dl10_72)))])
        refine own_step (fun _ => XS.istore X66.here hx rfl (hb hby at_288) rfl (l' := #[.val (.int i0), .val (.int i1), .val (.int i2), .val (.int i3), .val (.int (2 : Int32)), .val (.int il5_72), .val (.int il6_72), .val (.int il7_72), .val (.int il8_72), .val (.int il9_72), .val (.double dl10_72), .second, .val (.int il6_72), .val (.ref b59), .val (.int (((((f1_0 (1 : Int32) il5_72 dl10_72) + (f1_0 (1 : Int32) il6_72 dl10_72)) + (f1_0 (0 : Int32) il7_72 dl10_72)) + (f1_0 (0 : Int32) il8_72 dl10_72)) + (f1_0 (0 : Int32) il9_72 dl10_72))), .unset]) rfl) ?_
        show own_Ends p e below s _ _ _ T66 (mkF m 290 #[.val (.int i0), .val (.int i1), .val (.int i2), .val (.int i3), .val (.int (2 : Int32)), .val (.int il5_72), .val (.int il6_72), .val (.int il7_72), .val (.int il8_72), .val (.int il9_72), .val (.double dl10_72), .second, .val (.int il6_72), .val (.ref b59), .val (.int (((((f1_0 (1 : Int32) il5_72 dl10_72) + (f1_0 (1 : Int32) il6_72 dl10_72)) + (f1_0 (0 : Int32) il7_72 dl10_72)) + (f1_0 (0 : Int32) il8_72 dl10_72)) + (f1_0 (0 : Int32) il9_72 dl10_72))), .unset] [])
        refine own_step (fun _ => XS.aload X66.here hx rfl (hb hby at_290) rfl rfl) ?_
        show own_Ends p e below s _ _ _ T66 (mkF m 292 #[.val (.int i0), .val (.int i1), .val (.int i2), .val (.int i3), .val (.int (2 : Int32)), .val (.int il5_72), .val (.int il6_72), .val (.int il7_72), .val (.int il8_72), .val (.int il9_72), .val (.double dl10_72), .second, .val (.int il6_72), .val (.ref b59), .val (.int (((((f1_0 (1 : Int32) il5_72 dl10_72) + (f1_0 (1 : Int32) il6_72 dl10_72)) + (f1_0 (0 : Int32) il7_72 dl10_72)) + (f1_0 (0 : Int32) il8_72 dl10_72)) + (f1_0 (0 : Int32) il9_72 dl10_72))), .unset] [(.ref b59)])
        refine own_step (fun _ => XS.dload X66.here hx rfl (hb hby at_292) rfl) ?_
        show own_Ends p e below s _ _ _ T66 (mkF m 294 #[.val (.int i0), .val (.int i1), .val (.int i2), .val (.int i3), .val (.int (2 : Int32)), .val (.int il5_72), .val (.int il6_72), .val (.int il7_72), .val (.int il8_72), .val (.int il9_72), .val (.double dl10_72), .second, .val (.int il6_72), .val (.ref b59), .val (.int (((((f1_0 (1 : Int32) il5_72 dl10_72) + (f1_0 (1 : Int32) il6_72 dl10_72)) + (f1_0 (0 : Int32) il7_72 dl10_72)) + (f1_0 (0 : Int32) il8_72 dl10_72)) + (f1_0 (0 : Int32) il9_72 dl10_72))), .unset] [(.double dl10_72), (.ref b59)])
        obtain ⟨_, _, ⟨T67, L67, k67, n67⟩, -, X67, ⟨Lc67, hQ67, l67, y67, z67⟩, st67⟩ := Jvm.LawKit.callS X66 hx (y := (⟨"com/example/graded_queue/gradedqueue/sim/Cumulative", "firstAbove", "([DD)I"⟩ : MethodName)) hown (mvT hZ (hw _ (List.mem_of_getElem? (i := 7) rfl))) (mvT hZ (hw _ (List.mem_of_getElem? (i := 8) rfl))) (mvT hZ (hw _ (List.mem_of_getElem? (i := 9) rfl))) (mvT hZ (hw _ (List.mem_of_getElem? (i := 10) rfl))) (by decide) (backOf (W := 0) (rm2_2 l Z a0 hw [] b59 dl10_72 k59 (FP.i2d il5_72) (FP.i2d il6_72) h61 n0 Zs61 V61) hZ (hw _ (List.mem_of_getElem? (i := 10) rfl)) (hw _ (List.mem_of_getElem? (i := 9) rfl)) (by decide) (by decide)) (g := (mkF m 294 #[.val (.int i0), .val (.int i1), .val (.int i2), .val (.int i3), .val (.int (2 : Int32)), .val (.int il5_72), .val (.int il6_72), .val (.int il7_72), .val (.int il8_72), .val (.int il9_72), .val (.double dl10_72), .second, .val (.int il6_72), .val (.ref b59), .val (.int (((((f1_0 (1 : Int32) il5_72 dl10_72) + (f1_0 (1 : Int32) il6_72 dl10_72)) + (f1_0 (0 : Int32) il7_72 dl10_72)) + (f1_0 (0 : Int32) il8_72 dl10_72)) + (f1_0 (0 : Int32) il9_72 dl10_72))), .unset] [(.double dl10_72), (.ref b59)])) rfl (by rw [hml]; rfl) (argsL := [(.ref b59), (.double dl10_72)]) (rest := []) (lenOf pd_1 rfl) rfl (by show 2 * 0 + _ ≤ _; exact Nat.le_of_eq rfl) (hb hby at_294) (fun _ _ => ⟨rfl, hh66, (by decide : 1 + 0 ≤ _), (by decide : 2 + 0 ≤ _)⟩)
        dsimp only [Pt.U, Pt.locs, Pt.cells, Pt.slots] at X67 l67 y67 z67 st67 hQ67
        subst l67 y67 z67
        obtain ⟨rfl, N67q, hh67⟩ := hQ67
        have N67 := Fr.app N66 N67q
        refine own_step st67 ?_
        show own_Ends p e below s _ _ _ T67 (mkF m 297 #[.val (.int i0), .val (.int i1), .val (.int i2), .val (.int i3), .val (.int (2 : Int32)), .val (.int il5_72), .val (.int il6_72), .val (.int il7_72), .val (.int il8_72), .val (.int il9_72), .val (.double dl10_72), .second, .val (.int il6_72), .val (.ref b59), .val (.int (((((f1_0 (1 : Int32) il5_72 dl10_72) + (f1_0 (1 : Int32) il6_72 dl10_72)) + (f1_0 (0 : Int32) il7_72 dl10_72)) + (f1_0 (0 : Int32) il8_72 dl10_72)) + (f1_0 (0 : Int32) il9_72 dl10_72))), .unset] [(.int (f2b_0 dl10_72 (FP.i2d il5_72) (FP.i2d il6_72)))])
        refine own_step (fun _ => XS.istore X67.here hx rfl (hb hby at_297) rfl (l' := #[.val (.int i0), .val (.int i1), .val (.int i2), .val (.int i3), .val (.int (2 : Int32)), .val (.int il5_72), .val (.int il6_72), .val (.int il7_72), .val (.int il8_72), .val (.int il9_72), .val (.double dl10_72), .second, .val (.int il6_72), .val (.ref b59), .val (.int (((((f1_0 (1 : Int32) il5_72 dl10_72) + (f1_0 (1 : Int32) il6_72 dl10_72)) + (f1_0 (0 : Int32) il7_72 dl10_72)) + (f1_0 (0 : Int32) il8_72 dl10_72)) + (f1_0 (0 : Int32) il9_72 dl10_72))), .val (.int (f2b_0 dl10_72 (FP.i2d il5_72) (FP.i2d il6_72)))]) rfl) ?_
        show own_Ends p e below s _ _ _ T67 (mkF m 299 #[.val (.int i0), .val (.int i1), .val (.int i2), .val (.int i3), .val (.int (2 : Int32)), .val (.int il5_72), .val (.int il6_72), .val (.int il7_72), .val (.int il8_72), .val (.int il9_72), .val (.double dl10_72), .second, .val (.int il6_72), .val (.ref b59), .val (.int (((((f1_0 (1 : Int32) il5_72 dl10_72) + (f1_0 (1 : Int32) il6_72 dl10_72)) + (f1_0 (0 : Int32) il7_72 dl10_72)) + (f1_0 (0 : Int32) il8_72 dl10_72)) + (f1_0 (0 : Int32) il9_72 dl10_72))), .val (.int (f2b_0 dl10_72 (FP.i2d il5_72) (FP.i2d il6_72)))] [])
        refine own_step (fun _ => XS.iload X67.here hx rfl (hb hby at_299) rfl) ?_
        show own_Ends p e below s _ _ _ T67 (mkF m 301 #[.val (.int i0), .val (.int i1), .val (.int i2), .val (.int i3), .val (.int (2 : Int32)), .val (.int il5_72), .val (.int il6_72), .val (.int il7_72), .val (.int il8_72), .val (.int il9_72), .val (.double dl10_72), .second, .val (.int il6_72), .val (.ref b59), .val (.int (((((f1_0 (1 : Int32) il5_72 dl10_72) + (f1_0 (1 : Int32) il6_72 dl10_72)) + (f1_0 (0 : Int32) il7_72 dl10_72)) + (f1_0 (0 : Int32) il8_72 dl10_72)) + (f1_0 (0 : Int32) il9_72 dl10_72))), .val (.int (f2b_0 dl10_72 (FP.i2d il5_72) (FP.i2d il6_72)))] [(.int (f2b_0 dl10_72 (FP.i2d il5_72) (FP.i2d il6_72)))])
        refine own_step (fun _ => XS.iload X67.here hx rfl (hb hby at_301) rfl) ?_
        show own_Ends p e below s _ _ _ T67 (mkF m 303 #[.val (.int i0), .val (.int i1), .val (.int i2), .val (.int i3), .val (.int (2 : Int32)), .val (.int il5_72), .val (.int il6_72), .val (.int il7_72), .val (.int il8_72), .val (.int il9_72), .val (.double dl10_72), .second, .val (.int il6_72), .val (.ref b59), .val (.int (((((f1_0 (1 : Int32) il5_72 dl10_72) + (f1_0 (1 : Int32) il6_72 dl10_72)) + (f1_0 (0 : Int32) il7_72 dl10_72)) + (f1_0 (0 : Int32) il8_72 dl10_72)) + (f1_0 (0 : Int32) il9_72 dl10_72))), .val (.int (f2b_0 dl10_72 (FP.i2d il5_72) (FP.i2d il6_72)))] [(.int (((((f1_0 (1 : Int32) il5_72 dl10_72) + (f1_0 (1 : Int32) il6_72 dl10_72)) + (f1_0 (0 : Int32) il7_72 dl10_72)) + (f1_0 (0 : Int32) il8_72 dl10_72)) + (f1_0 (0 : Int32) il9_72 dl10_72))), (.int (f2b_0 dl10_72 (FP.i2d il5_72) (FP.i2d il6_72)))])
        by_cases hc303 : (f2b_0 dl10_72 (FP.i2d il5_72) (FP.i2d il6_72)) = (((((f1_0 (1 : Int32) il5_72 dl10_72) + (f1_0 (1 : Int32) il6_72 dl10_72)) + (f1_0 (0 : Int32) il7_72 dl10_72)) + (f1_0 (0 : Int32) il8_72 dl10_72)) + (f1_0 (0 : Int32) il9_72 dl10_72))
        · have hvf0t1_t_t := hvf0t1_t.trans (if_pos hc303)
          refine own_step (fun _ => XS.icmpNo X67.here hx rfl (hb hby at_303) rfl (teq hc303).2) ?_
          show own_Ends p e below s _ _ _ T67 (mkF m 306 #[.val (.int i0), .val (.int i1), .val (.int i2), .val (.int i3), .val (.int (2 : Int32)), .val (.int il5_72), .val (.int il6_72), .val (.int il7_72), .val (.int il8_72), .val (.int il9_72), .val (.double dl10_72), .second, .val (.int il6_72), .val (.ref b59), .val (.int (((((f1_0 (1 : Int32) il5_72 dl10_72) + (f1_0 (1 : Int32) il6_72 dl10_72)) + (f1_0 (0 : Int32) il7_72 dl10_72)) + (f1_0 (0 : Int32) il8_72 dl10_72)) + (f1_0 (0 : Int32) il9_72 dl10_72))), .val (.int (f2b_0 dl10_72 (FP.i2d il5_72) (FP.i2d il6_72)))] [])
          refine own_step (fun _ => XS.iconst X67.here hx rfl (hb hby at_306)) ?_
          show own_Ends p e below s _ _ _ T67 (mkF m 307 #[.val (.int i0), .val (.int i1), .val (.int i2), .val (.int i3), .val (.int (2 : Int32)), .val (.int il5_72), .val (.int il6_72), .val (.int il7_72), .val (.int il8_72), .val (.int il9_72), .val (.double dl10_72), .second, .val (.int il6_72), .val (.ref b59), .val (.int (((((f1_0 (1 : Int32) il5_72 dl10_72) + (f1_0 (1 : Int32) il6_72 dl10_72)) + (f1_0 (0 : Int32) il7_72 dl10_72)) + (f1_0 (0 : Int32) il8_72 dl10_72)) + (f1_0 (0 : Int32) il9_72 dl10_72))), .val (.int (f2b_0 dl10_72 (FP.i2d il5_72) (FP.i2d il6_72)))] [(.int (1 : Int32))])
          refine own_step (fun _ => XS.goto X67.here hx rfl (pc0 := 307) (pc' := 311) rfl (hb hby at_307) (by decide) (by decide)) ?_
          show own_Ends p e below s _ _ _ T67 (mkF m 311 #[.val (.int i0), .val (.int i1), .val (.int i2), .val (.int i3), .val (.int (2 : Int32)), .val (.int il5_72), .val (.int il6_72), .val (.int il7_72), .val (.int il8_72), .val (.int il9_72), .val (.double dl10_72), .second, .val (.int il6_72), .val (.ref b59), .val (.int (((((f1_0 (1 : Int32) il5_72 dl10_72) + (f1_0 (1 : Int32) il6_72 dl10_72)) + (f1_0 (0 : Int32) il7_72 dl10_72)) + (f1_0 (0 : Int32) il8_72 dl10_72)) + (f1_0 (0 : Int32) il9_72 dl10_72))), .val (.int (f2b_0 dl10_72 (FP.i2d il5_72) (FP.i2d il6_72)))] [(.int (1 : Int32))])
          exact own_retN X67 (t := .boolean) hx hret hlk (hb hby at_311) (by decide) (by decide) (by simp) ⟨congrArg (fun z => some (Value.int z)) hvf0t1_t_t.symm, N67, trivial⟩
        · have hvf0t1_t_f := hvf0t1_t.trans (if_neg hc303)
          refine own_step (fun _ => XS.icmpYes X67.here hx rfl (pc0 := 303) (pc' := 310) rfl (hb hby at_303) rfl (feq hc303).2 (by decide) (by decide)) ?_
          show own_Ends p e below s _ _ _ T67 (mkF m 310 #[.val (.int i0), .val (.int i1), .val (.int i2), .val (.int i3), .val (.int (2 : Int32)), .val (.int il5_72), .val (.int il6_72), .val (.int il7_72), .val (.int il8_72), .val (.int il9_72), .val (.double dl10_72), .second, .val (.int il6_72), .val (.ref b59), .val (.int (((((f1_0 (1 : Int32) il5_72 dl10_72) + (f1_0 (1 : Int32) il6_72 dl10_72)) + (f1_0 (0 : Int32) il7_72 dl10_72)) + (f1_0 (0 : Int32) il8_72 dl10_72)) + (f1_0 (0 : Int32) il9_72 dl10_72))), .val (.int (f2b_0 dl10_72 (FP.i2d il5_72) (FP.i2d il6_72)))] [])
          refine own_step (fun _ => XS.iconst X67.here hx rfl (hb hby at_310)) ?_
          show own_Ends p e below s _ _ _ T67 (mkF m 311 #[.val (.int i0), .val (.int i1), .val (.int i2), .val (.int i3), .val (.int (2 : Int32)), .val (.int il5_72), .val (.int il6_72), .val (.int il7_72), .val (.int il8_72), .val (.int il9_72), .val (.double dl10_72), .second, .val (.int il6_72), .val (.ref b59), .val (.int (((((f1_0 (1 : Int32) il5_72 dl10_72) + (f1_0 (1 : Int32) il6_72 dl10_72)) + (f1_0 (0 : Int32) il7_72 dl10_72)) + (f1_0 (0 : Int32) il8_72 dl10_72)) + (f1_0 (0 : Int32) il9_72 dl10_72))), .val (.int (f2b_0 dl10_72 (FP.i2d il5_72) (FP.i2d il6_72)))] [(.int (0 : Int32))])
          exact own_retN X67 (t := .boolean) hx hret hlk (hb hby at_311) (by decide) (by decide) (by simp) ⟨congrArg (fun z => some (Value.int z)) hvf0t1_t_f.symm, N67, trivial⟩
      · have hvf0t1_f := hvf0t1.trans (if_neg hc134)
        refine own_step (fun _ => XS.ifNo X0.here hx rfl (hb hby at_134) rfl ((if0 _ _).trans (flt hc134).2.2.1)) ?_
        show own_Ends p e below s _ _ _ T0 (mkF m 137 #[.val (.int i0), .val (.int i1), .val (.int i2), .val (.int i3), .val (.int (2 : Int32)), .val (.int il5_72), .val (.int il6_72), .val (.int il7_72), .val (.int il8_72), .val (.int il9_72), .val (.double dl10_72), .second, .val (.int il6_72), .unset, .unset, .unset] [])
        refine own_step (fun _ => XS.iconst X0.here hx rfl (hb hby at_137)) ?_
        show own_Ends p e below s _ _ _ T0 (mkF m 138 #[.val (.int i0), .val (.int i1), .val (.int i2), .val (.int i3), .val (.int (2 : Int32)), .val (.int il5_72), .val (.int il6_72), .val (.int il7_72), .val (.int il8_72), .val (.int il9_72), .val (.double dl10_72), .second, .val (.int il6_72), .unset, .unset, .unset] [(.int (1 : Int32))])
        exact own_retN X0 (t := .boolean) hx hret hlk (hb hby at_138) (by decide) (by decide) (by simp) ⟨congrArg (fun z => some (Value.int z)) hvf0t1_f.symm, N0, trivial⟩
    · have hvf0f1 := hvf0.trans (if_neg hN2)
      by_cases hN3 : (((i3 &&& (2147483647 : Int32)) % (5 : Int32)) + (1 : Int32)) = (3 : Int32)
      · have hvf0f1t2 := hvf0f1.trans (if_pos hN3)
        rw [hN3]
        refine own_step (fun _ => XS.iload X0.here hx rfl (hb hby at_72) rfl) ?_
        show own_Ends p e below s _ _ _ T0 (mkF m 74 #[.val (.int i0), .val (.int i1), .val (.int i2), .val (.int i3), .val (.int (3 : Int32)), .val (.int il5_72), .val (.int il6_72), .val (.int il7_72), .val (.int il8_72), .val (.int il9_72), .val (.double dl10_72), .second, .unset, .unset, .unset, .unset] [(.int (3 : Int32))])
        refine own_step (fun _ => XS.iconst X0.here hx rfl (hb hby at_74)) ?_
        show own_Ends p e below s _ _ _ T0 (mkF m 75 #[.val (.int i0), .val (.int i1), .val (.int i2), .val (.int i3), .val (.int (3 : Int32)), .val (.int il5_72), .val (.int il6_72), .val (.int il7_72), .val (.int il8_72), .val (.int il9_72), .val (.double dl10_72), .second, .unset, .unset, .unset, .unset] [(.int (1 : Int32)), (.int (3 : Int32))])
        refine own_step (fun _ => XS.icmpYes X0.here hx rfl (pc0 := 75) (pc' := 85) rfl (hb hby at_75) rfl (feq (show ¬ ((3 : Int32) = (1 : Int32)) from (by decide))).2 (by decide) (by decide)) ?_
        show own_Ends p e below s _ _ _ T0 (mkF m 85 #[.val (.int i0), .val (.int i1), .val (.int i2), .val (.int i3), .val (.int (3 : Int32)), .val (.int il5_72), .val (.int il6_72), .val (.int il7_72), .val (.int il8_72), .val (.int il9_72), .val (.double dl10_72), .second, .unset, .unset, .unset, .unset] [])
        refine own_step (fun _ => XS.iload X0.here hx rfl (hb hby at_85) rfl) ?_
        show own_Ends p e below s _ _ _ T0 (mkF m 87 #[.val (.int i0), .val (.int i1), .val (.int i2), .val (.int i3), .val (.int (3 : Int32)), .val (.int il5_72), .val (.int il6_72), .val (.int il7_72), .val (.int il8_72), .val (.int il9_72), .val (.double dl10_72), .second, .unset, .unset, .unset, .unset] [(.int (3 : Int32))])
        refine own_step (fun _ => XS.iconst X0.here hx rfl (hb hby at_87)) ?_
        show own_Ends p e below s _ _ _ T0 (mkF m 88 #[.val (.int i0), .val (.int i1), .val (.int i2), .val (.int i3), .val (.int (3 : Int32)), .val (.int il5_72), .val (.int il6_72), .val (.int il7_72), .val (.int il8_72), .val (.int il9_72), .val (.double dl10_72), .second, .unset, .unset, .unset, .unset] [(.int (2 : Int32)), (.int (3 : Int32))])
        refine own_step (fun _ => XS.icmpYes X0.here hx rfl (pc0 := 88) (pc' := 98) rfl (hb hby at_88) rfl (feq (show ¬ ((3 : Int32) = (2 : Int32)) from (by decide))).2 (by decide) (by decide)) ?_
        show own_Ends p e below s _ _ _ T0 (mkF m 98 #[.val (.int i0), .val (.int i1), .val (.int i2), .val (.int i3), .val (.int (3 : Int32)), .val (.int il5_72), .val (.int il6_72), .val (.int il7_72), .val (.int il8_72), .val (.int il9_72), .val (.double dl10_72), .second, .unset, .unset, .unset, .unset] [])
        refine own_step (fun _ => XS.iload X0.here hx rfl (hb hby at_98) rfl) ?_
        show own_Ends p e below s _ _ _ T0 (mkF m 100 #[.val (.int i0), .val (.int i1), .val (.int i2), .val (.int i3), .val (.int (3 : Int32)), .val (.int il5_72), .val (.int il6_72), .val (.int il7_72), .val (.int il8_72), .val (.int il9_72), .val (.double dl10_72), .second, .unset, .unset, .unset, .unset] [(.int (3 : Int32))])
        refine own_step (fun _ => XS.iconst X0.here hx rfl (hb hby at_100)) ?_
        show own_Ends p e below s _ _ _ T0 (mkF m 101 #[.val (.int i0), .val (.int i1), .val (.int i2), .val (.int i3), .val (.int (3 : Int32)), .val (.int il5_72), .val (.int il6_72), .val (.int il7_72), .val (.int il8_72), .val (.int il9_72), .val (.double dl10_72), .second, .unset, .unset, .unset, .unset] [(.int (3 : Int32)), (.int (3 : Int32))])
        refine own_step (fun _ => XS.icmpNo X0.here hx rfl (hb hby at_101) rfl (teq (show (3 : Int32) = (3 : Int32) from (by decide))).2) ?_
        show own_Ends p e below s _ _ _ T0 (mkF m 104 #[.val (.int i0), .val (.int i1), .val (.int i2), .val (.int i3), .val (.int (3 : Int32)), .val (.int il5_72), .val (.int il6_72), .val (.int il7_72), .val (.int il8_72), .val (.int il9_72), .val (.double dl10_72), .second, .unset, .unset, .unset, .unset] [])
        refine own_step (fun _ => XS.iload X0.here hx rfl (hb hby at_104) rfl) ?_
        show own_Ends p e below s _ _ _ T0 (mkF m 106 #[.val (.int i0), .val (.int i1), .val (.int i2), .val (.int i3), .val (.int (3 : Int32)), .val (.int il5_72), .val (.int il6_72), .val (.int il7_72), .val (.int il8_72), .val (.int il9_72), .val (.double dl10_72), .second, .unset, .unset, .unset, .unset] [(.int il7_72)])
        refine own_step (fun _ => XS.istore X0.here hx rfl (hb hby at_106) rfl (l' := #[.val (.int i0), .val (.int i1), .val (.int i2), .val (.int i3), .val (.int (3 : Int32)), .val (.int il5_72), .val (.int il6_72), .val (.int il7_72), .val (.int il8_72), .val (.int il9_72), .val (.double dl10_72), .second, .val (.int il7_72), .unset, .unset, .unset]) rfl) ?_
        show own_Ends p e below s _ _ _ T0 (mkF m 108 #[.val (.int i0), .val (.int i1), .val (.int i2), .val (.int i3), .val (.int (3 : Int32)), .val (.int il5_72), .val (.int il6_72), .val (.int il7_72), .val (.int il8_72), .val (.int il9_72), .val (.double dl10_72), .second, .val (.int il7_72), .unset, .unset, .unset] [])
        refine own_step (fun _ => XS.goto X0.here hx rfl (pc0 := 108) (pc' := 128) rfl (hb hby at_108) (by decide) (by decide)) ?_
        show own_Ends p e below s _ _ _ T0 (mkF m 128 #[.val (.int i0), .val (.int i1), .val (.int i2), .val (.int i3), .val (.int (3 : Int32)), .val (.int il5_72), .val (.int il6_72), .val (.int il7_72), .val (.int il8_72), .val (.int il9_72), .val (.double dl10_72), .second, .val (.int il7_72), .unset, .unset, .unset] [])
        refine own_step (fun _ => XS.iload X0.here hx rfl (hb hby at_128) rfl) ?_
        show own_Ends p e below s _ _ _ T0 (mkF m 130 #[.val (.int i0), .val (.int i1), .val (.int i2), .val (.int i3), .val (.int (3 : Int32)), .val (.int il5_72), .val (.int il6_72), .val (.int il7_72), .val (.int il8_72), .val (.int il9_72), .val (.double dl10_72), .second, .val (.int il7_72), .unset, .unset, .unset] [(.int il7_72)])
        refine own_step (fun _ => XS.i2dS X0.here hx rfl (hb hby at_130) rfl rfl) ?_
        show own_Ends p e below s _ _ _ T0 (mkF m 131 #[.val (.int i0), .val (.int i1), .val (.int i2), .val (.int i3), .val (.int (3 : Int32)), .val (.int il5_72), .val (.int il6_72), .val (.int il7_72), .val (.int il8_72), .val (.int il9_72), .val (.double dl10_72), .second, .val (.int il7_72), .unset, .unset, .unset] [(.double (FP.i2d il7_72))])
        refine own_step (fun _ => XS.dload X0.here hx rfl (hb hby at_131) rfl) ?_
        show own_Ends p e below s _ _ _ T0 (mkF m 133 #[.val (.int i0), .val (.int i1), .val (.int i2), .val (.int i3), .val (.int (3 : Int32)), .val (.int il5_72), .val (.int il6_72), .val (.int il7_72), .val (.int il8_72), .val (.int il9_72), .val (.double dl10_72), .second, .val (.int il7_72), .unset, .unset, .unset] [(.double dl10_72), (.double (FP.i2d il7_72))])
        refine own_step (fun _ => XS.dcmpS X0.here hx rfl (hb hby at_133) rfl rfl) ?_
        show own_Ends p e below s _ _ _ T0 (mkF m 134 #[.val (.int i0), .val (.int i1), .val (.int i2), .val (.int i3), .val (.int (3 : Int32)), .val (.int il5_72), .val (.int il6_72), .val (.int il7_72), .val (.int il8_72), .val (.int il9_72), .val (.double dl10_72), .second, .val (.int il7_72), .unset, .unset, .unset] [(.int (cmpValue (FP.dcmp (FP.i2d il7_72) dl10_72) .l))])
        by_cases hc134 : (0 : Int32) < (cmpValue (FP.dcmp (FP.i2d il7_72) dl10_72) .l)
        · have hvf0f1t2_t := hvf0f1t2.trans (if_pos hc134)
          refine own_step (fun _ => XS.ifYes X0.here hx rfl (pc0 := 134) (pc' := 139) rfl (hb hby at_134) rfl ((if0 _ _).trans (tlt hc134).2.2.1) (by decide) (by decide)) ?_
          show own_Ends p e below s _ _ _ T0 (mkF m 139 #[.val (.int i0), .val (.int i1), .val (.int i2), .val (.int i3), .val (.int (3 : Int32)), .val (.int il5_72), .val (.int il6_72), .val (.int il7_72), .val (.int il8_72), .val (.int il9_72), .val (.double dl10_72), .second, .val (.int il7_72), .unset, .unset, .unset] [])
          refine own_step (fun _ => XS.iload X0.here hx rfl (hb hby at_139) rfl) ?_
          show own_Ends p e below s _ _ _ T0 (mkF m 141 #[.val (.int i0), .val (.int i1), .val (.int i2), .val (.int i3), .val (.int (3 : Int32)), .val (.int il5_72), .val (.int il6_72), .val (.int il7_72), .val (.int il8_72), .val (.int il9_72), .val (.double dl10_72), .second, .val (.int il7_72), .unset, .unset, .unset] [(.int (3 : Int32))])
          obtain ⟨T68, h68, k68, X68, e68, E68, A68, st68⟩ := newP X0 hx hZ (hw _ (List.mem_of_getElem? (i := 2) rfl)) e0 (g := (mkF m 141 #[.val (.int i0), .val (.int i1), .val (.int i2), .val (.int i3), .val (.int (3 : Int32)), .val (.int il5_72), .val (.int il6_72), .val (.int il7_72), .val (.int il8_72), .val (.int il9_72), .val (.double dl10_72), .second, .val (.int il7_72), .unset, .unset, .unset] [(.int (3 : Int32))])) rfl (hb hby at_141) rfl (by decide) (cap := 3) (by decide) (by decide) (by decide) (by decide)
          obtain ⟨b68, g68⟩ : ∃ z, z = h0.size := ⟨_, rfl⟩
          rw [← g68] at A68 st68
          have V68 : Arv Z h68 b68 k68 .double (3 : Int32) [(.double 0), (.double 0), (.double 0)] (.double 0) := (Arv.new A68 (by decide)).pad (pad_rep [] (.double 0) 3)
          have g_b68 : n0 ≤ b68 := Nat.le_trans Z0 (Nat.le_of_eq g68.symm)
          have Zs68 : n0 ≤ h68.size := Nat.le_trans Z0 E68.1
          refine own_step st68 ?_
          show own_Ends p e below s _ _ _ T68 (mkF m 143 #[.val (.int i0), .val (.int i1), .val (.int i2), .val (.int i3), .val (.int (3 : Int32)), .val (.int il5_72), .val (.int il6_72), .val (.int il7_72), .val (.int il8_72), .val (.int il9_72), .val (.double dl10_72), .second, .val (.int il7_72), .unset, .unset, .unset] [(.ref b68)])
          refine own_step (fun _ => XS.astore X68.here hx rfl (hb hby at_143) rfl rfl (l' := #[.val (.int i0), .val (.int i1), .val (.int i2), .val (.int i3), .val (.int (3 : Int32)), .val (.int il5_72), .val (.int il6_72), .val (.int il7_72), .val (.int il8_72), .val (.int il9_72), .val (.double dl10_72), .second, .val (.int il7_72), .val (.ref b68), .unset, .unset]) rfl) ?_
          show own_Ends p e below s _ _ _ T68 (mkF m 145 #[.val (.int i0), .val (.int i1), .val (.int i2), .val (.int i3), .val (.int (3 : Int32)), .val (.int il5_72), .val (.int il6_72), .val (.int il7_72), .val (.int il8_72), .val (.int il9_72), .val (.double dl10_72), .second, .val (.int il7_72), .val (.ref b68), .unset, .unset] [])
          refine own_step (fun _ => XS.aload X68.here hx rfl (hb hby at_145) rfl rfl) ?_
          show own_Ends p e below s _ _ _ T68 (mkF m 147 #[.val (.int i0), .val (.int i1), .val (.int i2), .val (.int i3), .val (.int (3 : Int32)), .val (.int il5_72), .val (.int il6_72), .val (.int il7_72), .val (.int il8_72), .val (.int il9_72), .val (.double dl10_72), .second, .val (.int il7_72), .val (.ref b68), .unset, .unset] [(.ref b68)])
          refine own_step (fun _ => XS.iconst X68.here hx rfl (hb hby at_147)) ?_
          show own_Ends p e below s _ _ _ T68 (mkF m 148 #[.val (.int i0), .val (.int i1), .val (.int i2), .val (.int i3), .val (.int (3 : Int32)), .val (.int il5_72), .val (.int il6_72), .val (.int il7_72), .val (.int il8_72), .val (.int il9_72), .val (.double dl10_72), .second, .val (.int il7_72), .val (.ref b68), .unset, .unset] [(.int (0 : Int32)), (.ref b68)])
          refine own_step (fun _ => XS.iload X68.here hx rfl (hb hby at_148) rfl) ?_
          show own_Ends p e below s _ _ _ T68 (mkF m 150 #[.val (.int i0), .val (.int i1), .val (.int i2), .val (.int i3), .val (.int (3 : Int32)), .val (.int il5_72), .val (.int il6_72), .val (.int il7_72), .val (.int il8_72), .val (.int il9_72), .val (.double dl10_72), .second, .val (.int il7_72), .val (.ref b68), .unset, .unset] [(.int il5_72), (.int (0 : Int32)), (.ref b68)])
          refine own_step (fun _ => XS.i2dS X68.here hx rfl (hb hby at_150) rfl rfl) ?_
          show own_Ends p e below s _ _ _ T68 (mkF m 151 #[.val (.int i0), .val (.int i1), .val (.int i2), .val (.int i3), .val (.int (3 : Int32)), .val (.int il5_72), .val (.int il6_72), .val (.int il7_72), .val (.int il8_72), .val (.int il9_72), .val (.double dl10_72), .second, .val (.int il7_72), .val (.ref b68), .unset, .unset] [(.double (FP.i2d il5_72)), (.int (0 : Int32)), (.ref b68)])
          obtain ⟨cl69, Ar69, q69, S69, N69_, H69, G69⟩ := id V68
          have hin69 : ¬ ((0 : Int32) < 0 ∨ cl69.slots.size ≤ ((0 : Int32)).toNatClampNeg) := inb_of S69 ⟨by decide, by decide⟩
          obtain ⟨T69, h69, X69, e69, W69, st69⟩ := stD X68 hx hZ e68 Ar69 (j := (0 : Int32)) hin69 (g := (mkF m 151 #[.val (.int i0), .val (.int i1), .val (.int i2), .val (.int i3), .val (.int (3 : Int32)), .val (.int il5_72), .val (.int il6_72), .val (.int il7_72), .val (.int il8_72), .val (.int il9_72), .val (.double dl10_72), .second, .val (.int il7_72), .val (.ref b68), .unset, .unset] [(.double (FP.i2d il5_72)), (.int (0 : Int32)), (.ref b68)])) rfl rfl (hb hby at_151)
          have V69 : Arv Z h69 b68 k68 .double (3 : Int32) [(.double (FP.i2d il5_72)), (.double 0), (.double 0)] (.double 0) := Arv.set Ar69 q69 S69 N69_ H69 G69 rfl W69 0 rfl (Nat.le_of_ble_eq_true rfl)
          have Zs69 : n0 ≤ h69.size := (by rw [W69.size]; exact Zs68)
          have N69 := Fr.snoc X69 N0 g_b68
          refine own_step st69 ?_
          show own_Ends p e below s _ _ _ T69 (mkF m 152 #[.val (.int i0), .val (.int i1), .val (.int i2), .val (.int i3), .val (.int (3 : Int32)), .val (.int il5_72), .val (.int il6_72), .val (.int il7_72), .val (.int il8_72), .val (.int il9_72), .val (.double dl10_72), .second, .val (.int il7_72), .val (.ref b68), .unset, .unset] [])
          refine own_step (fun _ => XS.iload X69.here hx rfl (hb hby at_152) rfl) ?_
          show own_Ends p e below s _ _ _ T69 (mkF m 154 #[.val (.int i0), .val (.int i1), .val (.int i2), .val (.int i3), .val (.int (3 : Int32)), .val (.int il5_72), .val (.int il6_72), .val (.int il7_72), .val (.int il8_72), .val (.int il9_72), .val (.double dl10_72), .second, .val (.int il7_72), .val (.ref b68), .unset, .unset] [(.int (3 : Int32))])
          refine own_step (fun _ => XS.iconst X69.here hx rfl (hb hby at_154)) ?_
          show own_Ends p e below s _ _ _ T69 (mkF m 155 #[.val (.int i0), .val (.int i1), .val (.int i2), .val (.int i3), .val (.int (3 : Int32)), .val (.int il5_72), .val (.int il6_72), .val (.int il7_72), .val (.int il8_72), .val (.int il9_72), .val (.double dl10_72), .second, .val (.int il7_72), .val (.ref b68), .unset, .unset] [(.int (1 : Int32)), (.int (3 : Int32))])
          refine own_step (fun _ => XS.icmpNo X69.here hx rfl (hb hby at_155) rfl (tlt (show (1 : Int32) < (3 : Int32) from (by decide))).2.2.2) ?_
          show own_Ends p e below s _ _ _ T69 (mkF m 158 #[.val (.int i0), .val (.int i1), .val (.int i2), .val (.int i3), .val (.int (3 : Int32)), .val (.int il5_72), .val (.int il6_72), .val (.int il7_72), .val (.int il8_72), .val (.int il9_72), .val (.double dl10_72), .second, .val (.int il7_72), .val (.ref b68), .unset, .unset] [])
          refine own_step (fun _ => XS.aload X69.here hx rfl (hb hby at_158) rfl rfl) ?_
          show own_Ends p e below s _ _ _ T69 (mkF m 160 #[.val (.int i0), .val (.int i1), .val (.int i2), .val (.int i3), .val (.int (3 : Int32)), .val (.int il5_72), .val (.int il6_72), .val (.int il7_72), .val (.int il8_72), .val (.int il9_72), .val (.double dl10_72), .second, .val (.int il7_72), .val (.ref b68), .unset, .unset] [(.ref b68)])
          refine own_step (fun _ => XS.iconst X69.here hx rfl (hb hby at_160)) ?_
          show own_Ends p e below s _ _ _ T69 (mkF m 161 #[.val (.int i0), .val (.int i1), .val (.int i2), .val (.int i3), .val (.int (3 : Int32)), .val (.int il5_72), .val (.int il6_72), .val (.int il7_72), .val (.int il8_72), .val (.int il9_72), .val (.double dl10_72), .second, .val (.int il7_72), .val (.ref b68), .unset, .unset] [(.int (1 : Int32)), (.ref b68)])
          refine own_step (fun _ => XS.iload X69.here hx rfl (hb hby at_161) rfl) ?_
          show own_Ends p e below s _ _ _ T69 (mkF m 163 #[.val (.int i0), .val (.int i1), .val (.int i2), .val (.int i3), .val (.int (3 : Int32)), .val (.int il5_72), .val (.int il6_72), .val (.int il7_72), .val (.int il8_72), .val (.int il9_72), .val (.double dl10_72), .second, .val (.int il7_72), .val (.ref b68), .unset, .unset] [(.int il6_72), (.int (1 : Int32)), (.ref b68)])
          refine own_step (fun _ => XS.i2dS X69.here hx rfl (hb hby at_163) rfl rfl) ?_
          show own_Ends p e below s _ _ _ T69 (mkF m 164 #[.val (.int i0), .val (.int i1), .val (.int i2), .val (.int i3), .val (.int (3 : Int32)), .val (.int il5_72), .val (.int il6_72), .val (.int il7_72), .val (.int il8_72), .val (.int il9_72), .val (.double dl10_72), .second, .val (.int il7_72), .val (.ref b68), .unset, .unset] [(.double (FP.i2d il6_72)), (.int (1 : Int32)), (.ref b68)])
          obtain ⟨cl70, Ar70, q70, S70, N70_, H70, G70⟩ := id V69
          have hin70 : ¬ ((1 : Int32) < 0 ∨ cl70.slots.size ≤ ((1 : Int32)).toNatClampNeg) := inb_of S70 ⟨by decide, by decide⟩
          obtain ⟨T70, h70, X70, e70, W70, st70⟩ := stD X69 hx hZ e69 Ar70 (j := (1 : Int32)) hin70 (g := (mkF m 164 #[.val (.int i0), .val (.int i1), .val (.int i2), .val (.int i3), .val (.int (3 : Int32)), .val (.int il5_72), .val (.int il6_72), .val (.int il7_72), .val (.int il8_72), .val (.int il9_72), .val (.double dl10_72), .second, .val (.int il7_72), .val (.ref b68), .unset, .unset] [(.double (FP.i2d il6_72)), (.int (1 : Int32)), (.ref b68)])) rfl rfl (hb hby at_164)
          have V70 : Arv Z h70 b68 k68 .double (3 : Int32) [(.double (FP.i2d il5_72)), (.double (FP.i2d il6_72)), (.double 0)] (.double 0) := Arv.set Ar70 q70 S70 N70_ H70 G70 rfl W70 1 rfl (Nat.le_of_ble_eq_true rfl)
          have Zs70 : n0 ≤ h70.size := (by rw [W70.size]; exact Zs69)
          have N70 := Fr.snoc X70 N69 g_b68
          refine own_step st70 ?_
          show own_Ends p e below s _ _ _ T70 (mkF m 165 #[.val (.int i0), .val (.int i1), .val (.int i2), .val (.int i3), .val (.int (3 : Int32)), .val (.int il5_72), .val (.int il6_72), .val (.int il7_72), .val (.int il8_72), .val (.int il9_72), .val (.double dl10_72), .second, .val (.int il7_72), .val (.ref b68), .unset, .unset] [])
          refine own_step (fun _ => XS.iload X70.here hx rfl (hb hby at_165) rfl) ?_
          show own_Ends p e below s _ _ _ T70 (mkF m 167 #[.val (.int i0), .val (.int i1), .val (.int i2), .val (.int i3), .val (.int (3 : Int32)), .val (.int il5_72), .val (.int il6_72), .val (.int il7_72), .val (.int il8_72), .val (.int il9_72), .val (.double dl10_72), .second, .val (.int il7_72), .val (.ref b68), .unset, .unset] [(.int (3 : Int32))])
          refine own_step (fun _ => XS.iconst X70.here hx rfl (hb hby at_167)) ?_
          show own_Ends p e below s _ _ _ T70 (mkF m 168 #[.val (.int i0), .val (.int i1), .val (.int i2), .val (.int i3), .val (.int (3 : Int32)), .val (.int il5_72), .val (.int il6_72), .val (.int il7_72), .val (.int il8_72), .val (.int il9_72), .val (.double dl10_72), .second, .val (.int il7_72), .val (.ref b68), .unset, .unset] [(.int (2 : Int32)), (.int (3 : Int32))])
          refine own_step (fun _ => XS.icmpNo X70.here hx rfl (hb hby at_168) rfl (tlt (show (2 : Int32) < (3 : Int32) from (by decide))).2.2.2) ?_
          show own_Ends p e below s _ _ _ T70 (mkF m 171 #[.val (.int i0), .val (.int i1), .val (.int i2), .val (.int i3), .val (.int (3 : Int32)), .val (.int il5_72), .val (.int il6_72), .val (.int il7_72), .val (.int il8_72), .val (.int il9_72), .val (.double dl10_72), .second, .val (.int il7_72), .val (.ref b68), .unset, .unset] [])
          refine own_step (fun _ => XS.aload X70.here hx rfl (hb hby at_171) rfl rfl) ?_
          show own_Ends p e below s _ _ _ T70 (mkF m 173 #[.val (.int i0), .val (.int i1), .val (.int i2), .val (.int i3), .val (.int (3 : Int32)), .val (.int il5_72), .val (.int il6_72), .val (.int il7_72), .val (.int il8_72), .val (.int il9_72), .val (.double dl10_72), .second, .val (.int il7_72), .val (.ref b68), .unset, .unset] [(.ref b68)])
          refine own_step (fun _ => XS.iconst X70.here hx rfl (hb hby at_173)) ?_
          show own_Ends p e below s _ _ _ T70 (mkF m 174 #[.val (.int i0), .val (.int i1), .val (.int i2), .val (.int i3), .val (.int (3 : Int32)), .val (.int il5_72), .val (.int il6_72), .val (.int il7_72), .val (.int il8_72), .val (.int il9_72), .val (.double dl10_72), .second, .val (.int il7_72), .val (.ref b68), .unset, .unset] [(.int (2 : Int32)), (.ref b68)])
          refine own_step (fun _ => XS.iload X70.here hx rfl (hb hby at_174) rfl) ?_
          show own_Ends p e below s _ _ _ T70 (mkF m 176 #[.val (.int i0), .val (.int i1), .val (.int i2), .val (.int i3), .val (.int (3 : Int32)), .val (.int il5_72), .val (.int il6_72), .val (.int il7_72), .val (.int il8_72), .val (.int il9_72), .val (.double dl10_72), .second, .val (.int il7_72), .val (.ref b68), .unset, .unset] [(.int il7_72), (.int (2 : Int32)), (.ref b68)])
          refine own_step (fun _ => XS.i2dS X70.here hx rfl (hb hby at_176) rfl rfl) ?_
          show own_Ends p e below s _ _ _ T70 (mkF m 177 #[.val (.int i0), .val (.int i1), .val (.int i2), .val (.int i3), .val (.int (3 : Int32)), .val (.int il5_72), .val (.int il6_72), .val (.int il7_72), .val (.int il8_72), .val (.int il9_72), .val (.double dl10_72), .second, .val (.int il7_72), .val (.ref b68), .unset, .unset] [(.double (FP.i2d il7_72)), (.int (2 : Int32)), (.ref b68)])
          obtain ⟨cl71, Ar71, q71, S71, N71_, H71, G71⟩ := id V70
          have hin71 : ¬ ((2 : Int32) < 0 ∨ cl71.slots.size ≤ ((2 : Int32)).toNatClampNeg) := inb_of S71 ⟨by decide, by decide⟩
          obtain ⟨T71, h71, X71, e71, W71, st71⟩ := stD X70 hx hZ e70 Ar71 (j := (2 : Int32)) hin71 (g := (mkF m 177 #[.val (.int i0), .val (.int i1), .val (.int i2), .val (.int i3), .val (.int (3 : Int32)), .val (.int il5_72), .val (.int il6_72), .val (.int il7_72), .val (.int il8_72), .val (.int il9_72), .val (.double dl10_72), .second, .val (.int il7_72), .val (.ref b68), .unset, .unset] [(.double (FP.i2d il7_72)), (.int (2 : Int32)), (.ref b68)])) rfl rfl (hb hby at_177)
          have V71 : Arv Z h71 b68 k68 .double (3 : Int32) [(.double (FP.i2d il5_72)), (.double (FP.i2d il6_72)), (.double (FP.i2d il7_72))] (.double 0) := Arv.set Ar71 q71 S71 N71_ H71 G71 rfl W71 2 rfl (Nat.le_of_ble_eq_true rfl)
          have Zs71 : n0 ≤ h71.size := (by rw [W71.size]; exact Zs70)
          have N71 := Fr.snoc X71 N70 g_b68
          refine own_step st71 ?_
          show own_Ends p e below s _ _ _ T71 (mkF m 178 #[.val (.int i0), .val (.int i1), .val (.int i2), .val (.int i3), .val (.int (3 : Int32)), .val (.int il5_72), .val (.int il6_72), .val (.int il7_72), .val (.int il8_72), .val (.int il9_72), .val (.double dl10_72), .second, .val (.int il7_72), .val (.ref b68), .unset, .unset] [])
          refine own_step (fun _ => XS.iload X71.here hx rfl (hb hby at_178) rfl) ?_
          show own_Ends p e below s _ _ _ T71 (mkF m 180 #[.val (.int i0), .val (.int i1), .val (.int i2), .val (.int i3), .val (.int (3 : Int32)), .val (.int il5_72), .val (.int il6_72), .val (.int il7_72), .val (.int il8_72), .val (.int il9_72), .val (.double dl10_72), .second, .val (.int il7_72), .val (.ref b68), .unset, .unset] [(.int (3 : Int32))])
          refine own_step (fun _ => XS.iconst X71.here hx rfl (hb hby at_180)) ?_
          show own_Ends p e below s _ _ _ T71 (mkF m 181 #[.val (.int i0), .val (.int i1), .val (.int i2), .val (.int i3), .val (.int (3 : Int32)), .val (.int il5_72), .val (.int il6_72), .val (.int il7_72), .val (.int il8_72), .val (.int il9_72), .val (.double dl10_72), .second, .val (.int il7_72), .val (.ref b68), .unset, .unset] [(.int (3 : Int32)), (.int (3 : Int32))])
          refine own_step (fun _ => XS.icmpYes X71.here hx rfl (pc0 := 181) (pc' := 191) rfl (hb hby at_181) rfl (flt (show ¬ ((3 : Int32) < (3 : Int32)) from (by decide))).2.2.2 (by decide) (by decide)) ?_
          show own_Ends p e below s _ _ _ T71 (mkF m 191 #[.val (.int i0), .val (.int i1), .val (.int i2), .val (.int i3), .val (.int (3 : Int32)), .val (.int il5_72), .val (.int il6_72), .val (.int il7_72), .val (.int il8_72), .val (.int il9_72), .val (.double dl10_72), .second, .val (.int il7_72), .val (.ref b68), .unset, .unset] [])
          refine own_step (fun _ => XS.iload X71.here hx rfl (hb hby at_191) rfl) ?_
          show own_Ends p e below s _ _ _ T71 (mkF m 193 #[.val (.int i0), .val (.int i1), .val (.int i2), .val (.int i3), .val (.int (3 : Int32)), .val (.int il5_72), .val (.int il6_72), .val (.int il7_72), .val (.int il8_72), .val (.int il9_72), .val (.double dl10_72), .second, .val (.int il7_72), .val (.ref b68), .unset, .unset] [(.int (3 : Int32))])
          refine own_step (fun _ => XS.iconst X71.here hx rfl (hb hby at_193)) ?_
          show own_Ends p e below s _ _ _ T71 (mkF m 194 #[.val (.int i0), .val (.int i1), .val (.int i2), .val (.int i3), .val (.int (3 : Int32)), .val (.int il5_72), .val (.int il6_72), .val (.int il7_72), .val (.int il8_72), .val (.int il9_72), .val (.double dl10_72), .second, .val (.int il7_72), .val (.ref b68), .unset, .unset] [(.int (4 : Int32)), (.int (3 : Int32))])
          refine own_step (fun _ => XS.icmpYes X71.here hx rfl (pc0 := 194) (pc' := 204) rfl (hb hby at_194) rfl (flt (show ¬ ((4 : Int32) < (3 : Int32)) from (by decide))).2.2.2 (by decide) (by decide)) ?_
          show own_Ends p e below s _ _ _ T71 (mkF m 204 #[.val (.int i0), .val (.int i1), .val (.int i2), .val (.int i3), .val (.int (3 : Int32)), .val (.int il5_72), .val (.int il6_72), .val (.int il7_72), .val (.int il8_72), .val (.int il9_72), .val (.double dl10_72), .second, .val (.int il7_72), .val (.ref b68), .unset, .unset] [])
          refine own_step (fun _ => XS.iconst X71.here hx rfl (hb hby at_204)) ?_
          show own_Ends p e below s _ _ _ T71 (mkF m 205 #[.val (.int i0), .val (.int i1), .val (.int i2), .val (.int i3), .val (.int (3 : Int32)), .val (.int il5_72), .val (.int il6_72), .val (.int il7_72), .val (.int il8_72), .val (.int il9_72), .val (.double dl10_72), .second, .val (.int il7_72), .val (.ref b68), .unset, .unset] [(.int (1 : Int32))])
          refine own_step (fun _ => XS.iload X71.here hx rfl (hb hby at_205) rfl) ?_
          show own_Ends p e below s _ _ _ T71 (mkF m 207 #[.val (.int i0), .val (.int i1), .val (.int i2), .val (.int i3), .val (.int (3 : Int32)), .val (.int il5_72), .val (.int il6_72), .val (.int il7_72), .val (.int il8_72), .val (.int il9_72), .val (.double dl10_72), .second, .val (.int il7_72), .val (.ref b68), .unset, .unset] [(.int il5_72), (.int (1 : Int32))])
          refine own_step (fun _ => XS.dload X71.here hx rfl (hb hby at_207) rfl) ?_
          show own_Ends p e below s _ _ _ T71 (mkF m 209 #[.val (.int i0), .val (.int i1), .val (.int i2), .val (.int i3), .val (.int (3 : Int32)), .val (.int il5_72), .val (.int il6_72), .val (.int il7_72), .val (.int il8_72), .val (.int il9_72), .val (.double dl10_72), .second, .val (.int il7_72), .val (.ref b68), .unset, .unset] [(.double dl10_72), (.int il5_72), (.int (1 : Int32))])
          obtain ⟨_, _, ⟨T72, L72, k72, n72⟩, -, X72, ⟨Lc72, hQ72, l72, y72, z72⟩, st72⟩ := Jvm.LawKit.callS X71 hx (y := (⟨"com/example/graded_queue/gradedqueue/sim/CumulativeFirstAbovePinLaw", "le", "(ZID)I"⟩ : MethodName)) hown (mvT hZ (hw _ (List.mem_of_getElem? (i := 3) rfl))) (mvT hZ (hw _ (List.mem_of_getElem? (i := 4) rfl))) (mvT hZ (hw _ (List.mem_of_getElem? (i := 5) rfl))) (mvT hZ (hw _ (List.mem_of_getElem? (i := 6) rfl))) (by decide) (backOf (W := 0) (rm1 l Z a0 hw [] (1 : Int32) il5_72 dl10_72 h71 n0 Zs71) hZ (hw _ (List.mem_of_getElem? (i := 6) rfl)) (hw _ (List.mem_of_getElem? (i := 5) rfl)) (by decide) (by decide)) (g := (mkF m 209 #[.val (.int i0), .val (.int i1), .val (.int i2), .val (.int i3), .val (.int (3 : Int32)), .val (.int il5_72), .val (.int il6_72), .val (.int il7_72), .val (.int il8_72), .val (.int il9_72), .val (.double dl10_72), .second, .val (.int il7_72), .val (.ref b68), .unset, .unset] [(.double dl10_72), (.int il5_72), (.int (1 : Int32))])) rfl (by rw [hml]; rfl) (argsL := [(.int (1 : Int32)), (.int il5_72), (.double dl10_72)]) (rest := []) (lenOf pd_0 rfl) rfl (by show 2 * 0 + _ ≤ _; exact Nat.le_of_eq rfl) (hb hby at_209) (fun _ _ => ⟨rfl, e71, (by decide : 1 + 0 ≤ _), (by decide : 3 + 0 ≤ _)⟩)
          dsimp only [Pt.U, Pt.locs, Pt.cells, Pt.slots] at X72 l72 y72 z72 st72 hQ72
          subst l72 y72 z72
          obtain ⟨rfl, N72q, hh72⟩ := hQ72
          have N72 := Fr.app N71 N72q
          refine own_step st72 ?_
          show own_Ends p e below s _ _ _ T72 (mkF m 212 #[.val (.int i0), .val (.int i1), .val (.int i2), .val (.int i3), .val (.int (3 : Int32)), .val (.int il5_72), .val (.int il6_72), .val (.int il7_72), .val (.int il8_72), .val (.int il9_72), .val (.double dl10_72), .second, .val (.int il7_72), .val (.ref b68), .unset, .unset] [(.int (f1_0 (1 : Int32) il5_72 dl10_72))])
          refine own_step (fun _ => XS.iload X72.here hx rfl (hb hby at_212) rfl) ?_
          show own_Ends p e below s _ _ _ T72 (mkF m 214 #[.val (.int i0), .val (.int i1), .val (.int i2), .val (.int i3), .val (.int (3 : Int32)), .val (.int il5_72), .val (.int il6_72), .val (.int il7_72), .val (.int il8_72), .val (.int il9_72), .val (.double dl10_72), .second, .val (.int il7_72), .val (.ref b68), .unset, .unset] [(.int (3 : Int32)), (.int (f1_0 (1 : Int32) il5_72 dl10_72))])
          refine own_step (fun _ => XS.iconst X72.here hx rfl (hb hby at_214)) ?_
          show own_Ends p e below s _ _ _ T72 (mkF m 215 #[.val (.int i0), .val (.int i1), .val (.int i2), .val (.int i3), .val (.int (3 : Int32)), .val (.int il5_72), .val (.int il6_72), .val (.int il7_72), .val (.int il8_72), .val (.int il9_72), .val (.double dl10_72), .second, .val (.int il7_72), .val (.ref b68), .unset, .unset] [(.int (1 : Int32)), (.int (3 : Int32)), (.int (f1_0 (1 : Int32) il5_72 dl10_72))])
          refine own_step (fun _ => XS.icmpNo X72.here hx rfl (hb hby at_215) rfl (tlt (show (1 : Int32) < (3 : Int32) from (by decide))).2.2.2) ?_
          show own_Ends p e below s _ _ _ T72 (mkF m 218 #[.val (.int i0), .val (.int i1), .val (.int i2), .val (.int i3), .val (.int (3 : Int32)), .val (.int il5_72), .val (.int il6_72), .val (.int il7_72), .val (.int il8_72), .val (.int il9_72), .val (.double dl10_72), .second, .val (.int il7_72), .val (.ref b68), .unset, .unset] [(.int (f1_0 (1 : Int32) il5_72 dl10_72))])
          refine own_step (fun _ => XS.iconst X72.here hx rfl (hb hby at_218)) ?_
          show own_Ends p e below s _ _ _ T72 (mkF m 219 #[.val (.int i0), .val (.int i1), .val (.int i2), .val (.int i3), .val (.int (3 : Int32)), .val (.int il5_72), .val (.int il6_72), .val (.int il7_72), .val (.int il8_72), .val (.int il9_72), .val (.double dl10_72), .second, .val (.int il7_72), .val (.ref b68), .unset, .unset] [(.int (1 : Int32)), (.int (f1_0 (1 : Int32) il5_72 dl10_72))])
          refine own_step (fun _ => XS.goto X72.here hx rfl (pc0 := 219) (pc' := 223) rfl (hb hby at_219) (by decide) (by decide)) ?_
          show own_Ends p e below s _ _ _ T72 (mkF m 223 #[.val (.int i0), .val (.int i1), .val (.int i2), .val (.int i3), .val (.int (3 : Int32)), .val (.int il5_72), .val (.int il6_72), .val (.int il7_72), .val (.int il8_72), .val (.int il9_72), .val (.double dl10_72), .second, .val (.int il7_72), .val (.ref b68), .unset, .unset] [(.int (1 : Int32)), (.int (f1_0 (1 : Int32) il5_72 dl10_72))])
          refine own_step (fun _ => XS.iload X72.here hx rfl (hb hby at_223) rfl) ?_
          show own_Ends p e below s _ _ _ T72 (mkF m 225 #[.val (.int i0), .val (.int i1), .val (.int i2), .val (.int i3), .val (.int (3 : Int32)), .val (.int il5_72), .val (.int il6_72), .val (.int il7_72), .val (.int il8_72), .val (.int il9_72), .val (.double dl10_72), .second, .val (.int il7_72), .val (.ref b68), .unset, .unset] [(.int il6_72), (.int (1 : Int32)), (.int (f1_0 (1 : Int32) il5_72 dl10_72))])
          refine own_step (fun _ => XS.dload X72.here hx rfl (hb hby at_225) rfl) ?_
          show own_Ends p e below s _ _ _ T72 (mkF m 227 #[.val (.int i0), .val (.int i1), .val (.int i2), .val (.int i3), .val (.int (3 : Int32)), .val (.int il5_72), .val (.int il6_72), .val (.int il7_72), .val (.int il8_72), .val (.int il9_72), .val (.double dl10_72), .second, .val (.int il7_72), .val (.ref b68), .unset, .unset] [(.double dl10_72), (.int il6_72), (.int (1 : Int32)), (.int (f1_0 (1 : Int32) il5_72 dl10_72))])
          obtain ⟨_, _, ⟨T73, L73, k73, n73⟩, -, X73, ⟨Lc73, hQ73, l73, y73, z73⟩, st73⟩ := Jvm.LawKit.callS X72 hx (y := (⟨"com/example/graded_queue/gradedqueue/sim/CumulativeFirstAbovePinLaw", "le", "(ZID)I"⟩ : MethodName)) hown (mvT hZ (hw _ (List.mem_of_getElem? (i := 3) rfl))) (mvT hZ (hw _ (List.mem_of_getElem? (i := 4) rfl))) (mvT hZ (hw _ (List.mem_of_getElem? (i := 5) rfl))) (mvT hZ (hw _ (List.mem_of_getElem? (i := 6) rfl))) (by decide) (backOf (W := 1) (rm1 l Z a0 hw [] (1 : Int32) il6_72 dl10_72 h71 n0 Zs71) hZ (hw _ (List.mem_of_getElem? (i := 6) rfl)) (hw _ (List.mem_of_getElem? (i := 5) rfl)) (by decide) (by decide)) (g := (mkF m 227 #[.val (.int i0), .val (.int i1), .val (.int i2), .val (.int i3), .val (.int (3 : Int32)), .val (.int il5_72), .val (.int il6_72), .val (.int il7_72), .val (.int il8_72), .val (.int il9_72), .val (.double dl10_72), .second, .val (.int il7_72), .val (.ref b68), .unset, .unset] [(.double dl10_72), (.int il6_72), (.int (1 : Int32)), (.int (f1_0 (1 : Int32) il5_72 dl10_72))])) rfl (by rw [hml]; rfl) (argsL := [(.int (1 : Int32)), (.int il6_72), (.double dl10_72)]) (rest := [(.int (f1_0 (1 : Int32) il5_72 dl10_72))]) (lenOf pd_0 rfl) rfl (by show 2 * 0 + _ ≤ _; exact Nat.le_of_eq rfl) (hb hby at_227) (fun _ _ => ⟨rfl, hh72, (by decide : 1 + 0 ≤ _), (by decide : 3 + 0 ≤ _)⟩)
          dsimp only [Pt.U, Pt.locs, Pt.cells, Pt.slots] at X73 l73 y73 z73 st73 hQ73
          subst l73 y73 z73
          obtain ⟨rfl, N73q, hh73⟩ := hQ73
          have N73 := Fr.app N72 N73q
          refine own_step st73 ?_
          show own_Ends p e below s _ _ _ T73 (mkF m 230 #[.val (.int i0), .val (.int i1), .val (.int i2), .val (.int i3), .val (.int (3 : Int32)), .val (.int il5_72), .val (.int il6_72), .val (.int il7_72), .val (.int il8_72), .val (.int il9_72), .val (.double dl10_72), .second, .val (.int il7_72), .val (.ref b68), .unset, .unset] [(.int (f1_0 (1 : Int32) il6_72 dl10_72)), (.int (f1_0 (1 : Int32) il5_72 dl10_72))])
          refine own_step (fun _ => XS.iadd X73.here hx rfl (hb hby at_230) rfl) ?_
          show own_Ends p e below s _ _ _ T73 (mkF m 231 #[.val (.int i0), .val (.int i1), .val (.int i2), .val (.int i3), .val (.int (3 : Int32)), .val (.int il5_72), .val (.int il6_72), .val (.int il7_72), .val (.int il8_72), .val (.int il9_72), .val (.double dl10_72), .second, .val (.int il7_72), .val (.ref b68), .unset, .unset] [(.int ((f1_0 (1 : Int32) il5_72 dl10_72) + (f1_0 (1 : Int32) il6_72 dl10_72)))])
          refine own_step (fun _ => XS.iload X73.here hx rfl (hb hby at_231) rfl) ?_
          show own_Ends p e below s _ _ _ T73 (mkF m 233 #[.val (.int i0), .val (.int i1), .val (.int i2), .val (.int i3), .val (.int (3 : Int32)), .val (.int il5_72), .val (.int il6_72), .val (.int il7_72), .val (.int il8_72), .val (.int il9_72), .val (.double dl10_72), .second, .val (.int il7_72), .val (.ref b68), .unset, .unset] [(.int (3 : Int32)), (.int ((f1_0 (1 : Int32) il5_72 dl10_72) + (f1_0 (1 : Int32) il6_72 dl10_72)))])
          refine own_step (fun _ => XS.iconst X73.here hx rfl (hb hby at_233)) ?_
          show own_Ends p e below s _ _ _ T73 (mkF m 234 #[.val (.int i0), .val (.int i1), .val (.int i2), .val (.int i3), .val (.int (3 : Int32)), .val (.int il5_72), .val (.int il6_72), .val (.int il7_72), .val (.int il8_72), .val (.int il9_72), .val (.double dl10_72), .second, .val (.int il7_72), .val (.ref b68), .unset, .unset] [(.int (2 : Int32)), (.int (3 : Int32)), (.int ((f1_0 (1 : Int32) il5_72 dl10_72) + (f1_0 (1 : Int32) il6_72 dl10_72)))])
          refine own_step (fun _ => XS.icmpNo X73.here hx rfl (hb hby at_234) rfl (tlt (show (2 : Int32) < (3 : Int32) from (by decide))).2.2.2) ?_
          show own_Ends p e below s _ _ _ T73 (mkF m 237 #[.val (.int i0), .val (.int i1), .val (.int i2), .val (.int i3), .val (.int (3 : Int32)), .val (.int il5_72), .val (.int il6_72), .val (.int il7_72), .val (.int il8_72), .val (.int il9_72), .val (.double dl10_72), .second, .val (.int il7_72), .val (.ref b68), .unset, .unset] [(.int ((f1_0 (1 : Int32) il5_72 dl10_72) + (f1_0 (1 : Int32) il6_72 dl10_72)))])
          refine own_step (fun _ => XS.iconst X73.here hx rfl (hb hby at_237)) ?_
          show own_Ends p e below s _ _ _ T73 (mkF m 238 #[.val (.int i0), .val (.int i1), .val (.int i2), .val (.int i3), .val (.int (3 : Int32)), .val (.int il5_72), .val (.int il6_72), .val (.int il7_72), .val (.int il8_72), .val (.int il9_72), .val (.double dl10_72), .second, .val (.int il7_72), .val (.ref b68), .unset, .unset] [(.int (1 : Int32)), (.int ((f1_0 (1 : Int32) il5_72 dl10_72) + (f1_0 (1 : Int32) il6_72 dl10_72)))])
          refine own_step (fun _ => XS.goto X73.here hx rfl (pc0 := 238) (pc' := 242) rfl (hb hby at_238) (by decide) (by decide)) ?_
          show own_Ends p e below s _ _ _ T73 (mkF m 242 #[.val (.int i0), .val (.int i1), .val (.int i2), .val (.int i3), .val (.int (3 : Int32)), .val (.int il5_72), .val (.int il6_72), .val (.int il7_72), .val (.int il8_72), .val (.int il9_72), .val (.double dl10_72), .second, .val (.int il7_72), .val (.ref b68), .unset, .unset] [(.int (1 : Int32)), (.int ((f1_0 (1 : Int32) il5_72 dl10_72) + (f1_0 (1 : Int32) il6_72 dl10_72)))])
          refine own_step (fun _ => XS.iload X73.here hx rfl (hb hby at_242) rfl) ?_
          show own_Ends p e below s _ _ _ T73 (mkF m 244 #[.val (.int i0), .val (.int i1), .val (.int i2), .val (.int i3), .val (.int (3 : Int32)), .val (.int il5_72), .val (.int il6_72), .val (.int il7_72), .val (.int il8_72), .val (.int il9_72), .val (.double dl10_72), .second, .val (.int il7_72), .val (.ref b68), .unset, .unset] [(.int il7_72), (.int (1 : Int32)), (.int ((f1_0 (1 : Int32) il5_72 dl10_72) + (f1_0 (1 : Int32) il6_72 dl10_72)))])
          refine own_step (fun _ => XS.dload X73.here hx rfl (hb hby at_244) rfl) ?_
          show own_Ends p e below s _ _ _ T73 (mkF m 246 #[.val (.int i0), .val (.int i1), .val (.int i2), .val (.int i3), .val (.int (3 : Int32)), .val (.int il5_72), .val (.int il6_72), .val (.int il7_72), .val (.int il8_72), .val (.int il9_72), .val (.double dl10_72), .second, .val (.int il7_72), .val (.ref b68), .unset, .unset] [(.double dl10_72), (.int il7_72), (.int (1 : Int32)), (.int ((f1_0 (1 : Int32) il5_72 dl10_72) + (f1_0 (1 : Int32) il6_72 dl10_72)))])
          obtain ⟨_, _, ⟨T74, L74, k74, n74⟩, -, X74, ⟨Lc74, hQ74, l74, y74, z74⟩, st74⟩ := Jvm.LawKit.callS X73 hx (y := (⟨"com/example/graded_queue/gradedqueue/sim/CumulativeFirstAbovePinLaw", "le", "(ZID)I"⟩ : MethodName)) hown (mvT hZ (hw _ (List.mem_of_getElem? (i := 3) rfl))) (mvT hZ (hw _ (List.mem_of_getElem? (i := 4) rfl))) (mvT hZ (hw _ (List.mem_of_getElem? (i := 5) rfl))) (mvT hZ (hw _ (List.mem_of_getElem? (i := 6) rfl))) (by decide) (backOf (W := 1) (rm1 l Z a0 hw [] (1 : Int32) il7_72 dl10_72 h71 n0 Zs71) hZ (hw _ (List.mem_of_getElem? (i := 6) rfl)) (hw _ (List.mem_of_getElem? (i := 5) rfl)) (by decide) (by decide)) (g := (mkF m 246 #[.val (.int i0), .val (.int i1), .val (.int i2), .val (.int i3), .val (.int (3 : Int32)), .val (.int il5_72), .val (.int il6_72), .val (.int il7_72), .val (.int il8_72), .val (.int il9_72), .val (.double dl10_72), .second, .val (.int il7_72), .val (.ref b68), .unset, .unset] [(.double dl10_72), (.int il7_72), (.int (1 : Int32)), (.int ((f1_0 (1 : Int32) il5_72 dl10_72) + (f1_0 (1 : Int32) il6_72 dl10_72)))])) rfl (by rw [hml]; rfl) (argsL := [(.int (1 : Int32)), (.int il7_72), (.double dl10_72)]) (rest := [(.int ((f1_0 (1 : Int32) il5_72 dl10_72) + (f1_0 (1 : Int32) il6_72 dl10_72)))]) (lenOf pd_0 rfl) rfl (by show 2 * 0 + _ ≤ _; exact Nat.le_of_eq rfl) (hb hby at_246) (fun _ _ => ⟨rfl, hh73, (by decide : 1 + 0 ≤ _), (by decide : 3 + 0 ≤ _)⟩)
          dsimp only [Pt.U, Pt.locs, Pt.cells, Pt.slots] at X74 l74 y74 z74 st74 hQ74
          subst l74 y74 z74
          obtain ⟨rfl, N74q, hh74⟩ := hQ74
          have N74 := Fr.app N73 N74q
          refine own_step st74 ?_
          show own_Ends p e below s _ _ _ T74 (mkF m 249 #[.val (.int i0), .val (.int i1), .val (.int i2), .val (.int i3), .val (.int (3 : Int32)), .val (.int il5_72), .val (.int il6_72), .val (.int il7_72), .val (.int il8_72), .val (.int il9_72), .val (.double dl10_72), .second, .val (.int il7_72), .val (.ref b68), .unset, .unset] [(.int (f1_0 (1 : Int32) il7_72 dl10_72)), (.int ((f1_0 (1 : Int32) il5_72 dl10_72) + (f1_0 (1 : Int32) il6_72 dl10_72)))])
          refine own_step (fun _ => XS.iadd X74.here hx rfl (hb hby at_249) rfl) ?_
          show own_Ends p e below s _ _ _ T74 (mkF m 250 #[.val (.int i0), .val (.int i1), .val (.int i2), .val (.int i3), .val (.int (3 : Int32)), .val (.int il5_72), .val (.int il6_72), .val (.int il7_72), .val (.int il8_72), .val (.int il9_72), .val (.double dl10_72), .second, .val (.int il7_72), .val (.ref b68), .unset, .unset] [(.int (((f1_0 (1 : Int32) il5_72 dl10_72) + (f1_0 (1 : Int32) il6_72 dl10_72)) + (f1_0 (1 : Int32) il7_72 dl10_72)))])
          refine own_step (fun _ => XS.iload X74.here hx rfl (hb hby at_250) rfl) ?_
          show own_Ends p e below s _ _ _ T74 (mkF m 252 #[.val (.int i0), .val (.int i1), .val (.int i2), .val (.int i3), .val (.int (3 : Int32)), .val (.int il5_72), .val (.int il6_72), .val (.int il7_72), .val (.int il8_72), .val (.int il9_72), .val (.double dl10_72), .second, .val (.int il7_72), .val (.ref b68), .unset, .unset] [(.int (3 : Int32)), (.int (((f1_0 (1 : Int32) il5_72 dl10_72) + (f1_0 (1 : Int32) il6_72 dl10_72)) + (f1_0 (1 : Int32) il7_72 dl10_72)))])
          refine own_step (fun _ => XS.iconst X74.here hx rfl (hb hby at_252)) ?_
          show own_Ends p e below s _ _ _ T74 (mkF m 253 #[.val (.int i0), .val (.int i1), .val (.int i2), .val (.int i3), .val (.int (3 : Int32)), .val (.int il5_72), .val (.int il6_72), .val (.int il7_72), .val (.int il8_72), .val (.int il9_72), .val (.double dl10_72), .second, .val (.int il7_72), .val (.ref b68), .unset, .unset] [(.int (3 : Int32)), (.int (3 : Int32)), (.int (((f1_0 (1 : Int32) il5_72 dl10_72) + (f1_0 (1 : Int32) il6_72 dl10_72)) + (f1_0 (1 : Int32) il7_72 dl10_72)))])
          refine own_step (fun _ => XS.icmpYes X74.here hx rfl (pc0 := 253) (pc' := 260) rfl (hb hby at_253) rfl (flt (show ¬ ((3 : Int32) < (3 : Int32)) from (by decide))).2.2.2 (by decide) (by decide)) ?_
          show own_Ends p e below s _ _ _ T74 (mkF m 260 #[.val (.int i0), .val (.int i1), .val (.int i2), .val (.int i3), .val (.int (3 : Int32)), .val (.int il5_72), .val (.int il6_72), .val (.int il7_72), .val (.int il8_72), .val (.int il9_72), .val (.double dl10_72), .second, .val (.int il7_72), .val (.ref b68), .unset, .unset] [(.int (((f1_0 (1 : Int32) il5_72 dl10_72) + (f1_0 (1 : Int32) il6_72 dl10_72)) + (f1_0 (1 : Int32) il7_72 dl10_72)))])
          refine own_step (fun _ => XS.iconst X74.here hx rfl (hb hby at_260)) ?_
          show own_Ends p e below s _ _ _ T74 (mkF m 261 #[.val (.int i0), .val (.int i1), .val (.int i2), .val (.int i3), .val (.int (3 : Int32)), .val (.int il5_72), .val (.int il6_72), .val (.int il7_72), .val (.int il8_72), .val (.int il9_72), .val (.double dl10_72), .second, .val (.int il7_72), .val (.ref b68), .unset, .unset] [(.int (0 : Int32)), (.int (((f1_0 (1 : Int32) il5_72 dl10_72) + (f1_0 (1 : Int32) il6_72 dl10_72)) + (f1_0 (1 : Int32) il7_72 dl10_72)))])
          refine own_step (fun _ => XS.iload X74.here hx rfl (hb hby at_261) rfl) ?_
          show own_Ends p e below s _ _ _ T74 (mkF m 263 #[.val (.int i0), .val (.int i1), .val (.int i2), .val (.int i3), .val (.int (3 : Int32)), .val (.int il5_72), .val (.int il6_72), .val (.int il7_72), .val (.int il8_72), .val (.int il9_72), .val (.double dl10_72), .second, .val (.int il7_72), .val (.ref b68), .unset, .unset] [(.int il8_72), (.int (0 : Int32)), (.int (((f1_0 (1 : Int32) il5_72 dl10_72) + (f1_0 (1 : Int32) il6_72 dl10_72)) + (f1_0 (1 : Int32) il7_72 dl10_72)))])
          refine own_step (fun _ => XS.dload X74.here hx rfl (hb hby at_263) rfl) ?_
          show own_Ends p e below s _ _ _ T74 (mkF m 265 #[.val (.int i0), .val (.int i1), .val (.int i2), .val (.int i3), .val (.int (3 : Int32)), .val (.int il5_72), .val (.int il6_72), .val (.int il7_72), .val (.int il8_72), .val (.int il9_72), .val (.double dl10_72), .second, .val (.int il7_72), .val (.ref b68), .unset, .unset] [(.double dl10_72), (.int il8_72), (.int (0 : Int32)), (.int (((f1_0 (1 : Int32) il5_72 dl10_72) + (f1_0 (1 : Int32) il6_72 dl10_72)) + (f1_0 (1 : Int32) il7_72 dl10_72)))])
          obtain ⟨_, _, ⟨T75, L75, k75, n75⟩, -, X75, ⟨Lc75, hQ75, l75, y75, z75⟩, st75⟩ := Jvm.LawKit.callS X74 hx (y := (⟨"com/example/graded_queue/gradedqueue/sim/CumulativeFirstAbovePinLaw", "le", "(ZID)I"⟩ : MethodName)) hown (mvT hZ (hw _ (List.mem_of_getElem? (i := 3) rfl))) (mvT hZ (hw _ (List.mem_of_getElem? (i := 4) rfl))) (mvT hZ (hw _ (List.mem_of_getElem? (i := 5) rfl))) (mvT hZ (hw _ (List.mem_of_getElem? (i := 6) rfl))) (by decide) (backOf (W := 1) (rm1 l Z a0 hw [] (0 : Int32) il8_72 dl10_72 h71 n0 Zs71) hZ (hw _ (List.mem_of_getElem? (i := 6) rfl)) (hw _ (List.mem_of_getElem? (i := 5) rfl)) (by decide) (by decide)) (g := (mkF m 265 #[.val (.int i0), .val (.int i1), .val (.int i2), .val (.int i3), .val (.int (3 : Int32)), .val (.int il5_72), .val (.int il6_72), .val (.int il7_72), .val (.int il8_72), .val (.int il9_72), .val (.double dl10_72), .second, .val (.int il7_72), .val (.ref b68), .unset, .unset] [(.double dl10_72), (.int il8_72), (.int (0 : Int32)), (.int (((f1_0 (1 : Int32) il5_72 dl10_72) + (f1_0 (1 : Int32) il6_72 dl10_72)) + (f1_0 (1 : Int32) il7_72 dl10_72)))])) rfl (by rw [hml]; rfl) (argsL := [(.int (0 : Int32)), (.int il8_72), (.double dl10_72)]) (rest := [(.int (((f1_0 (1 : Int32) il5_72 dl10_72) + (f1_0 (1 : Int32) il6_72 dl10_72)) + (f1_0 (1 : Int32) il7_72 dl10_72)))]) (lenOf pd_0 rfl) rfl (by show 2 * 0 + _ ≤ _; exact Nat.le_of_eq rfl) (hb hby at_265) (fun _ _ => ⟨rfl, hh74, (by decide : 1 + 0 ≤ _), (by decide : 3 + 0 ≤ _)⟩)
          dsimp only [Pt.U, Pt.locs, Pt.cells, Pt.slots] at X75 l75 y75 z75 st75 hQ75
          subst l75 y75 z75
          obtain ⟨rfl, N75q, hh75⟩ := hQ75
          have N75 := Fr.app N74 N75q
          refine own_step st75 ?_
          show own_Ends p e below s _ _ _ T75 (mkF m 268 #[.val (.int i0), .val (.int i1), .val (.int i2), .val (.int i3), .val (.int (3 : Int32)), .val (.int il5_72), .val (.int il6_72), .val (.int il7_72), .val (.int il8_72), .val (.int il9_72), .val (.double dl10_72), .second, .val (.int il7_72), .val (.ref b68), .unset, .unset] [(.int (f1_0 (0 : Int32) il8_72 dl10_72)), (.int (((f1_0 (1 : Int32) il5_72 dl10_72) + (f1_0 (1 : Int32) il6_72 dl10_72)) + (f1_0 (1 : Int32) il7_72 dl10_72)))])
          refine own_step (fun _ => XS.iadd X75.here hx rfl (hb hby at_268) rfl) ?_
          show own_Ends p e below s _ _ _ T75 (mkF m 269 #[.val (.int i0), .val (.int i1), .val (.int i2), .val (.int i3), .val (.int (3 : Int32)), .val (.int il5_72), .val (.int il6_72), .val (.int il7_72), .val (.int il8_72), .val (.int il9_72), .val (.double dl10_72), .second, .val (.int il7_72), .val (.ref b68), .unset, .unset] [(.int ((((f1_0 (1 : Int32) il5_72 dl10_72) + (f1_0 (1 : Int32) il6_72 dl10_72)) + (f1_0 (1 : Int32) il7_72 dl10_72)) + (f1_0 (0 : Int32) il8_72 dl10_72)))])
          refine own_step (fun _ => XS.iload X75.here hx rfl (hb hby at_269) rfl) ?_
          show own_Ends p e below s _ _ _ T75 (mkF m 271 #[.val (.int i0), .val (.int i1), .val (.int i2), .val (.int i3), .val (.int (3 : Int32)), .val (.int il5_72), .val (.int il6_72), .val (.int il7_72), .val (.int il8_72), .val (.int il9_72), .val (.double dl10_72), .second, .val (.int il7_72), .val (.ref b68), .unset, .unset] [(.int (3 : Int32)), (.int ((((f1_0 (1 : Int32) il5_72 dl10_72) + (f1_0 (1 : Int32) il6_72 dl10_72)) + (f1_0 (1 : Int32) il7_72 dl10_72)) + (f1_0 (0 : Int32) il8_72 dl10_72)))])
          refine own_step (fun _ => XS.iconst X75.here hx rfl (hb hby at_271)) ?_
          show own_Ends p e below s _ _ _ T75 (mkF m 272 #[.val (.int i0), .val (.int i1), .val (.int i2), .val (.int i3), .val (.int (3 : Int32)), .val (.int il5_72), .val (.int il6_72), .val (.int il7_72), .val (.int il8_72), .val (.int il9_72), .val (.double dl10_72), .second, .val (.int il7_72), .val (.ref b68), .unset, .unset] [(.int (4 : Int32)), (.int (3 : Int32)), (.int ((((f1_0 (1 : Int32) il5_72 dl10_72) + (f1_0 (1 : Int32) il6_72 dl10_72)) + (f1_0 (1 : Int32) il7_72 dl10_72)) + (f1_0 (0 : Int32) il8_72 dl10_72)))])
          refine own_step (fun _ => XS.icmpYes X75.here hx rfl (pc0 := 272) (pc' := 279) rfl (hb hby at_272) rfl (flt (show ¬ ((4 : Int32) < (3 : Int32)) from (by decide))).2.2.2 (by decide) (by decide)) ?_
          show own_Ends p e below s _ _ _ T75 (mkF m 279 #[.val (.int i0), .val (.int i1), .val (.int i2), .val (.int i3), .val (.int (3 : Int32)), .val (.int il5_72), .val (.int il6_72), .val (.int il7_72), .val (.int il8_72), .val (.int il9_72), .val (.double dl10_72), .second, .val (.int il7_72), .val (.ref b68), .unset, .unset] [(.int ((((f1_0 (1 : Int32) il5_72 dl10_72) + (f1_0 (1 : Int32) il6_72 dl10_72)) + (f1_0 (1 : Int32) il7_72 dl10_72)) + (f1_0 (0 : Int32) il8_72 dl10_72)))])
          refine own_step (fun _ => XS.iconst X75.here hx rfl (hb hby at_279)) ?_
          show own_Ends p e below s _ _ _ T75 (mkF m 280 #[.val (.int i0), .val (.int i1), .val (.int i2), .val (.int i3), .val (.int (3 : Int32)), .val (.int il5_72), .val (.int il6_72), .val (.int il7_72), .val (.int il8_72), .val (.int il9_72), .val (.double dl10_72), .second, .val (.int il7_72), .val (.ref b68), .unset, .unset] [(.int (0 : Int32)), (.int ((((f1_0 (1 : Int32) il5_72 dl10_72) + (f1_0 (1 : Int32) il6_72 dl10_72)) + (f1_0 (1 : Int32) il7_72 dl10_72)) + (f1_0 (0 : Int32) il8_72 dl10_72)))])
          refine own_step (fun _ => XS.iload X75.here hx rfl (hb hby at_280) rfl) ?_
          show own_Ends p e below s _ _ _ T75 (mkF m 282 #[.val (.int i0), .val (.int i1), .val (.int i2), .val (.int i3), .val (.int (3 : Int32)), .val (.int il5_72), .val (.int il6_72), .val (.int il7_72), .val (.int il8_72), .val (.int il9_72), .val (.double dl10_72), .second, .val (.int il7_72), .val (.ref b68), .unset, .unset] [(.int il9_72), (.int (0 : Int32)), (.int ((((f1_0 (1 : Int32) il5_72 dl10_72) + (f1_0 (1 : Int32) il6_72 dl10_72)) + (f1_0 (1 : Int32) il7_72 dl10_72)) + (f1_0 (0 : Int32) il8_72 dl10_72)))])
          refine own_step (fun _ => XS.dload X75.here hx rfl (hb hby at_282) rfl) ?_
          show own_Ends p e below s _ _ _ T75 (mkF m 284 #[.val (.int i0), .val (.int i1), .val (.int i2), .val (.int i3), .val (.int (3 : Int32)), .val (.int il5_72), .val (.int il6_72), .val (.int il7_72), .val (.int il8_72), .val (.int il9_72), .val (.double dl10_72), .second, .val (.int il7_72), .val (.ref b68), .unset, .unset] [(.double dl10_72), (.int il9_72), (.int (0 : Int32)), (.int ((((f1_0 (1 : Int32) il5_72 dl10_72) + (f1_0 (1 : Int32) il6_72 dl10_72)) + (f1_0 (1 : Int32) il7_72 dl10_72)) + (f1_0 (0 : Int32) il8_72 dl10_72)))])
          obtain ⟨_, _, ⟨T76, L76, k76, n76⟩, -, X76, ⟨Lc76, hQ76, l76, y76, z76⟩, st76⟩ := Jvm.LawKit.callS X75 hx (y := (⟨"com/example/graded_queue/gradedqueue/sim/CumulativeFirstAbovePinLaw", "le", "(ZID)I"⟩ : MethodName)) hown (mvT hZ (hw _ (List.mem_of_getElem? (i := 3) rfl))) (mvT hZ (hw _ (List.mem_of_getElem? (i := 4) rfl))) (mvT hZ (hw _ (List.mem_of_getElem? (i := 5) rfl))) (mvT hZ (hw _ (List.mem_of_getElem? (i := 6) rfl))) (by decide) (backOf (W := 1) (rm1 l Z a0 hw [] (0 : Int32) il9_72 dl10_72 h71 n0 Zs71) hZ (hw _ (List.mem_of_getElem? (i := 6) rfl)) (hw _ (List.mem_of_getElem? (i := 5) rfl)) (by decide) (by decide)) (g := (mkF m 284 #[.val (.int i0), .val (.int i1), .val (.int i2), .val (.int i3), .val (.int (3 : Int32)), .val (.int il5_72), .val (.int il6_72), .val (.int il7_72), .val (.int il8_72), .val (.int il9_72), .val (.double dl10_72), .second, .val (.int il7_72), .val (.ref b68), .unset, .unset] [(.double dl10_72), (.int il9_72), (.int (0 : Int32)), (.int ((((f1_0 (1 : Int32) il5_72 dl10_72) + (f1_0 (1 : Int32) il6_72 dl10_72)) + (f1_0 (1 : Int32) il7_72 dl10_72)) + (f1_0 (0 : Int32) il8_72 dl10_72)))])) rfl (by rw [hml]; rfl) (argsL := [(.int (0 : Int32)), (.int il9_72), (.double dl10_72)]) (rest := [(.int ((((f1_0 (1 : Int32) il5_72 dl10_72) + (f1_0 (1 : Int32) il6_72 dl10_72)) + (f1_0 (1 : Int32) il7_72 dl10_72)) + (f1_0 (0 : Int32) il8_72 dl10_72)))]) (lenOf pd_0 rfl) rfl (by show 2 * 0 + _ ≤ _; exact Nat.le_of_eq rfl) (hb hby at_284) (fun _ _ => ⟨rfl, hh75, (by decide : 1 + 0 ≤ _), (by decide : 3 + 0 ≤ _)⟩)
          dsimp only [Pt.U, Pt.locs, Pt.cells, Pt.slots] at X76 l76 y76 z76 st76 hQ76
          subst l76 y76 z76
          obtain ⟨rfl, N76q, hh76⟩ := hQ76
          have N76 := Fr.app N75 N76q
          refine own_step st76 ?_
          show own_Ends p e below s _ _ _ T76 (mkF m 287 #[.val (.int i0), .val (.int i1), .val (.int i2), .val (.int i3), .val (.int (3 : Int32)), .val (.int il5_72), .val (.int il6_72), .val (.int il7_72), .val (.int il8_72), .val (.int il9_72), .val (.double dl10_72), .second, .val (.int il7_72), .val (.ref b68), .unset, .unset] [(.int (f1_0 (0 : Int32) il9_72 dl10_72)), (.int ((((f1_0 (1 : Int32) il5_72 dl10_72) + (f1_0 (1 : Int32) il6_72 dl10_72)) + (f1_0 (1 : Int32) il7_72 dl10_72)) + (f1_0 (0 : Int32) il8_72 dl10_72)))])
          refine own_step (fun _ => XS.iadd X76.here hx rfl (hb hby at_287) rfl) ?_
          show own_Ends p e below s _ _ _ T76 (mkF m 288 #[.val (.int i0), .val (.int i1), .val (.int i2), .val (.int i3), .val (.int (3 : Int32)), .val (.int il5_72), .val (.int il6_72), .val (.int il7_72), .val (.int il8_72), .val (.int il9_72), .val (.double dl10_72), .second, .val (.int il7_72), .val (.ref b68), .unset, .unset] [(.int (((((f1_0 (1 : Int32) il5_72 dl10_72) + (f1_0 (1 : Int32) il6_72 dl10_72)) + (f1_0 (1 : Int32) il7_72 dl10_72)) + (f1_0 (0 : Int32) il8_72 dl10_72)) + (f1_0 (0 : Int32) il9_72 dl10_72)))])
          refine own_step (fun _ => XS.istore X76.here hx rfl (hb hby at_288) rfl (l' := #[.val (.int i0), .val (.int i1), .val (.int i2), .val (.int i3), .val (.int (3 : Int32)), .val (.int il5_72), .val (.int il6_72), .val (.int il7_72), .val (.int il8_72), .val (.int il9_72), .val (.double dl10_72), .second, .val (.int il7_72), .val (.ref b68), .val (.int (((((f1_0 (1 : Int32) il5_72 dl10_72) + (f1_0 (1 : Int32) il6_72 dl10_72)) + (f1_0 (1 : Int32) il7_72 dl10_72)) + (f1_0 (0 : Int32) il8_72 dl10_72)) + (f1_0 (0 : Int32) il9_72 dl10_72))), .unset]) rfl) ?_
          show own_Ends p e below s _ _ _ T76 (mkF m 290 #[.val (.int i0), .val (.int i1), .val (.int i2), .val (.int i3), .val (.int (3 : Int32)), .val (.int il5_72), .val (.int il6_72), .val (.int il7_72), .val (.int il8_72), .val (.int il9_72), .val (.double dl10_72), .second, .val (.int il7_72), .val (.ref b68), .val (.int (((((f1_0 (1 : Int32) il5_72 dl10_72) + (f1_0 (1 : Int32) il6_72 dl10_72)) + (f1_0 (1 : Int32) il7_72 dl10_72)) + (f1_0 (0 : Int32) il8_72 dl10_72)) + (f1_0 (0 : Int32) il9_72 dl10_72))), .unset] [])
          refine own_step (fun _ => XS.aload X76.here hx rfl (hb hby at_290) rfl rfl) ?_
          show own_Ends p e below s _ _ _ T76 (mkF m 292 #[.val (.int i0), .val (.int i1), .val (.int i2), .val (.int i3), .val (.int (3 : Int32)), .val (.int il5_72), .val (.int il6_72), .val (.int il7_72), .val (.int il8_72), .val (.int il9_72), .val (.double dl10_72), .second, .val (.int il7_72), .val (.ref b68), .val (.int (((((f1_0 (1 : Int32) il5_72 dl10_72) + (f1_0 (1 : Int32) il6_72 dl10_72)) + (f1_0 (1 : Int32) il7_72 dl10_72)) + (f1_0 (0 : Int32) il8_72 dl10_72)) + (f1_0 (0 : Int32) il9_72 dl10_72))), .unset] [(.ref b68)])
          refine own_step (fun _ => XS.dload X76.here hx rfl (hb hby at_292) rfl) ?_
          show own_Ends p e below s _ _ _ T76 (mkF m 294 #[.val (.int i0), .val (.int i1), .val (.int i2), .val (.int i3), .val (.int (3 : Int32)), .val (.int il5_72), .val (.int il6_72), .val (.int il7_72), .val (.int il8_72), .val (.int il9_72), .val (.double dl10_72), .second, .val (.int il7_72), .val (.ref b68), .val (.int (((((f1_0 (1 : Int32) il5_72 dl10_72) + (f1_0 (1 : Int32) il6_72 dl10_72)) + (f1_0 (1 : Int32) il7_72 dl10_72)) + (f1_0 (0 : Int32) il8_72 dl10_72)) + (f1_0 (0 : Int32) il9_72 dl10_72))), .unset] [(.double dl10_72), (.ref b68)])
          obtain ⟨_, _, ⟨T77, L77, k77, n77⟩, -, X77, ⟨Lc77, hQ77, l77, y77, z77⟩, st77⟩ := Jvm.LawKit.callS X76 hx (y := (⟨"com/example/graded_queue/gradedqueue/sim/Cumulative", "firstAbove", "([DD)I"⟩ : MethodName)) hown (mvT hZ (hw _ (List.mem_of_getElem? (i := 7) rfl))) (mvT hZ (hw _ (List.mem_of_getElem? (i := 8) rfl))) (mvT hZ (hw _ (List.mem_of_getElem? (i := 9) rfl))) (mvT hZ (hw _ (List.mem_of_getElem? (i := 10) rfl))) (by decide) (backOf (W := 0) (rm2_3 l Z a0 hw [] b68 dl10_72 k68 (FP.i2d il5_72) (FP.i2d il6_72) (FP.i2d il7_72) h71 n0 Zs71 V71) hZ (hw _ (List.mem_of_getElem? (i := 10) rfl)) (hw _ (List.mem_of_getElem? (i := 9) rfl)) (by decide) (by decide)) (g := (mkF m 294 #[.val (.int i0), .val (.int i1), .val (.int i2), .val (.int i3), .val (.int (3 : Int32)), .val (.int il5_72), .val (.int il6_72), .val (.int il7_72), .val (.int il8_72), .val (.int il9_72), .val (.double dl10_72), .second, .val (.int il7_72), .val (.ref b68), .val (.int (((((f1_0 (1 : Int32) il5_72 dl10_72) + (f1_0 (1 : Int32) il6_72 dl10_72)) + (f1_0 (1 : Int32) il7_72 dl10_72)) + (f1_0 (0 : Int32) il8_72 dl10_72)) + (f1_0 (0 : Int32) il9_72 dl10_72))), .unset] [(.double dl10_72), (.ref b68)])) rfl (by rw [hml]; rfl) (argsL := [(.ref b68), (.double dl10_72)]) (rest := []) (lenOf pd_1 rfl) rfl (by show 2 * 0 + _ ≤ _; exact Nat.le_of_eq rfl) (hb hby at_294) (fun _ _ => ⟨rfl, hh76, (by decide : 1 + 0 ≤ _), (by decide : 3 + 0 ≤ _)⟩)
          dsimp only [Pt.U, Pt.locs, Pt.cells, Pt.slots] at X77 l77 y77 z77 st77 hQ77
          subst l77 y77 z77
          obtain ⟨rfl, N77q, hh77⟩ := hQ77
          have N77 := Fr.app N76 N77q
          refine own_step st77 ?_
          show own_Ends p e below s _ _ _ T77 (mkF m 297 #[.val (.int i0), .val (.int i1), .val (.int i2), .val (.int i3), .val (.int (3 : Int32)), .val (.int il5_72), .val (.int il6_72), .val (.int il7_72), .val (.int il8_72), .val (.int il9_72), .val (.double dl10_72), .second, .val (.int il7_72), .val (.ref b68), .val (.int (((((f1_0 (1 : Int32) il5_72 dl10_72) + (f1_0 (1 : Int32) il6_72 dl10_72)) + (f1_0 (1 : Int32) il7_72 dl10_72)) + (f1_0 (0 : Int32) il8_72 dl10_72)) + (f1_0 (0 : Int32) il9_72 dl10_72))), .unset] [(.int (f2c_0 dl10_72 (FP.i2d il5_72) (FP.i2d il6_72) (FP.i2d il7_72)))])
          refine own_step (fun _ => XS.istore X77.here hx rfl (hb hby at_297) rfl (l' := #[.val (.int i0), .val (.int i1), .val (.int i2), .val (.int i3), .val (.int (3 : Int32)), .val (.int il5_72), .val (.int il6_72), .val (.int il7_72), .val (.int il8_72), .val (.int il9_72), .val (.double dl10_72), .second, .val (.int il7_72), .val (.ref b68), .val (.int (((((f1_0 (1 : Int32) il5_72 dl10_72) + (f1_0 (1 : Int32) il6_72 dl10_72)) + (f1_0 (1 : Int32) il7_72 dl10_72)) + (f1_0 (0 : Int32) il8_72 dl10_72)) + (f1_0 (0 : Int32) il9_72 dl10_72))), .val (.int (f2c_0 dl10_72 (FP.i2d il5_72) (FP.i2d il6_72) (FP.i2d il7_72)))]) rfl) ?_
          show own_Ends p e below s _ _ _ T77 (mkF m 299 #[.val (.int i0), .val (.int i1), .val (.int i2), .val (.int i3), .val (.int (3 : Int32)), .val (.int il5_72), .val (.int il6_72), .val (.int il7_72), .val (.int il8_72), .val (.int il9_72), .val (.double dl10_72), .second, .val (.int il7_72), .val (.ref b68), .val (.int (((((f1_0 (1 : Int32) il5_72 dl10_72) + (f1_0 (1 : Int32) il6_72 dl10_72)) + (f1_0 (1 : Int32) il7_72 dl10_72)) + (f1_0 (0 : Int32) il8_72 dl10_72)) + (f1_0 (0 : Int32) il9_72 dl10_72))), .val (.int (f2c_0 dl10_72 (FP.i2d il5_72) (FP.i2d il6_72) (FP.i2d il7_72)))] [])
          refine own_step (fun _ => XS.iload X77.here hx rfl (hb hby at_299) rfl) ?_
          show own_Ends p e below s _ _ _ T77 (mkF m 301 #[.val (.int i0), .val (.int i1), .val (.int i2), .val (.int i3), .val (.int (3 : Int32)), .val (.int il5_72), .val (.int il6_72), .val (.int il7_72), .val (.int il8_72), .val (.int il9_72), .val (.double dl10_72), .second, .val (.int il7_72), .val (.ref b68), .val (.int (((((f1_0 (1 : Int32) il5_72 dl10_72) + (f1_0 (1 : Int32) il6_72 dl10_72)) + (f1_0 (1 : Int32) il7_72 dl10_72)) + (f1_0 (0 : Int32) il8_72 dl10_72)) + (f1_0 (0 : Int32) il9_72 dl10_72))), .val (.int (f2c_0 dl10_72 (FP.i2d il5_72) (FP.i2d il6_72) (FP.i2d il7_72)))] [(.int (f2c_0 dl10_72 (FP.i2d il5_72) (FP.i2d il6_72) (FP.i2d il7_72)))])
          refine own_step (fun _ => XS.iload X77.here hx rfl (hb hby at_301) rfl) ?_
          show own_Ends p e below s _ _ _ T77 (mkF m 303 #[.val (.int i0), .val (.int i1), .val (.int i2), .val (.int i3), .val (.int (3 : Int32)), .val (.int il5_72), .val (.int il6_72), .val (.int il7_72), .val (.int il8_72), .val (.int il9_72), .val (.double dl10_72), .second, .val (.int il7_72), .val (.ref b68), .val (.int (((((f1_0 (1 : Int32) il5_72 dl10_72) + (f1_0 (1 : Int32) il6_72 dl10_72)) + (f1_0 (1 : Int32) il7_72 dl10_72)) + (f1_0 (0 : Int32) il8_72 dl10_72)) + (f1_0 (0 : Int32) il9_72 dl10_72))), .val (.int (f2c_0 dl10_72 (FP.i2d il5_72) (FP.i2d il6_72) (FP.i2d il7_72)))] [(.int (((((f1_0 (1 : Int32) il5_72 dl10_72) + (f1_0 (1 : Int32) il6_72 dl10_72)) + (f1_0 (1 : Int32) il7_72 dl10_72)) + (f1_0 (0 : Int32) il8_72 dl10_72)) + (f1_0 (0 : Int32) il9_72 dl10_72))), (.int (f2c_0 dl10_72 (FP.i2d il5_72) (FP.i2d il6_72) (FP.i2d il7_72)))])
          by_cases hc303 : (f2c_0 dl10_72 (FP.i2d il5_72) (FP.i2d il6_72) (FP.i2d il7_72)) = (((((f1_0 (1 : Int32) il5_72 dl10_72) + (f1_0 (1 : Int32) il6_72 dl10_72)) + (f1_0 (1 : Int32) il7_72 dl10_72)) + (f1_0 (0 : Int32) il8_72 dl10_72)) + (f1_0 (0 : Int32) il9_72 dl10_72))
          · have hvf0f1t2_t_t := hvf0f1t2_t.trans (if_pos hc303)
            refine own_step (fun _ => XS.icmpNo X77.here hx rfl (hb hby at_303) rfl (teq hc303).2) ?_
            show own_Ends p e below s _ _ _ T77 (mkF m 306 #[.val (.int i0), .val (.int i1), .val (.int i2), .val (.int i3), .val (.int (3 : Int32)), .val (.int il5_72), .val (.int il6_72), .val (.int il7_72), .val (.int il8_72), .val (.int il9_72), .val (.double dl10_72), .second, .val (.int il7_72), .val (.ref b68), .val (.int (((((f1_0 (1 : Int32) il5_72 dl10_72) + (f1_0 (1 : Int32) il6_72 dl10_72)) + (f1_0 (1 : Int32) il7_72 dl10_72)) + (f1_0 (0 : Int32) il8_72 dl10_72)) + (f1_0 (0 : Int32) il9_72 dl10_72))), .val (.int (f2c_0 dl10_72 (FP.i2d il5_72) (FP.i2d il6_72) (FP.i2d il7_72)))] [])
            refine own_step (fun _ => XS.iconst X77.here hx rfl (hb hby at_306)) ?_
            show own_Ends p e below s _ _ _ T77 (mkF m 307 #[.val (.int i0), .val (.int i1), .val (.int i2), .val (.int i3), .val (.int (3 : Int32)), .val (.int il5_72), .val (.int il6_72), .val (.int il7_72), .val (.int il8_72), .val (.int il9_72), .val (.double dl10_72), .second, .val (.int il7_72), .val (.ref b68), .val (.int (((((f1_0 (1 : Int32) il5_72 dl10_72) + (f1_0 (1 : Int32) il6_72 dl10_72)) + (f1_0 (1 : Int32) il7_72 dl10_72)) + (f1_0 (0 : Int32) il8_72 dl10_72)) + (f1_0 (0 : Int32) il9_72 dl10_72))), .val (.int (f2c_0 dl10_72 (FP.i2d il5_72) (FP.i2d il6_72) (FP.i2d il7_72)))] [(.int (1 : Int32))])
            refine own_step (fun _ => XS.goto X77.here hx rfl (pc0 := 307) (pc' := 311) rfl (hb hby at_307) (by decide) (by decide)) ?_
            show own_Ends p e below s _ _ _ T77 (mkF m 311 #[.val (.int i0), .val (.int i1), .val (.int i2), .val (.int i3), .val (.int (3 : Int32)), .val (.int il5_72), .val (.int il6_72), .val (.int il7_72), .val (.int il8_72), .val (.int il9_72), .val (.double dl10_72), .second, .val (.int il7_72), .val (.ref b68), .val (.int (((((f1_0 (1 : Int32) il5_72 dl10_72) + (f1_0 (1 : Int32) il6_72 dl10_72)) + (f1_0 (1 : Int32) il7_72 dl10_72)) + (f1_0 (0 : Int32) il8_72 dl10_72)) + (f1_0 (0 : Int32) il9_72 dl10_72))), .val (.int (f2c_0 dl10_72 (FP.i2d il5_72) (FP.i2d il6_72) (FP.i2d il7_72)))] [(.int (1 : Int32))])
            exact own_retN X77 (t := .boolean) hx hret hlk (hb hby at_311) (by decide) (by decide) (by simp) ⟨congrArg (fun z => some (Value.int z)) hvf0f1t2_t_t.symm, N77, trivial⟩
          · have hvf0f1t2_t_f := hvf0f1t2_t.trans (if_neg hc303)
            refine own_step (fun _ => XS.icmpYes X77.here hx rfl (pc0 := 303) (pc' := 310) rfl (hb hby at_303) rfl (feq hc303).2 (by decide) (by decide)) ?_
            show own_Ends p e below s _ _ _ T77 (mkF m 310 #[.val (.int i0), .val (.int i1), .val (.int i2), .val (.int i3), .val (.int (3 : Int32)), .val (.int il5_72), .val (.int il6_72), .val (.int il7_72), .val (.int il8_72), .val (.int il9_72), .val (.double dl10_72), .second, .val (.int il7_72), .val (.ref b68), .val (.int (((((f1_0 (1 : Int32) il5_72 dl10_72) + (f1_0 (1 : Int32) il6_72 dl10_72)) + (f1_0 (1 : Int32) il7_72 dl10_72)) + (f1_0 (0 : Int32) il8_72 dl10_72)) + (f1_0 (0 : Int32) il9_72 dl10_72))), .val (.int (f2c_0 dl10_72 (FP.i2d il5_72) (FP.i2d il6_72) (FP.i2d il7_72)))] [])
            refine own_step (fun _ => XS.iconst X77.here hx rfl (hb hby at_310)) ?_
            show own_Ends p e below s _ _ _ T77 (mkF m 311 #[.val (.int i0), .val (.int i1), .val (.int i2), .val (.int i3), .val (.int (3 : Int32)), .val (.int il5_72), .val (.int il6_72), .val (.int il7_72), .val (.int il8_72), .val (.int il9_72), .val (.double dl10_72), .second, .val (.int il7_72), .val (.ref b68), .val (.int (((((f1_0 (1 : Int32) il5_72 dl10_72) + (f1_0 (1 : Int32) il6_72 dl10_72)) + (f1_0 (1 : Int32) il7_72 dl10_72)) + (f1_0 (0 : Int32) il8_72 dl10_72)) + (f1_0 (0 : Int32) il9_72 dl10_72))), .val (.int (f2c_0 dl10_72 (FP.i2d il5_72) (FP.i2d il6_72) (FP.i2d il7_72)))] [(.int (0 : Int32))])
            exact own_retN X77 (t := .boolean) hx hret hlk (hb hby at_311) (by decide) (by decide) (by simp) ⟨congrArg (fun z => some (Value.int z)) hvf0f1t2_t_f.symm, N77, trivial⟩
        · have hvf0f1t2_f := hvf0f1t2.trans (if_neg hc134)
          refine own_step (fun _ => XS.ifNo X0.here hx rfl (hb hby at_134) rfl ((if0 _ _).trans (flt hc134).2.2.1)) ?_
          show own_Ends p e below s _ _ _ T0 (mkF m 137 #[.val (.int i0), .val (.int i1), .val (.int i2), .val (.int i3), .val (.int (3 : Int32)), .val (.int il5_72), .val (.int il6_72), .val (.int il7_72), .val (.int il8_72), .val (.int il9_72), .val (.double dl10_72), .second, .val (.int il7_72), .unset, .unset, .unset] [])
          refine own_step (fun _ => XS.iconst X0.here hx rfl (hb hby at_137)) ?_
          show own_Ends p e below s _ _ _ T0 (mkF m 138 #[.val (.int i0), .val (.int i1), .val (.int i2), .val (.int i3), .val (.int (3 : Int32)), .val (.int il5_72), .val (.int il6_72), .val (.int il7_72), .val (.int il8_72), .val (.int il9_72), .val (.double dl10_72), .second, .val (.int il7_72), .unset, .unset, .unset] [(.int (1 : Int32))])
          exact own_retN X0 (t := .boolean) hx hret hlk (hb hby at_138) (by decide) (by decide) (by simp) ⟨congrArg (fun z => some (Value.int z)) hvf0f1t2_f.symm, N0, trivial⟩
      · have hvf0f1f2 := hvf0f1.trans (if_neg hN3)
        by_cases hN4 : (((i3 &&& (2147483647 : Int32)) % (5 : Int32)) + (1 : Int32)) = (4 : Int32)
        · have hvf0f1f2t3 := hvf0f1f2.trans (if_pos hN4)
          rw [hN4]
          refine own_step (fun _ => XS.iload X0.here hx rfl (hb hby at_72) rfl) ?_
          show own_Ends p e below s _ _ _ T0 (mkF m 74 #[.val (.int i0), .val (.int i1), .val (.int i2), .val (.int i3), .val (.int (4 : Int32)), .val (.int il5_72), .val (.int il6_72), .val (.int il7_72), .val (.int il8_72), .val (.int il9_72), .val (.double dl10_72), .second, .unset, .unset, .unset, .unset] [(.int (4 : Int32))])
          refine own_step (fun _ => XS.iconst X0.here hx rfl (hb hby at_74)) ?_
          show own_Ends p e below s _ _ _ T0 (mkF m 75 #[.val (.int i0), .val (.int i1), .val (.int i2), .val (.int i3), .val (.int (4 : Int32)), .val (.int il5_72), .val (.int il6_72), .val (.int il7_72), .val (.int il8_72), .val (.int il9_72), .val (.double dl10_72), .second, .unset, .unset, .unset, .unset] [(.int (1 : Int32)), (.int (4 : Int32))])
          refine own_step (fun _ => XS.icmpYes X0.here hx rfl (pc0 := 75) (pc' := 85) rfl (hb hby at_75) rfl (feq (show ¬ ((4 : Int32) = (1 : Int32)) from (by decide))).2 (by decide) (by decide)) ?_
          show own_Ends p e below s _ _ _ T0 (mkF m 85 #[.val (.int i0), .val (.int i1), .val (.int i2), .val (.int i3), .val (.int (4 : Int32)), .val (.int il5_72), .val (.int il6_72), .val (.int il7_72), .val (.int il8_72), .val (.int il9_72), .val (.double dl10_72), .second, .unset, .unset, .unset, .unset] [])
          refine own_step (fun _ => XS.iload X0.here hx rfl (hb hby at_85) rfl) ?_
          show own_Ends p e below s _ _ _ T0 (mkF m 87 #[.val (.int i0), .val (.int i1), .val (.int i2), .val (.int i3), .val (.int (4 : Int32)), .val (.int il5_72), .val (.int il6_72), .val (.int il7_72), .val (.int il8_72), .val (.int il9_72), .val (.double dl10_72), .second, .unset, .unset, .unset, .unset] [(.int (4 : Int32))])
          refine own_step (fun _ => XS.iconst X0.here hx rfl (hb hby at_87)) ?_
          show own_Ends p e below s _ _ _ T0 (mkF m 88 #[.val (.int i0), .val (.int i1), .val (.int i2), .val (.int i3), .val (.int (4 : Int32)), .val (.int il5_72), .val (.int il6_72), .val (.int il7_72), .val (.int il8_72), .val (.int il9_72), .val (.double dl10_72), .second, .unset, .unset, .unset, .unset] [(.int (2 : Int32)), (.int (4 : Int32))])
          refine own_step (fun _ => XS.icmpYes X0.here hx rfl (pc0 := 88) (pc' := 98) rfl (hb hby at_88) rfl (feq (show ¬ ((4 : Int32) = (2 : Int32)) from (by decide))).2 (by decide) (by decide)) ?_
          show own_Ends p e below s _ _ _ T0 (mkF m 98 #[.val (.int i0), .val (.int i1), .val (.int i2), .val (.int i3), .val (.int (4 : Int32)), .val (.int il5_72), .val (.int il6_72), .val (.int il7_72), .val (.int il8_72), .val (.int il9_72), .val (.double dl10_72), .second, .unset, .unset, .unset, .unset] [])
          refine own_step (fun _ => XS.iload X0.here hx rfl (hb hby at_98) rfl) ?_
          show own_Ends p e below s _ _ _ T0 (mkF m 100 #[.val (.int i0), .val (.int i1), .val (.int i2), .val (.int i3), .val (.int (4 : Int32)), .val (.int il5_72), .val (.int il6_72), .val (.int il7_72), .val (.int il8_72), .val (.int il9_72), .val (.double dl10_72), .second, .unset, .unset, .unset, .unset] [(.int (4 : Int32))])
          refine own_step (fun _ => XS.iconst X0.here hx rfl (hb hby at_100)) ?_
          show own_Ends p e below s _ _ _ T0 (mkF m 101 #[.val (.int i0), .val (.int i1), .val (.int i2), .val (.int i3), .val (.int (4 : Int32)), .val (.int il5_72), .val (.int il6_72), .val (.int il7_72), .val (.int il8_72), .val (.int il9_72), .val (.double dl10_72), .second, .unset, .unset, .unset, .unset] [(.int (3 : Int32)), (.int (4 : Int32))])
          refine own_step (fun _ => XS.icmpYes X0.here hx rfl (pc0 := 101) (pc' := 111) rfl (hb hby at_101) rfl (feq (show ¬ ((4 : Int32) = (3 : Int32)) from (by decide))).2 (by decide) (by decide)) ?_
          show own_Ends p e below s _ _ _ T0 (mkF m 111 #[.val (.int i0), .val (.int i1), .val (.int i2), .val (.int i3), .val (.int (4 : Int32)), .val (.int il5_72), .val (.int il6_72), .val (.int il7_72), .val (.int il8_72), .val (.int il9_72), .val (.double dl10_72), .second, .unset, .unset, .unset, .unset] [])
          refine own_step (fun _ => XS.iload X0.here hx rfl (hb hby at_111) rfl) ?_
          show own_Ends p e below s _ _ _ T0 (mkF m 113 #[.val (.int i0), .val (.int i1), .val (.int i2), .val (.int i3), .val (.int (4 : Int32)), .val (.int il5_72), .val (.int il6_72), .val (.int il7_72), .val (.int il8_72), .val (.int il9_72), .val (.double dl10_72), .second, .unset, .unset, .unset, .unset] [(.int (4 : Int32))])
          refine own_step (fun _ => XS.iconst X0.here hx rfl (hb hby at_113)) ?_
          show own_Ends p e below s _ _ _ T0 (mkF m 114 #[.val (.int i0), .val (.int i1), .val (.int i2), .val (.int i3), .val (.int (4 : Int32)), .val (.int il5_72), .val (.int il6_72), .val (.int il7_72), .val (.int il8_72), .val (.int il9_72), .val (.double dl10_72), .second, .unset, .unset, .unset, .unset] [(.int (4 : Int32)), (.int (4 : Int32))])
          refine own_step (fun _ => XS.icmpNo X0.here hx rfl (hb hby at_114) rfl (teq (show (4 : Int32) = (4 : Int32) from (by decide))).2) ?_
          show own_Ends p e below s _ _ _ T0 (mkF m 117 #[.val (.int i0), .val (.int i1), .val (.int i2), .val (.int i3), .val (.int (4 : Int32)), .val (.int il5_72), .val (.int il6_72), .val (.int il7_72), .val (.int il8_72), .val (.int il9_72), .val (.double dl10_72), .second, .unset, .unset, .unset, .unset] [])
          refine own_step (fun _ => XS.iload X0.here hx rfl (hb hby at_117) rfl) ?_
          show own_Ends p e below s _ _ _ T0 (mkF m 119 #[.val (.int i0), .val (.int i1), .val (.int i2), .val (.int i3), .val (.int (4 : Int32)), .val (.int il5_72), .val (.int il6_72), .val (.int il7_72), .val (.int il8_72), .val (.int il9_72), .val (.double dl10_72), .second, .unset, .unset, .unset, .unset] [(.int il8_72)])
          refine own_step (fun _ => XS.istore X0.here hx rfl (hb hby at_119) rfl (l' := #[.val (.int i0), .val (.int i1), .val (.int i2), .val (.int i3), .val (.int (4 : Int32)), .val (.int il5_72), .val (.int il6_72), .val (.int il7_72), .val (.int il8_72), .val (.int il9_72), .val (.double dl10_72), .second, .val (.int il8_72), .unset, .unset, .unset]) rfl) ?_
          show own_Ends p e below s _ _ _ T0 (mkF m 121 #[.val (.int i0), .val (.int i1), .val (.int i2), .val (.int i3), .val (.int (4 : Int32)), .val (.int il5_72), .val (.int il6_72), .val (.int il7_72), .val (.int il8_72), .val (.int il9_72), .val (.double dl10_72), .second, .val (.int il8_72), .unset, .unset, .unset] [])
          refine own_step (fun _ => XS.goto X0.here hx rfl (pc0 := 121) (pc' := 128) rfl (hb hby at_121) (by decide) (by decide)) ?_
          show own_Ends p e below s _ _ _ T0 (mkF m 128 #[.val (.int i0), .val (.int i1), .val (.int i2), .val (.int i3), .val (.int (4 : Int32)), .val (.int il5_72), .val (.int il6_72), .val (.int il7_72), .val (.int il8_72), .val (.int il9_72), .val (.double dl10_72), .second, .val (.int il8_72), .unset, .unset, .unset] [])
          refine own_step (fun _ => XS.iload X0.here hx rfl (hb hby at_128) rfl) ?_
          show own_Ends p e below s _ _ _ T0 (mkF m 130 #[.val (.int i0), .val (.int i1), .val (.int i2), .val (.int i3), .val (.int (4 : Int32)), .val (.int il5_72), .val (.int il6_72), .val (.int il7_72), .val (.int il8_72), .val (.int il9_72), .val (.double dl10_72), .second, .val (.int il8_72), .unset, .unset, .unset] [(.int il8_72)])
          refine own_step (fun _ => XS.i2dS X0.here hx rfl (hb hby at_130) rfl rfl) ?_
          show own_Ends p e below s _ _ _ T0 (mkF m 131 #[.val (.int i0), .val (.int i1), .val (.int i2), .val (.int i3), .val (.int (4 : Int32)), .val (.int il5_72), .val (.int il6_72), .val (.int il7_72), .val (.int il8_72), .val (.int il9_72), .val (.double dl10_72), .second, .val (.int il8_72), .unset, .unset, .unset] [(.double (FP.i2d il8_72))])
          refine own_step (fun _ => XS.dload X0.here hx rfl (hb hby at_131) rfl) ?_
          show own_Ends p e below s _ _ _ T0 (mkF m 133 #[.val (.int i0), .val (.int i1), .val (.int i2), .val (.int i3), .val (.int (4 : Int32)), .val (.int il5_72), .val (.int il6_72), .val (.int il7_72), .val (.int il8_72), .val (.int il9_72), .val (.double dl10_72), .second, .val (.int il8_72), .unset, .unset, .unset] [(.double dl10_72), (.double (FP.i2d il8_72))])
          refine own_step (fun _ => XS.dcmpS X0.here hx rfl (hb hby at_133) rfl rfl) ?_
          show own_Ends p e below s _ _ _ T0 (mkF m 134 #[.val (.int i0), .val (.int i1), .val (.int i2), .val (.int i3), .val (.int (4 : Int32)), .val (.int il5_72), .val (.int il6_72), .val (.int il7_72), .val (.int il8_72), .val (.int il9_72), .val (.double dl10_72), .second, .val (.int il8_72), .unset, .unset, .unset] [(.int (cmpValue (FP.dcmp (FP.i2d il8_72) dl10_72) .l))])
          by_cases hc134 : (0 : Int32) < (cmpValue (FP.dcmp (FP.i2d il8_72) dl10_72) .l)
          · have hvf0f1f2t3_t := hvf0f1f2t3.trans (if_pos hc134)
            refine own_step (fun _ => XS.ifYes X0.here hx rfl (pc0 := 134) (pc' := 139) rfl (hb hby at_134) rfl ((if0 _ _).trans (tlt hc134).2.2.1) (by decide) (by decide)) ?_
            show own_Ends p e below s _ _ _ T0 (mkF m 139 #[.val (.int i0), .val (.int i1), .val (.int i2), .val (.int i3), .val (.int (4 : Int32)), .val (.int il5_72), .val (.int il6_72), .val (.int il7_72), .val (.int il8_72), .val (.int il9_72), .val (.double dl10_72), .second, .val (.int il8_72), .unset, .unset, .unset] [])
            refine own_step (fun _ => XS.iload X0.here hx rfl (hb hby at_139) rfl) ?_
            show own_Ends p e below s _ _ _ T0 (mkF m 141 #[.val (.int i0), .val (.int i1), .val (.int i2), .val (.int i3), .val (.int (4 : Int32)), .val (.int il5_72), .val (.int il6_72), .val (.int il7_72), .val (.int il8_72), .val (.int il9_72), .val (.double dl10_72), .second, .val (.int il8_72), .unset, .unset, .unset] [(.int (4 : Int32))])
            obtain ⟨T78, h78, k78, X78, e78, E78, A78, st78⟩ := newP X0 hx hZ (hw _ (List.mem_of_getElem? (i := 2) rfl)) e0 (g := (mkF m 141 #[.val (.int i0), .val (.int i1), .val (.int i2), .val (.int i3), .val (.int (4 : Int32)), .val (.int il5_72), .val (.int il6_72), .val (.int il7_72), .val (.int il8_72), .val (.int il9_72), .val (.double dl10_72), .second, .val (.int il8_72), .unset, .unset, .unset] [(.int (4 : Int32))])) rfl (hb hby at_141) rfl (by decide) (cap := 4) (by decide) (by decide) (by decide) (by decide)
            obtain ⟨b78, g78⟩ : ∃ z, z = h0.size := ⟨_, rfl⟩
            rw [← g78] at A78 st78
            have V78 : Arv Z h78 b78 k78 .double (4 : Int32) [(.double 0), (.double 0), (.double 0), (.double 0)] (.double 0) := (Arv.new A78 (by decide)).pad (pad_rep [] (.double 0) 4)
            have g_b78 : n0 ≤ b78 := Nat.le_trans Z0 (Nat.le_of_eq g78.symm)
            have Zs78 : n0 ≤ h78.size := Nat.le_trans Z0 E78.1
            refine own_step st78 ?_
            show own_Ends p e below s _ _ _ T78 (mkF m 143 #[.val (.int i0), .val (.int i1), .val (.int i2), .val (.int i3), .val (.int (4 : Int32)), .val (.int il5_72), .val (.int il6_72), .val (.int il7_72), .val (.int il8_72), .val (.int il9_72), .val (.double dl10_72), .second, .val (.int il8_72), .unset, .unset, .unset] [(.ref b78)])
            refine own_step (fun _ => XS.astore X78.here hx rfl (hb hby at_143) rfl rfl (l' := #[.val (.int i0), .val (.int i1), .val (.int i2), .val (.int i3), .val (.int (4 : Int32)), .val (.int il5_72), .val (.int il6_72), .val (.int il7_72), .val (.int il8_72), .val (.int il9_72), .val (.double dl10_72), .second, .val (.int il8_72), .val (.ref b78), .unset, .unset]) rfl) ?_
            show own_Ends p e below s _ _ _ T78 (mkF m 145 #[.val (.int i0), .val (.int i1), .val (.int i2), .val (.int i3), .val (.int (4 : Int32)), .val (.int il5_72), .val (.int il6_72), .val (.int il7_72), .val (.int il8_72), .val (.int il9_72), .val (.double dl10_72), .second, .val (.int il8_72), .val (.ref b78), .unset, .unset] [])
            refine own_step (fun _ => XS.aload X78.here hx rfl (hb hby at_145) rfl rfl) ?_
            show own_Ends p e below s _ _ _ T78 (mkF m 147 #[.val (.int i0), .val (.int i1), .val (.int i2), .val (.int i3), .val (.int (4 : Int32)), .val (.int il5_72), .val (.int il6_72), .val (.int il7_72), .val (.int il8_72), .val (.int il9_72), .val (.double dl10_72), .second, .val (.int il8_72), .val (.ref b78), .unset, .unset] [(.ref b78)])
            refine own_step (fun _ => XS.iconst X78.here hx rfl (hb hby at_147)) ?_
            show own_Ends p e below s _ _ _ T78 (mkF m 148 #[.val (.int i0), .val (.int i1), .val (.int i2), .val (.int i3), .val (.int (4 : Int32)), .val (.int il5_72), .val (.int il6_72), .val (.int il7_72), .val (.int il8_72), .val (.int il9_72), .val (.double dl10_72), .second, .val (.int il8_72), .val (.ref b78), .unset, .unset] [(.int (0 : Int32)), (.ref b78)])
            refine own_step (fun _ => XS.iload X78.here hx rfl (hb hby at_148) rfl) ?_
            show own_Ends p e below s _ _ _ T78 (mkF m 150 #[.val (.int i0), .val (.int i1), .val (.int i2), .val (.int i3), .val (.int (4 : Int32)), .val (.int il5_72), .val (.int il6_72), .val (.int il7_72), .val (.int il8_72), .val (.int il9_72), .val (.double dl10_72), .second, .val (.int il8_72), .val (.ref b78), .unset, .unset] [(.int il5_72), (.int (0 : Int32)), (.ref b78)])
            refine own_step (fun _ => XS.i2dS X78.here hx rfl (hb hby at_150) rfl rfl) ?_
            show own_Ends p e below s _ _ _ T78 (mkF m 151 #[.val (.int i0), .val (.int i1), .val (.int i2), .val (.int i3), .val (.int (4 : Int32)), .val (.int il5_72), .val (.int il6_72), .val (.int il7_72), .val (.int il8_72), .val (.int il9_72), .val (.double dl10_72), .second, .val (.int il8_72), .val (.ref b78), .unset, .unset] [(.double (FP.i2d il5_72)), (.int (0 : Int32)), (.ref b78)])
            obtain ⟨cl79, Ar79, q79, S79, N79_, H79, G79⟩ := id V78
            have hin79 : ¬ ((0 : Int32) < 0 ∨ cl79.slots.size ≤ ((0 : Int32)).toNatClampNeg) := inb_of S79 ⟨by decide, by decide⟩
            obtain ⟨T79, h79, X79, e79, W79, st79⟩ := stD X78 hx hZ e78 Ar79 (j := (0 : Int32)) hin79 (g := (mkF m 151 #[.val (.int i0), .val (.int i1), .val (.int i2), .val (.int i3), .val (.int (4 : Int32)), .val (.int il5_72), .val (.int il6_72), .val (.int il7_72), .val (.int il8_72), .val (.int il9_72), .val (.double dl10_72), .second, .val (.int il8_72), .val (.ref b78), .unset, .unset] [(.double (FP.i2d il5_72)), (.int (0 : Int32)), (.ref b78)])) rfl rfl (hb hby at_151)
            have V79 : Arv Z h79 b78 k78 .double (4 : Int32) [(.double (FP.i2d il5_72)), (.double 0), (.double 0), (.double 0)] (.double 0) := Arv.set Ar79 q79 S79 N79_ H79 G79 rfl W79 0 rfl (Nat.le_of_ble_eq_true rfl)
            have Zs79 : n0 ≤ h79.size := (by rw [W79.size]; exact Zs78)
            have N79 := Fr.snoc X79 N0 g_b78
            refine own_step st79 ?_
            show own_Ends p e below s _ _ _ T79 (mkF m 152 #[.val (.int i0), .val (.int i1), .val (.int i2), .val (.int i3), .val (.int (4 : Int32)), .val (.int il5_72), .val (.int il6_72), .val (.int il7_72), .val (.int il8_72), .val (.int il9_72), .val (.double dl10_72), .second, .val (.int il8_72), .val (.ref b78), .unset, .unset] [])
            refine own_step (fun _ => XS.iload X79.here hx rfl (hb hby at_152) rfl) ?_
            show own_Ends p e below s _ _ _ T79 (mkF m 154 #[.val (.int i0), .val (.int i1), .val (.int i2), .val (.int i3), .val (.int (4 : Int32)), .val (.int il5_72), .val (.int il6_72), .val (.int il7_72), .val (.int il8_72), .val (.int il9_72), .val (.double dl10_72), .second, .val (.int il8_72), .val (.ref b78), .unset, .unset] [(.int (4 : Int32))])
            refine own_step (fun _ => XS.iconst X79.here hx rfl (hb hby at_154)) ?_
            show own_Ends p e below s _ _ _ T79 (mkF m 155 #[.val (.int i0), .val (.int i1), .val (.int i2), .val (.int i3), .val (.int (4 : Int32)), .val (.int il5_72), .val (.int il6_72), .val (.int il7_72), .val (.int il8_72), .val (.int il9_72), .val (.double dl10_72), .second, .val (.int il8_72), .val (.ref b78), .unset, .unset] [(.int (1 : Int32)), (.int (4 : Int32))])
            refine own_step (fun _ => XS.icmpNo X79.here hx rfl (hb hby at_155) rfl (tlt (show (1 : Int32) < (4 : Int32) from (by decide))).2.2.2) ?_
            show own_Ends p e below s _ _ _ T79 (mkF m 158 #[.val (.int i0), .val (.int i1), .val (.int i2), .val (.int i3), .val (.int (4 : Int32)), .val (.int il5_72), .val (.int il6_72), .val (.int il7_72), .val (.int il8_72), .val (.int il9_72), .val (.double dl10_72), .second, .val (.int il8_72), .val (.ref b78), .unset, .unset] [])
            refine own_step (fun _ => XS.aload X79.here hx rfl (hb hby at_158) rfl rfl) ?_
            show own_Ends p e below s _ _ _ T79 (mkF m 160 #[.val (.int i0), .val (.int i1), .val (.int i2), .val (.int i3), .val (.int (4 : Int32)), .val (.int il5_72), .val (.int il6_72), .val (.int il7_72), .val (.int il8_72), .val (.int il9_72), .val (.double dl10_72), .second, .val (.int il8_72), .val (.ref b78), .unset, .unset] [(.ref b78)])
            refine own_step (fun _ => XS.iconst X79.here hx rfl (hb hby at_160)) ?_
            show own_Ends p e below s _ _ _ T79 (mkF m 161 #[.val (.int i0), .val (.int i1), .val (.int i2), .val (.int i3), .val (.int (4 : Int32)), .val (.int il5_72), .val (.int il6_72), .val (.int il7_72), .val (.int il8_72), .val (.int il9_72), .val (.double dl10_72), .second, .val (.int il8_72), .val (.ref b78), .unset, .unset] [(.int (1 : Int32)), (.ref b78)])
            refine own_step (fun _ => XS.iload X79.here hx rfl (hb hby at_161) rfl) ?_
            show own_Ends p e below s _ _ _ T79 (mkF m 163 #[.val (.int i0), .val (.int i1), .val (.int i2), .val (.int i3), .val (.int (4 : Int32)), .val (.int il5_72), .val (.int il6_72), .val (.int il7_72), .val (.int il8_72), .val (.int il9_72), .val (.double dl10_72), .second, .val (.int il8_72), .val (.ref b78), .unset, .unset] [(.int il6_72), (.int (1 : Int32)), (.ref b78)])
            refine own_step (fun _ => XS.i2dS X79.here hx rfl (hb hby at_163) rfl rfl) ?_
            show own_Ends p e below s _ _ _ T79 (mkF m 164 #[.val (.int i0), .val (.int i1), .val (.int i2), .val (.int i3), .val (.int (4 : Int32)), .val (.int il5_72), .val (.int il6_72), .val (.int il7_72), .val (.int il8_72), .val (.int il9_72), .val (.double dl10_72), .second, .val (.int il8_72), .val (.ref b78), .unset, .unset] [(.double (FP.i2d il6_72)), (.int (1 : Int32)), (.ref b78)])
            obtain ⟨cl80, Ar80, q80, S80, N80_, H80, G80⟩ := id V79
            have hin80 : ¬ ((1 : Int32) < 0 ∨ cl80.slots.size ≤ ((1 : Int32)).toNatClampNeg) := inb_of S80 ⟨by decide, by decide⟩
            obtain ⟨T80, h80, X80, e80, W80, st80⟩ := stD X79 hx hZ e79 Ar80 (j := (1 : Int32)) hin80 (g := (mkF m 164 #[.val (.int i0), .val (.int i1), .val (.int i2), .val (.int i3), .val (.int (4 : Int32)), .val (.int il5_72), .val (.int il6_72), .val (.int il7_72), .val (.int il8_72), .val (.int il9_72), .val (.double dl10_72), .second, .val (.int il8_72), .val (.ref b78), .unset, .unset] [(.double (FP.i2d il6_72)), (.int (1 : Int32)), (.ref b78)])) rfl rfl (hb hby at_164)
            have V80 : Arv Z h80 b78 k78 .double (4 : Int32) [(.double (FP.i2d il5_72)), (.double (FP.i2d il6_72)), (.double 0), (.double 0)] (.double 0) := Arv.set Ar80 q80 S80 N80_ H80 G80 rfl W80 1 rfl (Nat.le_of_ble_eq_true rfl)
            have Zs80 : n0 ≤ h80.size := (by rw [W80.size]; exact Zs79)
            have N80 := Fr.snoc X80 N79 g_b78
            refine own_step st80 ?_
            show own_Ends p e below s _ _ _ T80 (mkF m 165 #[.val (.int i0), .val (.int i1), .val (.int i2), .val (.int i3), .val (.int (4 : Int32)), .val (.int il5_72), .val (.int il6_72), .val (.int il7_72), .val (.int il8_72), .val (.int il9_72), .val (.double dl10_72), .second, .val (.int il8_72), .val (.ref b78), .unset, .unset] [])
            refine own_step (fun _ => XS.iload X80.here hx rfl (hb hby at_165) rfl) ?_
            show own_Ends p e below s _ _ _ T80 (mkF m 167 #[.val (.int i0), .val (.int i1), .val (.int i2), .val (.int i3), .val (.int (4 : Int32)), .val (.int il5_72), .val (.int il6_72), .val (.int il7_72), .val (.int il8_72), .val (.int il9_72), .val (.double dl10_72), .second, .val (.int il8_72), .val (.ref b78), .unset, .unset] [(.int (4 : Int32))])
            refine own_step (fun _ => XS.iconst X80.here hx rfl (hb hby at_167)) ?_
            show own_Ends p e below s _ _ _ T80 (mkF m 168 #[.val (.int i0), .val (.int i1), .val (.int i2), .val (.int i3), .val (.int (4 : Int32)), .val (.int il5_72), .val (.int il6_72), .val (.int il7_72), .val (.int il8_72), .val (.int il9_72), .val (.double dl10_72), .second, .val (.int il8_72), .val (.ref b78), .unset, .unset] [(.int (2 : Int32)), (.int (4 : Int32))])
            refine own_step (fun _ => XS.icmpNo X80.here hx rfl (hb hby at_168) rfl (tlt (show (2 : Int32) < (4 : Int32) from (by decide))).2.2.2) ?_
            show own_Ends p e below s _ _ _ T80 (mkF m 171 #[.val (.int i0), .val (.int i1), .val (.int i2), .val (.int i3), .val (.int (4 : Int32)), .val (.int il5_72), .val (.int il6_72), .val (.int il7_72), .val (.int il8_72), .val (.int il9_72), .val (.double dl10_72), .second, .val (.int il8_72), .val (.ref b78), .unset, .unset] [])
            refine own_step (fun _ => XS.aload X80.here hx rfl (hb hby at_171) rfl rfl) ?_
            show own_Ends p e below s _ _ _ T80 (mkF m 173 #[.val (.int i0), .val (.int i1), .val (.int i2), .val (.int i3), .val (.int (4 : Int32)), .val (.int il5_72), .val (.int il6_72), .val (.int il7_72), .val (.int il8_72), .val (.int il9_72), .val (.double dl10_72), .second, .val (.int il8_72), .val (.ref b78), .unset, .unset] [(.ref b78)])
            refine own_step (fun _ => XS.iconst X80.here hx rfl (hb hby at_173)) ?_
            show own_Ends p e below s _ _ _ T80 (mkF m 174 #[.val (.int i0), .val (.int i1), .val (.int i2), .val (.int i3), .val (.int (4 : Int32)), .val (.int il5_72), .val (.int il6_72), .val (.int il7_72), .val (.int il8_72), .val (.int il9_72), .val (.double dl10_72), .second, .val (.int il8_72), .val (.ref b78), .unset, .unset] [(.int (2 : Int32)), (.ref b78)])
            refine own_step (fun _ => XS.iload X80.here hx rfl (hb hby at_174) rfl) ?_
            show own_Ends p e below s _ _ _ T80 (mkF m 176 #[.val (.int i0), .val (.int i1), .val (.int i2), .val (.int i3), .val (.int (4 : Int32)), .val (.int il5_72), .val (.int il6_72), .val (.int il7_72), .val (.int il8_72), .val (.int il9_72), .val (.double dl10_72), .second, .val (.int il8_72), .val (.ref b78), .unset, .unset] [(.int il7_72), (.int (2 : Int32)), (.ref b78)])
            refine own_step (fun _ => XS.i2dS X80.here hx rfl (hb hby at_176) rfl rfl) ?_
            show own_Ends p e below s _ _ _ T80 (mkF m 177 #[.val (.int i0), .val (.int i1), .val (.int i2), .val (.int i3), .val (.int (4 : Int32)), .val (.int il5_72), .val (.int il6_72), .val (.int il7_72), .val (.int il8_72), .val (.int il9_72), .val (.double dl10_72), .second, .val (.int il8_72), .val (.ref b78), .unset, .unset] [(.double (FP.i2d il7_72)), (.int (2 : Int32)), (.ref b78)])
            obtain ⟨cl81, Ar81, q81, S81, N81_, H81, G81⟩ := id V80
            have hin81 : ¬ ((2 : Int32) < 0 ∨ cl81.slots.size ≤ ((2 : Int32)).toNatClampNeg) := inb_of S81 ⟨by decide, by decide⟩
            obtain ⟨T81, h81, X81, e81, W81, st81⟩ := stD X80 hx hZ e80 Ar81 (j := (2 : Int32)) hin81 (g := (mkF m 177 #[.val (.int i0), .val (.int i1), .val (.int i2), .val (.int i3), .val (.int (4 : Int32)), .val (.int il5_72), .val (.int il6_72), .val (.int il7_72), .val (.int il8_72), .val (.int il9_72), .val (.double dl10_72), .second, .val (.int il8_72), .val (.ref b78), .unset, .unset] [(.double (FP.i2d il7_72)), (.int (2 : Int32)), (.ref b78)])) rfl rfl (hb hby at_177)
            have V81 : Arv Z h81 b78 k78 .double (4 : Int32) [(.double (FP.i2d il5_72)), (.double (FP.i2d il6_72)), (.double (FP.i2d il7_72)), (.double 0)] (.double 0) := Arv.set Ar81 q81 S81 N81_ H81 G81 rfl W81 2 rfl (Nat.le_of_ble_eq_true rfl)
            have Zs81 : n0 ≤ h81.size := (by rw [W81.size]; exact Zs80)
            have N81 := Fr.snoc X81 N80 g_b78
            refine own_step st81 ?_
            show own_Ends p e below s _ _ _ T81 (mkF m 178 #[.val (.int i0), .val (.int i1), .val (.int i2), .val (.int i3), .val (.int (4 : Int32)), .val (.int il5_72), .val (.int il6_72), .val (.int il7_72), .val (.int il8_72), .val (.int il9_72), .val (.double dl10_72), .second, .val (.int il8_72), .val (.ref b78), .unset, .unset] [])
            refine own_step (fun _ => XS.iload X81.here hx rfl (hb hby at_178) rfl) ?_
            show own_Ends p e below s _ _ _ T81 (mkF m 180 #[.val (.int i0), .val (.int i1), .val (.int i2), .val (.int i3), .val (.int (4 : Int32)), .val (.int il5_72), .val (.int il6_72), .val (.int il7_72), .val (.int il8_72), .val (.int il9_72), .val (.double dl10_72), .second, .val (.int il8_72), .val (.ref b78), .unset, .unset] [(.int (4 : Int32))])
            refine own_step (fun _ => XS.iconst X81.here hx rfl (hb hby at_180)) ?_
            show own_Ends p e below s _ _ _ T81 (mkF m 181 #[.val (.int i0), .val (.int i1), .val (.int i2), .val (.int i3), .val (.int (4 : Int32)), .val (.int il5_72), .val (.int il6_72), .val (.int il7_72), .val (.int il8_72), .val (.int il9_72), .val (.double dl10_72), .second, .val (.int il8_72), .val (.ref b78), .unset, .unset] [(.int (3 : Int32)), (.int (4 : Int32))])
            refine own_step (fun _ => XS.icmpNo X81.here hx rfl (hb hby at_181) rfl (tlt (show (3 : Int32) < (4 : Int32) from (by decide))).2.2.2) ?_
            show own_Ends p e below s _ _ _ T81 (mkF m 184 #[.val (.int i0), .val (.int i1), .val (.int i2), .val (.int i3), .val (.int (4 : Int32)), .val (.int il5_72), .val (.int il6_72), .val (.int il7_72), .val (.int il8_72), .val (.int il9_72), .val (.double dl10_72), .second, .val (.int il8_72), .val (.ref b78), .unset, .unset] [])
            refine own_step (fun _ => XS.aload X81.here hx rfl (hb hby at_184) rfl rfl) ?_
            show own_Ends p e below s _ _ _ T81 (mkF m 186 #[.val (.int i0), .val (.int i1), .val (.int i2), .val (.int i3), .val (.int (4 : Int32)), .val (.int il5_72), .val (.int il6_72), .val (.int il7_72), .val (.int il8_72), .val (.int il9_72), .val (.double dl10_72), .second, .val (.int il8_72), .val (.ref b78), .unset, .unset] [(.ref b78)])
            refine own_step (fun _ => XS.iconst X81.here hx rfl (hb hby at_186)) ?_
            show own_Ends p e below s _ _ _ T81 (mkF m 187 #[.val (.int i0), .val (.int i1), .val (.int i2), .val (.int i3), .val (.int (4 : Int32)), .val (.int il5_72), .val (.int il6_72), .val (.int il7_72), .val (.int il8_72), .val (.int il9_72), .val (.double dl10_72), .second, .val (.int il8_72), .val (.ref b78), .unset, .unset] [(.int (3 : Int32)), (.ref b78)])
            refine own_step (fun _ => XS.iload X81.here hx rfl (hb hby at_187) rfl) ?_
            show own_Ends p e below s _ _ _ T81 (mkF m 189 #[.val (.int i0), .val (.int i1), .val (.int i2), .val (.int i3), .val (.int (4 : Int32)), .val (.int il5_72), .val (.int il6_72), .val (.int il7_72), .val (.int il8_72), .val (.int il9_72), .val (.double dl10_72), .second, .val (.int il8_72), .val (.ref b78), .unset, .unset] [(.int il8_72), (.int (3 : Int32)), (.ref b78)])
            refine own_step (fun _ => XS.i2dS X81.here hx rfl (hb hby at_189) rfl rfl) ?_
            show own_Ends p e below s _ _ _ T81 (mkF m 190 #[.val (.int i0), .val (.int i1), .val (.int i2), .val (.int i3), .val (.int (4 : Int32)), .val (.int il5_72), .val (.int il6_72), .val (.int il7_72), .val (.int il8_72), .val (.int il9_72), .val (.double dl10_72), .second, .val (.int il8_72), .val (.ref b78), .unset, .unset] [(.double (FP.i2d il8_72)), (.int (3 : Int32)), (.ref b78)])
            obtain ⟨cl82, Ar82, q82, S82, N82_, H82, G82⟩ := id V81
            have hin82 : ¬ ((3 : Int32) < 0 ∨ cl82.slots.size ≤ ((3 : Int32)).toNatClampNeg) := inb_of S82 ⟨by decide, by decide⟩
            obtain ⟨T82, h82, X82, e82, W82, st82⟩ := stD X81 hx hZ e81 Ar82 (j := (3 : Int32)) hin82 (g := (mkF m 190 #[.val (.int i0), .val (.int i1), .val (.int i2), .val (.int i3), .val (.int (4 : Int32)), .val (.int il5_72), .val (.int il6_72), .val (.int il7_72), .val (.int il8_72), .val (.int il9_72), .val (.double dl10_72), .second, .val (.int il8_72), .val (.ref b78), .unset, .unset] [(.double (FP.i2d il8_72)), (.int (3 : Int32)), (.ref b78)])) rfl rfl (hb hby at_190)
            have V82 : Arv Z h82 b78 k78 .double (4 : Int32) [(.double (FP.i2d il5_72)), (.double (FP.i2d il6_72)), (.double (FP.i2d il7_72)), (.double (FP.i2d il8_72))] (.double 0) := Arv.set Ar82 q82 S82 N82_ H82 G82 rfl W82 3 rfl (Nat.le_of_ble_eq_true rfl)
            have Zs82 : n0 ≤ h82.size := (by rw [W82.size]; exact Zs81)
            have N82 := Fr.snoc X82 N81 g_b78
            refine own_step st82 ?_
            show own_Ends p e below s _ _ _ T82 (mkF m 191 #[.val (.int i0), .val (.int i1), .val (.int i2), .val (.int i3), .val (.int (4 : Int32)), .val (.int il5_72), .val (.int il6_72), .val (.int il7_72), .val (.int il8_72), .val (.int il9_72), .val (.double dl10_72), .second, .val (.int il8_72), .val (.ref b78), .unset, .unset] [])
            refine own_step (fun _ => XS.iload X82.here hx rfl (hb hby at_191) rfl) ?_
            show own_Ends p e below s _ _ _ T82 (mkF m 193 #[.val (.int i0), .val (.int i1), .val (.int i2), .val (.int i3), .val (.int (4 : Int32)), .val (.int il5_72), .val (.int il6_72), .val (.int il7_72), .val (.int il8_72), .val (.int il9_72), .val (.double dl10_72), .second, .val (.int il8_72), .val (.ref b78), .unset, .unset] [(.int (4 : Int32))])
            refine own_step (fun _ => XS.iconst X82.here hx rfl (hb hby at_193)) ?_
            show own_Ends p e below s _ _ _ T82 (mkF m 194 #[.val (.int i0), .val (.int i1), .val (.int i2), .val (.int i3), .val (.int (4 : Int32)), .val (.int il5_72), .val (.int il6_72), .val (.int il7_72), .val (.int il8_72), .val (.int il9_72), .val (.double dl10_72), .second, .val (.int il8_72), .val (.ref b78), .unset, .unset] [(.int (4 : Int32)), (.int (4 : Int32))])
            refine own_step (fun _ => XS.icmpYes X82.here hx rfl (pc0 := 194) (pc' := 204) rfl (hb hby at_194) rfl (flt (show ¬ ((4 : Int32) < (4 : Int32)) from (by decide))).2.2.2 (by decide) (by decide)) ?_
            show own_Ends p e below s _ _ _ T82 (mkF m 204 #[.val (.int i0), .val (.int i1), .val (.int i2), .val (.int i3), .val (.int (4 : Int32)), .val (.int il5_72), .val (.int il6_72), .val (.int il7_72), .val (.int il8_72), .val (.int il9_72), .val (.double dl10_72), .second, .val (.int il8_72), .val (.ref b78), .unset, .unset] [])
            refine own_step (fun _ => XS.iconst X82.here hx rfl (hb hby at_204)) ?_
            show own_Ends p e below s _ _ _ T82 (mkF m 205 #[.val (.int i0), .val (.int i1), .val (.int i2), .val (.int i3), .val (.int (4 : Int32)), .val (.int il5_72), .val (.int il6_72), .val (.int il7_72), .val (.int il8_72), .val (.int il9_72), .val (.double dl10_72), .second, .val (.int il8_72), .val (.ref b78), .unset, .unset] [(.int (1 : Int32))])
            refine own_step (fun _ => XS.iload X82.here hx rfl (hb hby at_205) rfl) ?_
            show own_Ends p e below s _ _ _ T82 (mkF m 207 #[.val (.int i0), .val (.int i1), .val (.int i2), .val (.int i3), .val (.int (4 : Int32)), .val (.int il5_72), .val (.int il6_72), .val (.int il7_72), .val (.int il8_72), .val (.int il9_72), .val (.double dl10_72), .second, .val (.int il8_72), .val (.ref b78), .unset, .unset] [(.int il5_72), (.int (1 : Int32))])
            refine own_step (fun _ => XS.dload X82.here hx rfl (hb hby at_207) rfl) ?_
            show own_Ends p e below s _ _ _ T82 (mkF m 209 #[.val (.int i0), .val (.int i1), .val (.int i2), .val (.int i3), .val (.int (4 : Int32)), .val (.int il5_72), .val (.int il6_72), .val (.int il7_72), .val (.int il8_72), .val (.int il9_72), .val (.double dl10_72), .second, .val (.int il8_72), .val (.ref b78), .unset, .unset] [(.double dl10_72), (.int il5_72), (.int (1 : Int32))])
            obtain ⟨_, _, ⟨T83, L83, k83, n83⟩, -, X83, ⟨Lc83, hQ83, l83, y83, z83⟩, st83⟩ := Jvm.LawKit.callS X82 hx (y := (⟨"com/example/graded_queue/gradedqueue/sim/CumulativeFirstAbovePinLaw", "le", "(ZID)I"⟩ : MethodName)) hown (mvT hZ (hw _ (List.mem_of_getElem? (i := 3) rfl))) (mvT hZ (hw _ (List.mem_of_getElem? (i := 4) rfl))) (mvT hZ (hw _ (List.mem_of_getElem? (i := 5) rfl))) (mvT hZ (hw _ (List.mem_of_getElem? (i := 6) rfl))) (by decide) (backOf (W := 0) (rm1 l Z a0 hw [] (1 : Int32) il5_72 dl10_72 h82 n0 Zs82) hZ (hw _ (List.mem_of_getElem? (i := 6) rfl)) (hw _ (List.mem_of_getElem? (i := 5) rfl)) (by decide) (by decide)) (g := (mkF m 209 #[.val (.int i0), .val (.int i1), .val (.int i2), .val (.int i3), .val (.int (4 : Int32)), .val (.int il5_72), .val (.int il6_72), .val (.int il7_72), .val (.int il8_72), .val (.int il9_72), .val (.double dl10_72), .second, .val (.int il8_72), .val (.ref b78), .unset, .unset] [(.double dl10_72), (.int il5_72), (.int (1 : Int32))])) rfl (by rw [hml]; rfl) (argsL := [(.int (1 : Int32)), (.int il5_72), (.double dl10_72)]) (rest := []) (lenOf pd_0 rfl) rfl (by show 2 * 0 + _ ≤ _; exact Nat.le_of_eq rfl) (hb hby at_209) (fun _ _ => ⟨rfl, e82, (by decide : 1 + 0 ≤ _), (by decide : 4 + 0 ≤ _)⟩)
            dsimp only [Pt.U, Pt.locs, Pt.cells, Pt.slots] at X83 l83 y83 z83 st83 hQ83
            subst l83 y83 z83
            obtain ⟨rfl, N83q, hh83⟩ := hQ83
            have N83 := Fr.app N82 N83q
            refine own_step st83 ?_
            show own_Ends p e below s _ _ _ T83 (mkF m 212 #[.val (.int i0), .val (.int i1), .val (.int i2), .val (.int i3), .val (.int (4 : Int32)), .val (.int il5_72), .val (.int il6_72), .val (.int il7_72), .val (.int il8_72), .val (.int il9_72), .val (.double dl10_72), .second, .val (.int il8_72), .val (.ref b78), .unset, .unset] [(.int (f1_0 (1 : Int32) il5_72 dl10_72))])
            refine own_step (fun _ => XS.iload X83.here hx rfl (hb hby at_212) rfl) ?_
            show own_Ends p e below s _ _ _ T83 (mkF m 214 #[.val (.int i0), .val (.int i1), .val (.int i2), .val (.int i3), .val (.int (4 : Int32)), .val (.int il5_72), .val (.int il6_72), .val (.int il7_72), .val (.int il8_72), .val (.int il9_72), .val (.double dl10_72), .second, .val (.int il8_72), .val (.ref b78), .unset, .unset] [(.int (4 : Int32)), (.int (f1_0 (1 : Int32) il5_72 dl10_72))])
            refine own_step (fun _ => XS.iconst X83.here hx rfl (hb hby at_214)) ?_
            show own_Ends p e below s _ _ _ T83 (mkF m 215 #[.val (.int i0), .val (.int i1), .val (.int i2), .val (.int i3), .val (.int (4 : Int32)), .val (.int il5_72), .val (.int il6_72), .val (.int il7_72), .val (.int il8_72), .val (.int il9_72), .val (.double dl10_72), .second, .val (.int il8_72), .val (.ref b78), .unset, .unset] [(.int (1 : Int32)), (.int (4 : Int32)), (.int (f1_0 (1 : Int32) il5_72 dl10_72))])
            refine own_step (fun _ => XS.icmpNo X83.here hx rfl (hb hby at_215) rfl (tlt (show (1 : Int32) < (4 : Int32) from (by decide))).2.2.2) ?_
            show own_Ends p e below s _ _ _ T83 (mkF m 218 #[.val (.int i0), .val (.int i1), .val (.int i2), .val (.int i3), .val (.int (4 : Int32)), .val (.int il5_72), .val (.int il6_72), .val (.int il7_72), .val (.int il8_72), .val (.int il9_72), .val (.double dl10_72), .second, .val (.int il8_72), .val (.ref b78), .unset, .unset] [(.int (f1_0 (1 : Int32) il5_72 dl10_72))])
            refine own_step (fun _ => XS.iconst X83.here hx rfl (hb hby at_218)) ?_
            show own_Ends p e below s _ _ _ T83 (mkF m 219 #[.val (.int i0), .val (.int i1), .val (.int i2), .val (.int i3), .val (.int (4 : Int32)), .val (.int il5_72), .val (.int il6_72), .val (.int il7_72), .val (.int il8_72), .val (.int il9_72), .val (.double dl10_72), .second, .val (.int il8_72), .val (.ref b78), .unset, .unset] [(.int (1 : Int32)), (.int (f1_0 (1 : Int32) il5_72 dl10_72))])
            refine own_step (fun _ => XS.goto X83.here hx rfl (pc0 := 219) (pc' := 223) rfl (hb hby at_219) (by decide) (by decide)) ?_
            show own_Ends p e below s _ _ _ T83 (mkF m 223 #[.val (.int i0), .val (.int i1), .val (.int i2), .val (.int i3), .val (.int (4 : Int32)), .val (.int il5_72), .val (.int il6_72), .val (.int il7_72), .val (.int il8_72), .val (.int il9_72), .val (.double dl10_72), .second, .val (.int il8_72), .val (.ref b78), .unset, .unset] [(.int (1 : Int32)), (.int (f1_0 (1 : Int32) il5_72 dl10_72))])
            refine own_step (fun _ => XS.iload X83.here hx rfl (hb hby at_223) rfl) ?_
            show own_Ends p e below s _ _ _ T83 (mkF m 225 #[.val (.int i0), .val (.int i1), .val (.int i2), .val (.int i3), .val (.int (4 : Int32)), .val (.int il5_72), .val (.int il6_72), .val (.int il7_72), .val (.int il8_72), .val (.int il9_72), .val (.double dl10_72), .second, .val (.int il8_72), .val (.ref b78), .unset, .unset] [(.int il6_72), (.int (1 : Int32)), (.int (f1_0 (1 : Int32) il5_72 dl10_72))])
            refine own_step (fun _ => XS.dload X83.here hx rfl (hb hby at_225) rfl) ?_
            show own_Ends p e below s _ _ _ T83 (mkF m 227 #[.val (.int i0), .val (.int i1), .val (.int i2), .val (.int i3), .val (.int (4 : Int32)), .val (.int il5_72), .val (.int il6_72), .val (.int il7_72), .val (.int il8_72), .val (.int il9_72), .val (.double dl10_72), .second, .val (.int il8_72), .val (.ref b78), .unset, .unset] [(.double dl10_72), (.int il6_72), (.int (1 : Int32)), (.int (f1_0 (1 : Int32) il5_72 dl10_72))])
            obtain ⟨_, _, ⟨T84, L84, k84, n84⟩, -, X84, ⟨Lc84, hQ84, l84, y84, z84⟩, st84⟩ := Jvm.LawKit.callS X83 hx (y := (⟨"com/example/graded_queue/gradedqueue/sim/CumulativeFirstAbovePinLaw", "le", "(ZID)I"⟩ : MethodName)) hown (mvT hZ (hw _ (List.mem_of_getElem? (i := 3) rfl))) (mvT hZ (hw _ (List.mem_of_getElem? (i := 4) rfl))) (mvT hZ (hw _ (List.mem_of_getElem? (i := 5) rfl))) (mvT hZ (hw _ (List.mem_of_getElem? (i := 6) rfl))) (by decide) (backOf (W := 1) (rm1 l Z a0 hw [] (1 : Int32) il6_72 dl10_72 h82 n0 Zs82) hZ (hw _ (List.mem_of_getElem? (i := 6) rfl)) (hw _ (List.mem_of_getElem? (i := 5) rfl)) (by decide) (by decide)) (g := (mkF m 227 #[.val (.int i0), .val (.int i1), .val (.int i2), .val (.int i3), .val (.int (4 : Int32)), .val (.int il5_72), .val (.int il6_72), .val (.int il7_72), .val (.int il8_72), .val (.int il9_72), .val (.double dl10_72), .second, .val (.int il8_72), .val (.ref b78), .unset, .unset] [(.double dl10_72), (.int il6_72), (.int (1 : Int32)), (.int (f1_0 (1 : Int32) il5_72 dl10_72))])) rfl (by rw [hml]; rfl) (argsL := [(.int (1 : Int32)), (.int il6_72), (.double dl10_72)]) (rest := [(.int (f1_0 (1 : Int32) il5_72 dl10_72))]) (lenOf pd_0 rfl) rfl (by show 2 * 0 + _ ≤ _; exact Nat.le_of_eq rfl) (hb hby at_227) (fun _ _ => ⟨rfl, hh83, (by decide : 1 + 0 ≤ _), (by decide : 4 + 0 ≤ _)⟩)
            dsimp only [Pt.U, Pt.locs, Pt.cells, Pt.slots] at X84 l84 y84 z84 st84 hQ84
            subst l84 y84 z84
            obtain ⟨rfl, N84q, hh84⟩ := hQ84
            have N84 := Fr.app N83 N84q
            refine own_step st84 ?_
            show own_Ends p e below s _ _ _ T84 (mkF m 230 #[.val (.int i0), .val (.int i1), .val (.int i2), .val (.int i3), .val (.int (4 : Int32)), .val (.int il5_72), .val (.int il6_72), .val (.int il7_72), .val (.int il8_72), .val (.int il9_72), .val (.double dl10_72), .second, .val (.int il8_72), .val (.ref b78), .unset, .unset] [(.int (f1_0 (1 : Int32) il6_72 dl10_72)), (.int (f1_0 (1 : Int32) il5_72 dl10_72))])
            refine own_step (fun _ => XS.iadd X84.here hx rfl (hb hby at_230) rfl) ?_
            show own_Ends p e below s _ _ _ T84 (mkF m 231 #[.val (.int i0), .val (.int i1), .val (.int i2), .val (.int i3), .val (.int (4 : Int32)), .val (.int il5_72), .val (.int il6_72), .val (.int il7_72), .val (.int il8_72), .val (.int il9_72), .val (.double dl10_72), .second, .val (.int il8_72), .val (.ref b78), .unset, .unset] [(.int ((f1_0 (1 : Int32) il5_72 dl10_72) + (f1_0 (1 : Int32) il6_72 dl10_72)))])
            refine own_step (fun _ => XS.iload X84.here hx rfl (hb hby at_231) rfl) ?_
            show own_Ends p e below s _ _ _ T84 (mkF m 233 #[.val (.int i0), .val (.int i1), .val (.int i2), .val (.int i3), .val (.int (4 : Int32)), .val (.int il5_72), .val (.int il6_72), .val (.int il7_72), .val (.int il8_72), .val (.int il9_72), .val (.double dl10_72), .second, .val (.int il8_72), .val (.ref b78), .unset, .unset] [(.int (4 : Int32)), (.int ((f1_0 (1 : Int32) il5_72 dl10_72) + (f1_0 (1 : Int32) il6_72 dl10_72)))])
            refine own_step (fun _ => XS.iconst X84.here hx rfl (hb hby at_233)) ?_
            show own_Ends p e below s _ _ _ T84 (mkF m 234 #[.val (.int i0), .val (.int i1), .val (.int i2), .val (.int i3), .val (.int (4 : Int32)), .val (.int il5_72), .val (.int il6_72), .val (.int il7_72), .val (.int il8_72), .val (.int il9_72), .val (.double dl10_72), .second, .val (.int il8_72), .val (.ref b78), .unset, .unset] [(.int (2 : Int32)), (.int (4 : Int32)), (.int ((f1_0 (1 : Int32) il5_72 dl10_72) + (f1_0 (1 : Int32) il6_72 dl10_72)))])
            refine own_step (fun _ => XS.icmpNo X84.here hx rfl (hb hby at_234) rfl (tlt (show (2 : Int32) < (4 : Int32) from (by decide))).2.2.2) ?_
            show own_Ends p e below s _ _ _ T84 (mkF m 237 #[.val (.int i0), .val (.int i1), .val (.int i2), .val (.int i3), .val (.int (4 : Int32)), .val (.int il5_72), .val (.int il6_72), .val (.int il7_72), .val (.int il8_72), .val (.int il9_72), .val (.double dl10_72), .second, .val (.int il8_72), .val (.ref b78), .unset, .unset] [(.int ((f1_0 (1 : Int32) il5_72 dl10_72) + (f1_0 (1 : Int32) il6_72 dl10_72)))])
            refine own_step (fun _ => XS.iconst X84.here hx rfl (hb hby at_237)) ?_
            show own_Ends p e below s _ _ _ T84 (mkF m 238 #[.val (.int i0), .val (.int i1), .val (.int i2), .val (.int i3), .val (.int (4 : Int32)), .val (.int il5_72), .val (.int il6_72), .val (.int il7_72), .val (.int il8_72), .val (.int il9_72), .val (.double dl10_72), .second, .val (.int il8_72), .val (.ref b78), .unset, .unset] [(.int (1 : Int32)), (.int ((f1_0 (1 : Int32) il5_72 dl10_72) + (f1_0 (1 : Int32) il6_72 dl10_72)))])
            refine own_step (fun _ => XS.goto X84.here hx rfl (pc0 := 238) (pc' := 242) rfl (hb hby at_238) (by decide) (by decide)) ?_
            show own_Ends p e below s _ _ _ T84 (mkF m 242 #[.val (.int i0), .val (.int i1), .val (.int i2), .val (.int i3), .val (.int (4 : Int32)), .val (.int il5_72), .val (.int il6_72), .val (.int il7_72), .val (.int il8_72), .val (.int il9_72), .val (.double dl10_72), .second, .val (.int il8_72), .val (.ref b78), .unset, .unset] [(.int (1 : Int32)), (.int ((f1_0 (1 : Int32) il5_72 dl10_72) + (f1_0 (1 : Int32) il6_72 dl10_72)))])
            refine own_step (fun _ => XS.iload X84.here hx rfl (hb hby at_242) rfl) ?_
            show own_Ends p e below s _ _ _ T84 (mkF m 244 #[.val (.int i0), .val (.int i1), .val (.int i2), .val (.int i3), .val (.int (4 : Int32)), .val (.int il5_72), .val (.int il6_72), .val (.int il7_72), .val (.int il8_72), .val (.int il9_72), .val (.double dl10_72), .second, .val (.int il8_72), .val (.ref b78), .unset, .unset] [(.int il7_72), (.int (1 : Int32)), (.int ((f1_0 (1 : Int32) il5_72 dl10_72) + (f1_0 (1 : Int32) il6_72 dl10_72)))])
            refine own_step (fun _ => XS.dload X84.here hx rfl (hb hby at_244) rfl) ?_
            show own_Ends p e below s _ _ _ T84 (mkF m 246 #[.val (.int i0), .val (.int i1), .val (.int i2), .val (.int i3), .val (.int (4 : Int32)), .val (.int il5_72), .val (.int il6_72), .val (.int il7_72), .val (.int il8_72), .val (.int il9_72), .val (.double dl10_72), .second, .val (.int il8_72), .val (.ref b78), .unset, .unset] [(.double dl10_72), (.int il7_72), (.int (1 : Int32)), (.int ((f1_0 (1 : Int32) il5_72 dl10_72) + (f1_0 (1 : Int32) il6_72 dl10_72)))])
            obtain ⟨_, _, ⟨T85, L85, k85, n85⟩, -, X85, ⟨Lc85, hQ85, l85, y85, z85⟩, st85⟩ := Jvm.LawKit.callS X84 hx (y := (⟨"com/example/graded_queue/gradedqueue/sim/CumulativeFirstAbovePinLaw", "le", "(ZID)I"⟩ : MethodName)) hown (mvT hZ (hw _ (List.mem_of_getElem? (i := 3) rfl))) (mvT hZ (hw _ (List.mem_of_getElem? (i := 4) rfl))) (mvT hZ (hw _ (List.mem_of_getElem? (i := 5) rfl))) (mvT hZ (hw _ (List.mem_of_getElem? (i := 6) rfl))) (by decide) (backOf (W := 1) (rm1 l Z a0 hw [] (1 : Int32) il7_72 dl10_72 h82 n0 Zs82) hZ (hw _ (List.mem_of_getElem? (i := 6) rfl)) (hw _ (List.mem_of_getElem? (i := 5) rfl)) (by decide) (by decide)) (g := (mkF m 246 #[.val (.int i0), .val (.int i1), .val (.int i2), .val (.int i3), .val (.int (4 : Int32)), .val (.int il5_72), .val (.int il6_72), .val (.int il7_72), .val (.int il8_72), .val (.int il9_72), .val (.double dl10_72), .second, .val (.int il8_72), .val (.ref b78), .unset, .unset] [(.double dl10_72), (.int il7_72), (.int (1 : Int32)), (.int ((f1_0 (1 : Int32) il5_72 dl10_72) + (f1_0 (1 : Int32) il6_72 dl10_72)))])) rfl (by rw [hml]; rfl) (argsL := [(.int (1 : Int32)), (.int il7_72), (.double dl10_72)]) (rest := [(.int ((f1_0 (1 : Int32) il5_72 dl10_72) + (f1_0 (1 : Int32) il6_72 dl10_72)))]) (lenOf pd_0 rfl) rfl (by show 2 * 0 + _ ≤ _; exact Nat.le_of_eq rfl) (hb hby at_246) (fun _ _ => ⟨rfl, hh84, (by decide : 1 + 0 ≤ _), (by decide : 4 + 0 ≤ _)⟩)
            dsimp only [Pt.U, Pt.locs, Pt.cells, Pt.slots] at X85 l85 y85 z85 st85 hQ85
            subst l85 y85 z85
            obtain ⟨rfl, N85q, hh85⟩ := hQ85
            have N85 := Fr.app N84 N85q
            refine own_step st85 ?_
            show own_Ends p e below s _ _ _ T85 (mkF m 249 #[.val (.int i0), .val (.int i1), .val (.int i2), .val (.int i3), .val (.int (4 : Int32)), .val (.int il5_72), .val (.int il6_72), .val (.int il7_72), .val (.int il8_72), .val (.int il9_72), .val (.double dl10_72), .second, .val (.int il8_72), .val (.ref b78), .unset, .unset] [(.int (f1_0 (1 : Int32) il7_72 dl10_72)), (.int ((f1_0 (1 : Int32) il5_72 dl10_72) + (f1_0 (1 : Int32) il6_72 dl10_72)))])
            refine own_step (fun _ => XS.iadd X85.here hx rfl (hb hby at_249) rfl) ?_
            show own_Ends p e below s _ _ _ T85 (mkF m 250 #[.val (.int i0), .val (.int i1), .val (.int i2), .val (.int i3), .val (.int (4 : Int32)), .val (.int il5_72), .val (.int il6_72), .val (.int il7_72), .val (.int il8_72), .val (.int il9_72), .val (.double dl10_72), .second, .val (.int il8_72), .val (.ref b78), .unset, .unset] [(.int (((f1_0 (1 : Int32) il5_72 dl10_72) + (f1_0 (1 : Int32) il6_72 dl10_72)) + (f1_0 (1 : Int32) il7_72 dl10_72)))])
            refine own_step (fun _ => XS.iload X85.here hx rfl (hb hby at_250) rfl) ?_
            show own_Ends p e below s _ _ _ T85 (mkF m 252 #[.val (.int i0), .val (.int i1), .val (.int i2), .val (.int i3), .val (.int (4 : Int32)), .val (.int il5_72), .val (.int il6_72), .val (.int il7_72), .val (.int il8_72), .val (.int il9_72), .val (.double dl10_72), .second, .val (.int il8_72), .val (.ref b78), .unset, .unset] [(.int (4 : Int32)), (.int (((f1_0 (1 : Int32) il5_72 dl10_72) + (f1_0 (1 : Int32) il6_72 dl10_72)) + (f1_0 (1 : Int32) il7_72 dl10_72)))])
            refine own_step (fun _ => XS.iconst X85.here hx rfl (hb hby at_252)) ?_
            show own_Ends p e below s _ _ _ T85 (mkF m 253 #[.val (.int i0), .val (.int i1), .val (.int i2), .val (.int i3), .val (.int (4 : Int32)), .val (.int il5_72), .val (.int il6_72), .val (.int il7_72), .val (.int il8_72), .val (.int il9_72), .val (.double dl10_72), .second, .val (.int il8_72), .val (.ref b78), .unset, .unset] [(.int (3 : Int32)), (.int (4 : Int32)), (.int (((f1_0 (1 : Int32) il5_72 dl10_72) + (f1_0 (1 : Int32) il6_72 dl10_72)) + (f1_0 (1 : Int32) il7_72 dl10_72)))])
            refine own_step (fun _ => XS.icmpNo X85.here hx rfl (hb hby at_253) rfl (tlt (show (3 : Int32) < (4 : Int32) from (by decide))).2.2.2) ?_
            show own_Ends p e below s _ _ _ T85 (mkF m 256 #[.val (.int i0), .val (.int i1), .val (.int i2), .val (.int i3), .val (.int (4 : Int32)), .val (.int il5_72), .val (.int il6_72), .val (.int il7_72), .val (.int il8_72), .val (.int il9_72), .val (.double dl10_72), .second, .val (.int il8_72), .val (.ref b78), .unset, .unset] [(.int (((f1_0 (1 : Int32) il5_72 dl10_72) + (f1_0 (1 : Int32) il6_72 dl10_72)) + (f1_0 (1 : Int32) il7_72 dl10_72)))])
            refine own_step (fun _ => XS.iconst X85.here hx rfl (hb hby at_256)) ?_
            show own_Ends p e below s _ _ _ T85 (mkF m 257 #[.val (.int i0), .val (.int i1), .val (.int i2), .val (.int i3), .val (.int (4 : Int32)), .val (.int il5_72), .val (.int il6_72), .val (.int il7_72), .val (.int il8_72), .val (.int il9_72), .val (.double dl10_72), .second, .val (.int il8_72), .val (.ref b78), .unset, .unset] [(.int (1 : Int32)), (.int (((f1_0 (1 : Int32) il5_72 dl10_72) + (f1_0 (1 : Int32) il6_72 dl10_72)) + (f1_0 (1 : Int32) il7_72 dl10_72)))])
            refine own_step (fun _ => XS.goto X85.here hx rfl (pc0 := 257) (pc' := 261) rfl (hb hby at_257) (by decide) (by decide)) ?_
            show own_Ends p e below s _ _ _ T85 (mkF m 261 #[.val (.int i0), .val (.int i1), .val (.int i2), .val (.int i3), .val (.int (4 : Int32)), .val (.int il5_72), .val (.int il6_72), .val (.int il7_72), .val (.int il8_72), .val (.int il9_72), .val (.double dl10_72), .second, .val (.int il8_72), .val (.ref b78), .unset, .unset] [(.int (1 : Int32)), (.int (((f1_0 (1 : Int32) il5_72 dl10_72) + (f1_0 (1 : Int32) il6_72 dl10_72)) + (f1_0 (1 : Int32) il7_72 dl10_72)))])
            refine own_step (fun _ => XS.iload X85.here hx rfl (hb hby at_261) rfl) ?_
            show own_Ends p e below s _ _ _ T85 (mkF m 263 #[.val (.int i0), .val (.int i1), .val (.int i2), .val (.int i3), .val (.int (4 : Int32)), .val (.int il5_72), .val (.int il6_72), .val (.int il7_72), .val (.int il8_72), .val (.int il9_72), .val (.double dl10_72), .second, .val (.int il8_72), .val (.ref b78), .unset, .unset] [(.int il8_72), (.int (1 : Int32)), (.int (((f1_0 (1 : Int32) il5_72 dl10_72) + (f1_0 (1 : Int32) il6_72 dl10_72)) + (f1_0 (1 : Int32) il7_72 dl10_72)))])
            refine own_step (fun _ => XS.dload X85.here hx rfl (hb hby at_263) rfl) ?_
            show own_Ends p e below s _ _ _ T85 (mkF m 265 #[.val (.int i0), .val (.int i1), .val (.int i2), .val (.int i3), .val (.int (4 : Int32)), .val (.int il5_72), .val (.int il6_72), .val (.int il7_72), .val (.int il8_72), .val (.int il9_72), .val (.double dl10_72), .second, .val (.int il8_72), .val (.ref b78), .unset, .unset] [(.double dl10_72), (.int il8_72), (.int (1 : Int32)), (.int (((f1_0 (1 : Int32) il5_72 dl10_72) + (f1_0 (1 : Int32) il6_72 dl10_72)) + (f1_0 (1 : Int32) il7_72 dl10_72)))])
            obtain ⟨_, _, ⟨T86, L86, k86, n86⟩, -, X86, ⟨Lc86, hQ86, l86, y86, z86⟩, st86⟩ := Jvm.LawKit.callS X85 hx (y := (⟨"com/example/graded_queue/gradedqueue/sim/CumulativeFirstAbovePinLaw", "le", "(ZID)I"⟩ : MethodName)) hown (mvT hZ (hw _ (List.mem_of_getElem? (i := 3) rfl))) (mvT hZ (hw _ (List.mem_of_getElem? (i := 4) rfl))) (mvT hZ (hw _ (List.mem_of_getElem? (i := 5) rfl))) (mvT hZ (hw _ (List.mem_of_getElem? (i := 6) rfl))) (by decide) (backOf (W := 1) (rm1 l Z a0 hw [] (1 : Int32) il8_72 dl10_72 h82 n0 Zs82) hZ (hw _ (List.mem_of_getElem? (i := 6) rfl)) (hw _ (List.mem_of_getElem? (i := 5) rfl)) (by decide) (by decide)) (g := (mkF m 265 #[.val (.int i0), .val (.int i1), .val (.int i2), .val (.int i3), .val (.int (4 : Int32)), .val (.int il5_72), .val (.int il6_72), .val (.int il7_72), .val (.int il8_72), .val (.int il9_72), .val (.double dl10_72), .second, .val (.int il8_72), .val (.ref b78), .unset, .unset] [(.double dl10_72), (.int il8_72), (.int (1 : Int32)), (.int (((f1_0 (1 : Int32) il5_72 dl10_72) + (f1_0 (1 : Int32) il6_72 dl10_72)) + (f1_0 (1 : Int32) il7_72 dl10_72)))])) rfl (by rw [hml]; rfl) (argsL := [(.int (1 : Int32)), (.int il8_72), (.double dl10_72)]) (rest := [(.int (((f1_0 (1 : Int32) il5_72 dl10_72) + (f1_0 (1 : Int32) il6_72 dl10_72)) + (f1_0 (1 : Int32) il7_72 dl10_72)))]) (lenOf pd_0 rfl) rfl (by show 2 * 0 + _ ≤ _; exact Nat.le_of_eq rfl) (hb hby at_265) (fun _ _ => ⟨rfl, hh85, (by decide : 1 + 0 ≤ _), (by decide : 4 + 0 ≤ _)⟩)
            dsimp only [Pt.U, Pt.locs, Pt.cells, Pt.slots] at X86 l86 y86 z86 st86 hQ86
            subst l86 y86 z86
            obtain ⟨rfl, N86q, hh86⟩ := hQ86
            have N86 := Fr.app N85 N86q
            refine own_step st86 ?_
            show own_Ends p e below s _ _ _ T86 (mkF m 268 #[.val (.int i0), .val (.int i1), .val (.int i2), .val (.int i3), .val (.int (4 : Int32)), .val (.int il5_72), .val (.int il6_72), .val (.int il7_72), .val (.int il8_72), .val (.int il9_72), .val (.double dl10_72), .second, .val (.int il8_72), .val (.ref b78), .unset, .unset] [(.int (f1_0 (1 : Int32) il8_72 dl10_72)), (.int (((f1_0 (1 : Int32) il5_72 dl10_72) + (f1_0 (1 : Int32) il6_72 dl10_72)) + (f1_0 (1 : Int32) il7_72 dl10_72)))])
            refine own_step (fun _ => XS.iadd X86.here hx rfl (hb hby at_268) rfl) ?_
            show own_Ends p e below s _ _ _ T86 (mkF m 269 #[.val (.int i0), .val (.int i1), .val (.int i2), .val (.int i3), .val (.int (4 : Int32)), .val (.int il5_72), .val (.int il6_72), .val (.int il7_72), .val (.int il8_72), .val (.int il9_72), .val (.double dl10_72), .second, .val (.int il8_72), .val (.ref b78), .unset, .unset] [(.int ((((f1_0 (1 : Int32) il5_72 dl10_72) + (f1_0 (1 : Int32) il6_72 dl10_72)) + (f1_0 (1 : Int32) il7_72 dl10_72)) + (f1_0 (1 : Int32) il8_72 dl10_72)))])
            refine own_step (fun _ => XS.iload X86.here hx rfl (hb hby at_269) rfl) ?_
            show own_Ends p e below s _ _ _ T86 (mkF m 271 #[.val (.int i0), .val (.int i1), .val (.int i2), .val (.int i3), .val (.int (4 : Int32)), .val (.int il5_72), .val (.int il6_72), .val (.int il7_72), .val (.int il8_72), .val (.int il9_72), .val (.double dl10_72), .second, .val (.int il8_72), .val (.ref b78), .unset, .unset] [(.int (4 : Int32)), (.int ((((f1_0 (1 : Int32) il5_72 dl10_72) + (f1_0 (1 : Int32) il6_72 dl10_72)) + (f1_0 (1 : Int32) il7_72 dl10_72)) + (f1_0 (1 : Int32) il8_72 dl10_72)))])
            refine own_step (fun _ => XS.iconst X86.here hx rfl (hb hby at_271)) ?_
            show own_Ends p e below s _ _ _ T86 (mkF m 272 #[.val (.int i0), .val (.int i1), .val (.int i2), .val (.int i3), .val (.int (4 : Int32)), .val (.int il5_72), .val (.int il6_72), .val (.int il7_72), .val (.int il8_72), .val (.int il9_72), .val (.double dl10_72), .second, .val (.int il8_72), .val (.ref b78), .unset, .unset] [(.int (4 : Int32)), (.int (4 : Int32)), (.int ((((f1_0 (1 : Int32) il5_72 dl10_72) + (f1_0 (1 : Int32) il6_72 dl10_72)) + (f1_0 (1 : Int32) il7_72 dl10_72)) + (f1_0 (1 : Int32) il8_72 dl10_72)))])
            refine own_step (fun _ => XS.icmpYes X86.here hx rfl (pc0 := 272) (pc' := 279) rfl (hb hby at_272) rfl (flt (show ¬ ((4 : Int32) < (4 : Int32)) from (by decide))).2.2.2 (by decide) (by decide)) ?_
            show own_Ends p e below s _ _ _ T86 (mkF m 279 #[.val (.int i0), .val (.int i1), .val (.int i2), .val (.int i3), .val (.int (4 : Int32)), .val (.int il5_72), .val (.int il6_72), .val (.int il7_72), .val (.int il8_72), .val (.int il9_72), .val (.double dl10_72), .second, .val (.int il8_72), .val (.ref b78), .unset, .unset] [(.int ((((f1_0 (1 : Int32) il5_72 dl10_72) + (f1_0 (1 : Int32) il6_72 dl10_72)) + (f1_0 (1 : Int32) il7_72 dl10_72)) + (f1_0 (1 : Int32) il8_72 dl10_72)))])
            refine own_step (fun _ => XS.iconst X86.here hx rfl (hb hby at_279)) ?_
            show own_Ends p e below s _ _ _ T86 (mkF m 280 #[.val (.int i0), .val (.int i1), .val (.int i2), .val (.int i3), .val (.int (4 : Int32)), .val (.int il5_72), .val (.int il6_72), .val (.int il7_72), .val (.int il8_72), .val (.int il9_72), .val (.double dl10_72), .second, .val (.int il8_72), .val (.ref b78), .unset, .unset] [(.int (0 : Int32)), (.int ((((f1_0 (1 : Int32) il5_72 dl10_72) + (f1_0 (1 : Int32) il6_72 dl10_72)) + (f1_0 (1 : Int32) il7_72 dl10_72)) + (f1_0 (1 : Int32) il8_72 dl10_72)))])
            refine own_step (fun _ => XS.iload X86.here hx rfl (hb hby at_280) rfl) ?_
            show own_Ends p e below s _ _ _ T86 (mkF m 282 #[.val (.int i0), .val (.int i1), .val (.int i2), .val (.int i3), .val (.int (4 : Int32)), .val (.int il5_72), .val (.int il6_72), .val (.int il7_72), .val (.int il8_72), .val (.int il9_72), .val (.double dl10_72), .second, .val (.int il8_72), .val (.ref b78), .unset, .unset] [(.int il9_72), (.int (0 : Int32)), (.int ((((f1_0 (1 : Int32) il5_72 dl10_72) + (f1_0 (1 : Int32) il6_72 dl10_72)) + (f1_0 (1 : Int32) il7_72 dl10_72)) + (f1_0 (1 : Int32) il8_72 dl10_72)))])
            refine own_step (fun _ => XS.dload X86.here hx rfl (hb hby at_282) rfl) ?_
            show own_Ends p e below s _ _ _ T86 (mkF m 284 #[.val (.int i0), .val (.int i1), .val (.int i2), .val (.int i3), .val (.int (4 : Int32)), .val (.int il5_72), .val (.int il6_72), .val (.int il7_72), .val (.int il8_72), .val (.int il9_72), .val (.double dl10_72), .second, .val (.int il8_72), .val (.ref b78), .unset, .unset] [(.double dl10_72), (.int il9_72), (.int (0 : Int32)), (.int ((((f1_0 (1 : Int32) il5_72 dl10_72) + (f1_0 (1 : Int32) il6_72 dl10_72)) + (f1_0 (1 : Int32) il7_72 dl10_72)) + (f1_0 (1 : Int32) il8_72 dl10_72)))])
            obtain ⟨_, _, ⟨T87, L87, k87, n87⟩, -, X87, ⟨Lc87, hQ87, l87, y87, z87⟩, st87⟩ := Jvm.LawKit.callS X86 hx (y := (⟨"com/example/graded_queue/gradedqueue/sim/CumulativeFirstAbovePinLaw", "le", "(ZID)I"⟩ : MethodName)) hown (mvT hZ (hw _ (List.mem_of_getElem? (i := 3) rfl))) (mvT hZ (hw _ (List.mem_of_getElem? (i := 4) rfl))) (mvT hZ (hw _ (List.mem_of_getElem? (i := 5) rfl))) (mvT hZ (hw _ (List.mem_of_getElem? (i := 6) rfl))) (by decide) (backOf (W := 1) (rm1 l Z a0 hw [] (0 : Int32) il9_72 dl10_72 h82 n0 Zs82) hZ (hw _ (List.mem_of_getElem? (i := 6) rfl)) (hw _ (List.mem_of_getElem? (i := 5) rfl)) (by decide) (by decide)) (g := (mkF m 284 #[.val (.int i0), .val (.int i1), .val (.int i2), .val (.int i3), .val (.int (4 : Int32)), .val (.int il5_72), .val (.int il6_72), .val (.int il7_72), .val (.int il8_72), .val (.int il9_72), .val (.double dl10_72), .second, .val (.int il8_72), .val (.ref b78), .unset, .unset] [(.double dl10_72), (.int il9_72), (.int (0 : Int32)), (.int ((((f1_0 (1 : Int32) il5_72 dl10_72) + (f1_0 (1 : Int32) il6_72 dl10_72)) + (f1_0 (1 : Int32) il7_72 dl10_72)) + (f1_0 (1 : Int32) il8_72 dl10_72)))])) rfl (by rw [hml]; rfl) (argsL := [(.int (0 : Int32)), (.int il9_72), (.double dl10_72)]) (rest := [(.int ((((f1_0 (1 : Int32) il5_72 dl10_72) + (f1_0 (1 : Int32) il6_72 dl10_72)) + (f1_0 (1 : Int32) il7_72 dl10_72)) + (f1_0 (1 : Int32) il8_72 dl10_72)))]) (lenOf pd_0 rfl) rfl (by show 2 * 0 + _ ≤ _; exact Nat.le_of_eq rfl) (hb hby at_284) (fun _ _ => ⟨rfl, hh86, (by decide : 1 + 0 ≤ _), (by decide : 4 + 0 ≤ _)⟩)
            dsimp only [Pt.U, Pt.locs, Pt.cells, Pt.slots] at X87 l87 y87 z87 st87 hQ87
            subst l87 y87 z87
            obtain ⟨rfl, N87q, hh87⟩ := hQ87
            have N87 := Fr.app N86 N87q
            refine own_step st87 ?_
            show own_Ends p e below s _ _ _ T87 (mkF m 287 #[.val (.int i0), .val (.int i1), .val (.int i2), .val (.int i3), .val (.int (4 : Int32)), .val (.int il5_72), .val (.int il6_72), .val (.int il7_72), .val (.int il8_72), .val (.int il9_72), .val (.double dl10_72), .second, .val (.int il8_72), .val (.ref b78), .unset, .unset] [(.int (f1_0 (0 : Int32) il9_72 dl10_72)), (.int ((((f1_0 (1 : Int32) il5_72 dl10_72) + (f1_0 (1 : Int32) il6_72 dl10_72)) + (f1_0 (1 : Int32) il7_72 dl10_72)) + (f1_0 (1 : Int32) il8_72 dl10_72)))])
            refine own_step (fun _ => XS.iadd X87.here hx rfl (hb hby at_287) rfl) ?_
            show own_Ends p e below s _ _ _ T87 (mkF m 288 #[.val (.int i0), .val (.int i1), .val (.int i2), .val (.int i3), .val (.int (4 : Int32)), .val (.int il5_72), .val (.int il6_72), .val (.int il7_72), .val (.int il8_72), .val (.int il9_72), .val (.double dl10_72), .second, .val (.int il8_72), .val (.ref b78), .unset, .unset] [(.int (((((f1_0 (1 : Int32) il5_72 dl10_72) + (f1_0 (1 : Int32) il6_72 dl10_72)) + (f1_0 (1 : Int32) il7_72 dl10_72)) + (f1_0 (1 : Int32) il8_72 dl10_72)) + (f1_0 (0 : Int32) il9_72 dl10_72)))])
            refine own_step (fun _ => XS.istore X87.here hx rfl (hb hby at_288) rfl (l' := #[.val (.int i0), .val (.int i1), .val (.int i2), .val (.int i3), .val (.int (4 : Int32)), .val (.int il5_72), .val (.int il6_72), .val (.int il7_72), .val (.int il8_72), .val (.int il9_72), .val (.double dl10_72), .second, .val (.int il8_72), .val (.ref b78), .val (.int (((((f1_0 (1 : Int32) il5_72 dl10_72) + (f1_0 (1 : Int32) il6_72 dl10_72)) + (f1_0 (1 : Int32) il7_72 dl10_72)) + (f1_0 (1 : Int32) il8_72 dl10_72)) + (f1_0 (0 : Int32) il9_72 dl10_72))), .unset]) rfl) ?_
            show own_Ends p e below s _ _ _ T87 (mkF m 290 #[.val (.int i0), .val (.int i1), .val (.int i2), .val (.int i3), .val (.int (4 : Int32)), .val (.int il5_72), .val (.int il6_72), .val (.int il7_72), .val (.int il8_72), .val (.int il9_72), .val (.double dl10_72), .second, .val (.int il8_72), .val (.ref b78), .val (.int (((((f1_0 (1 : Int32) il5_72 dl10_72) + (f1_0 (1 : Int32) il6_72 dl10_72)) + (f1_0 (1 : Int32) il7_72 dl10_72)) + (f1_0 (1 : Int32) il8_72 dl10_72)) + (f1_0 (0 : Int32) il9_72 dl10_72))), .unset] [])
            refine own_step (fun _ => XS.aload X87.here hx rfl (hb hby at_290) rfl rfl) ?_
            show own_Ends p e below s _ _ _ T87 (mkF m 292 #[.val (.int i0), .val (.int i1), .val (.int i2), .val (.int i3), .val (.int (4 : Int32)), .val (.int il5_72), .val (.int il6_72), .val (.int il7_72), .val (.int il8_72), .val (.int il9_72), .val (.double dl10_72), .second, .val (.int il8_72), .val (.ref b78), .val (.int (((((f1_0 (1 : Int32) il5_72 dl10_72) + (f1_0 (1 : Int32) il6_72 dl10_72)) + (f1_0 (1 : Int32) il7_72 dl10_72)) + (f1_0 (1 : Int32) il8_72 dl10_72)) + (f1_0 (0 : Int32) il9_72 dl10_72))), .unset] [(.ref b78)])
            refine own_step (fun _ => XS.dload X87.here hx rfl (hb hby at_292) rfl) ?_
            show own_Ends p e below s _ _ _ T87 (mkF m 294 #[.val (.int i0), .val (.int i1), .val (.int i2), .val (.int i3), .val (.int (4 : Int32)), .val (.int il5_72), .val (.int il6_72), .val (.int il7_72), .val (.int il8_72), .val (.int il9_72), .val (.double dl10_72), .second, .val (.int il8_72), .val (.ref b78), .val (.int (((((f1_0 (1 : Int32) il5_72 dl10_72) + (f1_0 (1 : Int32) il6_72 dl10_72)) + (f1_0 (1 : Int32) il7_72 dl10_72)) + (f1_0 (1 : Int32) il8_72 dl10_72)) + (f1_0 (0 : Int32) il9_72 dl10_72))), .unset] [(.double dl10_72), (.ref b78)])
            obtain ⟨_, _, ⟨T88, L88, k88, n88⟩, -, X88, ⟨Lc88, hQ88, l88, y88, z88⟩, st88⟩ := Jvm.LawKit.callS X87 hx (y := (⟨"com/example/graded_queue/gradedqueue/sim/Cumulative", "firstAbove", "([DD)I"⟩ : MethodName)) hown (mvT hZ (hw _ (List.mem_of_getElem? (i := 7) rfl))) (mvT hZ (hw _ (List.mem_of_getElem? (i := 8) rfl))) (mvT hZ (hw _ (List.mem_of_getElem? (i := 9) rfl))) (mvT hZ (hw _ (List.mem_of_getElem? (i := 10) rfl))) (by decide) (backOf (W := 0) (rm2_4 l Z a0 hw [] b78 dl10_72 k78 (FP.i2d il5_72) (FP.i2d il6_72) (FP.i2d il7_72) (FP.i2d il8_72) h82 n0 Zs82 V82) hZ (hw _ (List.mem_of_getElem? (i := 10) rfl)) (hw _ (List.mem_of_getElem? (i := 9) rfl)) (by decide) (by decide)) (g := (mkF m 294 #[.val (.int i0), .val (.int i1), .val (.int i2), .val (.int i3), .val (.int (4 : Int32)), .val (.int il5_72), .val (.int il6_72), .val (.int il7_72), .val (.int il8_72), .val (.int il9_72), .val (.double dl10_72), .second, .val (.int il8_72), .val (.ref b78), .val (.int (((((f1_0 (1 : Int32) il5_72 dl10_72) + (f1_0 (1 : Int32) il6_72 dl10_72)) + (f1_0 (1 : Int32) il7_72 dl10_72)) + (f1_0 (1 : Int32) il8_72 dl10_72)) + (f1_0 (0 : Int32) il9_72 dl10_72))), .unset] [(.double dl10_72), (.ref b78)])) rfl (by rw [hml]; rfl) (argsL := [(.ref b78), (.double dl10_72)]) (rest := []) (lenOf pd_1 rfl) rfl (by show 2 * 0 + _ ≤ _; exact Nat.le_of_eq rfl) (hb hby at_294) (fun _ _ => ⟨rfl, hh87, (by decide : 1 + 0 ≤ _), (by decide : 4 + 0 ≤ _)⟩)
            dsimp only [Pt.U, Pt.locs, Pt.cells, Pt.slots] at X88 l88 y88 z88 st88 hQ88
            subst l88 y88 z88
            obtain ⟨rfl, N88q, hh88⟩ := hQ88
            have N88 := Fr.app N87 N88q
            refine own_step st88 ?_
            show own_Ends p e below s _ _ _ T88 (mkF m 297 #[.val (.int i0), .val (.int i1), .val (.int i2), .val (.int i3), .val (.int (4 : Int32)), .val (.int il5_72), .val (.int il6_72), .val (.int il7_72), .val (.int il8_72), .val (.int il9_72), .val (.double dl10_72), .second, .val (.int il8_72), .val (.ref b78), .val (.int (((((f1_0 (1 : Int32) il5_72 dl10_72) + (f1_0 (1 : Int32) il6_72 dl10_72)) + (f1_0 (1 : Int32) il7_72 dl10_72)) + (f1_0 (1 : Int32) il8_72 dl10_72)) + (f1_0 (0 : Int32) il9_72 dl10_72))), .unset] [(.int (f2d_0 dl10_72 (FP.i2d il5_72) (FP.i2d il6_72) (FP.i2d il7_72) (FP.i2d il8_72)))])
            refine own_step (fun _ => XS.istore X88.here hx rfl (hb hby at_297) rfl (l' := #[.val (.int i0), .val (.int i1), .val (.int i2), .val (.int i3), .val (.int (4 : Int32)), .val (.int il5_72), .val (.int il6_72), .val (.int il7_72), .val (.int il8_72), .val (.int il9_72), .val (.double dl10_72), .second, .val (.int il8_72), .val (.ref b78), .val (.int (((((f1_0 (1 : Int32) il5_72 dl10_72) + (f1_0 (1 : Int32) il6_72 dl10_72)) + (f1_0 (1 : Int32) il7_72 dl10_72)) + (f1_0 (1 : Int32) il8_72 dl10_72)) + (f1_0 (0 : Int32) il9_72 dl10_72))), .val (.int (f2d_0 dl10_72 (FP.i2d il5_72) (FP.i2d il6_72) (FP.i2d il7_72) (FP.i2d il8_72)))]) rfl) ?_
            show own_Ends p e below s _ _ _ T88 (mkF m 299 #[.val (.int i0), .val (.int i1), .val (.int i2), .val (.int i3), .val (.int (4 : Int32)), .val (.int il5_72), .val (.int il6_72), .val (.int il7_72), .val (.int il8_72), .val (.int il9_72), .val (.double dl10_72), .second, .val (.int il8_72), .val (.ref b78), .val (.int (((((f1_0 (1 : Int32) il5_72 dl10_72) + (f1_0 (1 : Int32) il6_72 dl10_72)) + (f1_0 (1 : Int32) il7_72 dl10_72)) + (f1_0 (1 : Int32) il8_72 dl10_72)) + (f1_0 (0 : Int32) il9_72 dl10_72))), .val (.int (f2d_0 dl10_72 (FP.i2d il5_72) (FP.i2d il6_72) (FP.i2d il7_72) (FP.i2d il8_72)))] [])
            refine own_step (fun _ => XS.iload X88.here hx rfl (hb hby at_299) rfl) ?_
            show own_Ends p e below s _ _ _ T88 (mkF m 301 #[.val (.int i0), .val (.int i1), .val (.int i2), .val (.int i3), .val (.int (4 : Int32)), .val (.int il5_72), .val (.int il6_72), .val (.int il7_72), .val (.int il8_72), .val (.int il9_72), .val (.double dl10_72), .second, .val (.int il8_72), .val (.ref b78), .val (.int (((((f1_0 (1 : Int32) il5_72 dl10_72) + (f1_0 (1 : Int32) il6_72 dl10_72)) + (f1_0 (1 : Int32) il7_72 dl10_72)) + (f1_0 (1 : Int32) il8_72 dl10_72)) + (f1_0 (0 : Int32) il9_72 dl10_72))), .val (.int (f2d_0 dl10_72 (FP.i2d il5_72) (FP.i2d il6_72) (FP.i2d il7_72) (FP.i2d il8_72)))] [(.int (f2d_0 dl10_72 (FP.i2d il5_72) (FP.i2d il6_72) (FP.i2d il7_72) (FP.i2d il8_72)))])
            refine own_step (fun _ => XS.iload X88.here hx rfl (hb hby at_301) rfl) ?_
            show own_Ends p e below s _ _ _ T88 (mkF m 303 #[.val (.int i0), .val (.int i1), .val (.int i2), .val (.int i3), .val (.int (4 : Int32)), .val (.int il5_72), .val (.int il6_72), .val (.int il7_72), .val (.int il8_72), .val (.int il9_72), .val (.double dl10_72), .second, .val (.int il8_72), .val (.ref b78), .val (.int (((((f1_0 (1 : Int32) il5_72 dl10_72) + (f1_0 (1 : Int32) il6_72 dl10_72)) + (f1_0 (1 : Int32) il7_72 dl10_72)) + (f1_0 (1 : Int32) il8_72 dl10_72)) + (f1_0 (0 : Int32) il9_72 dl10_72))), .val (.int (f2d_0 dl10_72 (FP.i2d il5_72) (FP.i2d il6_72) (FP.i2d il7_72) (FP.i2d il8_72)))] [(.int (((((f1_0 (1 : Int32) il5_72 dl10_72) + (f1_0 (1 : Int32) il6_72 dl10_72)) + (f1_0 (1 : Int32) il7_72 dl10_72)) + (f1_0 (1 : Int32) il8_72 dl10_72)) + (f1_0 (0 : Int32) il9_72 dl10_72))), (.int (f2d_0 dl10_72 (FP.i2d il5_72) (FP.i2d il6_72) (FP.i2d il7_72) (FP.i2d il8_72)))])
            by_cases hc303 : (f2d_0 dl10_72 (FP.i2d il5_72) (FP.i2d il6_72) (FP.i2d il7_72) (FP.i2d il8_72)) = (((((f1_0 (1 : Int32) il5_72 dl10_72) + (f1_0 (1 : Int32) il6_72 dl10_72)) + (f1_0 (1 : Int32) il7_72 dl10_72)) + (f1_0 (1 : Int32) il8_72 dl10_72)) + (f1_0 (0 : Int32) il9_72 dl10_72))
            · have hvf0f1f2t3_t_t := hvf0f1f2t3_t.trans (if_pos hc303)
              refine own_step (fun _ => XS.icmpNo X88.here hx rfl (hb hby at_303) rfl (teq hc303).2) ?_
              show own_Ends p e below s _ _ _ T88 (mkF m 306 #[.val (.int i0), .val (.int i1), .val (.int i2), .val (.int i3), .val (.int (4 : Int32)), .val (.int il5_72), .val (.int il6_72), .val (.int il7_72), .val (.int il8_72), .val (.int il9_72), .val (.double dl10_72), .second, .val (.int il8_72), .val (.ref b78), .val (.int (((((f1_0 (1 : Int32) il5_72 dl10_72) + (f1_0 (1 : Int32) il6_72 dl10_72)) + (f1_0 (1 : Int32) il7_72 dl10_72)) + (f1_0 (1 : Int32) il8_72 dl10_72)) + (f1_0 (0 : Int32) il9_72 dl10_72))), .val (.int (f2d_0 dl10_72 (FP.i2d il5_72) (FP.i2d il6_72) (FP.i2d il7_72) (FP.i2d il8_72)))] [])
              refine own_step (fun _ => XS.iconst X88.here hx rfl (hb hby at_306)) ?_
              show own_Ends p e below s _ _ _ T88 (mkF m 307 #[.val (.int i0), .val (.int i1), .val (.int i2), .val (.int i3), .val (.int (4 : Int32)), .val (.int il5_72), .val (.int il6_72), .val (.int il7_72), .val (.int il8_72), .val (.int il9_72), .val (.double dl10_72), .second, .val (.int il8_72), .val (.ref b78), .val (.int (((((f1_0 (1 : Int32) il5_72 dl10_72) + (f1_0 (1 : Int32) il6_72 dl10_72)) + (f1_0 (1 : Int32) il7_72 dl10_72)) + (f1_0 (1 : Int32) il8_72 dl10_72)) + (f1_0 (0 : Int32) il9_72 dl10_72))), .val (.int (f2d_0 dl10_72 (FP.i2d il5_72) (FP.i2d il6_72) (FP.i2d il7_72) (FP.i2d il8_72)))] [(.int (1 : Int32))])
              refine own_step (fun _ => XS.goto X88.here hx rfl (pc0 := 307) (pc' := 311) rfl (hb hby at_307) (by decide) (by decide)) ?_
              show own_Ends p e below s _ _ _ T88 (mkF m 311 #[.val (.int i0), .val (.int i1), .val (.int i2), .val (.int i3), .val (.int (4 : Int32)), .val (.int il5_72), .val (.int il6_72), .val (.int il7_72), .val (.int il8_72), .val (.int il9_72), .val (.double dl10_72), .second, .val (.int il8_72), .val (.ref b78), .val (.int (((((f1_0 (1 : Int32) il5_72 dl10_72) + (f1_0 (1 : Int32) il6_72 dl10_72)) + (f1_0 (1 : Int32) il7_72 dl10_72)) + (f1_0 (1 : Int32) il8_72 dl10_72)) + (f1_0 (0 : Int32) il9_72 dl10_72))), .val (.int (f2d_0 dl10_72 (FP.i2d il5_72) (FP.i2d il6_72) (FP.i2d il7_72) (FP.i2d il8_72)))] [(.int (1 : Int32))])
              exact own_retN X88 (t := .boolean) hx hret hlk (hb hby at_311) (by decide) (by decide) (by simp) ⟨congrArg (fun z => some (Value.int z)) hvf0f1f2t3_t_t.symm, N88, trivial⟩
            · have hvf0f1f2t3_t_f := hvf0f1f2t3_t.trans (if_neg hc303)
              refine own_step (fun _ => XS.icmpYes X88.here hx rfl (pc0 := 303) (pc' := 310) rfl (hb hby at_303) rfl (feq hc303).2 (by decide) (by decide)) ?_
              show own_Ends p e below s _ _ _ T88 (mkF m 310 #[.val (.int i0), .val (.int i1), .val (.int i2), .val (.int i3), .val (.int (4 : Int32)), .val (.int il5_72), .val (.int il6_72), .val (.int il7_72), .val (.int il8_72), .val (.int il9_72), .val (.double dl10_72), .second, .val (.int il8_72), .val (.ref b78), .val (.int (((((f1_0 (1 : Int32) il5_72 dl10_72) + (f1_0 (1 : Int32) il6_72 dl10_72)) + (f1_0 (1 : Int32) il7_72 dl10_72)) + (f1_0 (1 : Int32) il8_72 dl10_72)) + (f1_0 (0 : Int32) il9_72 dl10_72))), .val (.int (f2d_0 dl10_72 (FP.i2d il5_72) (FP.i2d il6_72) (FP.i2d il7_72) (FP.i2d il8_72)))] [])
              refine own_step (fun _ => XS.iconst X88.here hx rfl (hb hby at_310)) ?_
              show own_Ends p e below s _ _ _ T88 (mkF m 311 #[.val (.int i0), .val (.int i1), .val (.int i2), .val (.int i3), .val (.int (4 : Int32)), .val (.int il5_72), .val (.int il6_72), .val (.int il7_72), .val (.int il8_72), .val (.int il9_72), .val (.double dl10_72), .second, .val (.int il8_72), .val (.ref b78), .val (.int (((((f1_0 (1 : Int32) il5_72 dl10_72) + (f1_0 (1 : Int32) il6_72 dl10_72)) + (f1_0 (1 : Int32) il7_72 dl10_72)) + (f1_0 (1 : Int32) il8_72 dl10_72)) + (f1_0 (0 : Int32) il9_72 dl10_72))), .val (.int (f2d_0 dl10_72 (FP.i2d il5_72) (FP.i2d il6_72) (FP.i2d il7_72) (FP.i2d il8_72)))] [(.int (0 : Int32))])
              exact own_retN X88 (t := .boolean) hx hret hlk (hb hby at_311) (by decide) (by decide) (by simp) ⟨congrArg (fun z => some (Value.int z)) hvf0f1f2t3_t_f.symm, N88, trivial⟩
          · have hvf0f1f2t3_f := hvf0f1f2t3.trans (if_neg hc134)
            refine own_step (fun _ => XS.ifNo X0.here hx rfl (hb hby at_134) rfl ((if0 _ _).trans (flt hc134).2.2.1)) ?_
            show own_Ends p e below s _ _ _ T0 (mkF m 137 #[.val (.int i0), .val (.int i1), .val (.int i2), .val (.int i3), .val (.int (4 : Int32)), .val (.int il5_72), .val (.int il6_72), .val (.int il7_72), .val (.int il8_72), .val (.int il9_72), .val (.double dl10_72), .second, .val (.int il8_72), .unset, .unset, .unset] [])
            refine own_step (fun _ => XS.iconst X0.here hx rfl (hb hby at_137)) ?_
            show own_Ends p e below s _ _ _ T0 (mkF m 138 #[.val (.int i0), .val (.int i1), .val (.int i2), .val (.int i3), .val (.int (4 : Int32)), .val (.int il5_72), .val (.int il6_72), .val (.int il7_72), .val (.int il8_72), .val (.int il9_72), .val (.double dl10_72), .second, .val (.int il8_72), .unset, .unset, .unset] [(.int (1 : Int32))])
            exact own_retN X0 (t := .boolean) hx hret hlk (hb hby at_138) (by decide) (by decide) (by simp) ⟨congrArg (fun z => some (Value.int z)) hvf0f1f2t3_f.symm, N0, trivial⟩
        · have hvf0f1f2f3 := hvf0f1f2.trans (if_neg hN4)
          have hN5 : (((i3 &&& (2147483647 : Int32)) % (5 : Int32)) + (1 : Int32)) = (5 : Int32) := (own_n5 i3 hN1 hN2 hN3 hN4)
          rw [hN5]
          refine own_step (fun _ => XS.iload X0.here hx rfl (hb hby at_72) rfl) ?_
          show own_Ends p e below s _ _ _ T0 (mkF m 74 #[.val (.int i0), .val (.int i1), .val (.int i2), .val (.int i3), .val (.int (5 : Int32)), .val (.int il5_72), .val (.int il6_72), .val (.int il7_72), .val (.int il8_72), .val (.int il9_72), .val (.double dl10_72), .second, .unset, .unset, .unset, .unset] [(.int (5 : Int32))])
          refine own_step (fun _ => XS.iconst X0.here hx rfl (hb hby at_74)) ?_
          show own_Ends p e below s _ _ _ T0 (mkF m 75 #[.val (.int i0), .val (.int i1), .val (.int i2), .val (.int i3), .val (.int (5 : Int32)), .val (.int il5_72), .val (.int il6_72), .val (.int il7_72), .val (.int il8_72), .val (.int il9_72), .val (.double dl10_72), .second, .unset, .unset, .unset, .unset] [(.int (1 : Int32)), (.int (5 : Int32))])
          refine own_step (fun _ => XS.icmpYes X0.here hx rfl (pc0 := 75) (pc' := 85) rfl (hb hby at_75) rfl (feq (show ¬ ((5 : Int32) = (1 : Int32)) from (by decide))).2 (by decide) (by decide)) ?_
          show own_Ends p e below s _ _ _ T0 (mkF m 85 #[.val (.int i0), .val (.int i1), .val (.int i2), .val (.int i3), .val (.int (5 : Int32)), .val (.int il5_72), .val (.int il6_72), .val (.int il7_72), .val (.int il8_72), .val (.int il9_72), .val (.double dl10_72), .second, .unset, .unset, .unset, .unset] [])
          refine own_step (fun _ => XS.iload X0.here hx rfl (hb hby at_85) rfl) ?_
          show own_Ends p e below s _ _ _ T0 (mkF m 87 #[.val (.int i0), .val (.int i1), .val (.int i2), .val (.int i3), .val (.int (5 : Int32)), .val (.int il5_72), .val (.int il6_72), .val (.int il7_72), .val (.int il8_72), .val (.int il9_72), .val (.double dl10_72), .second, .unset, .unset, .unset, .unset] [(.int (5 : Int32))])
          refine own_step (fun _ => XS.iconst X0.here hx rfl (hb hby at_87)) ?_
          show own_Ends p e below s _ _ _ T0 (mkF m 88 #[.val (.int i0), .val (.int i1), .val (.int i2), .val (.int i3), .val (.int (5 : Int32)), .val (.int il5_72), .val (.int il6_72), .val (.int il7_72), .val (.int il8_72), .val (.int il9_72), .val (.double dl10_72), .second, .unset, .unset, .unset, .unset] [(.int (2 : Int32)), (.int (5 : Int32))])
          refine own_step (fun _ => XS.icmpYes X0.here hx rfl (pc0 := 88) (pc' := 98) rfl (hb hby at_88) rfl (feq (show ¬ ((5 : Int32) = (2 : Int32)) from (by decide))).2 (by decide) (by decide)) ?_
          show own_Ends p e below s _ _ _ T0 (mkF m 98 #[.val (.int i0), .val (.int i1), .val (.int i2), .val (.int i3), .val (.int (5 : Int32)), .val (.int il5_72), .val (.int il6_72), .val (.int il7_72), .val (.int il8_72), .val (.int il9_72), .val (.double dl10_72), .second, .unset, .unset, .unset, .unset] [])
          refine own_step (fun _ => XS.iload X0.here hx rfl (hb hby at_98) rfl) ?_
          show own_Ends p e below s _ _ _ T0 (mkF m 100 #[.val (.int i0), .val (.int i1), .val (.int i2), .val (.int i3), .val (.int (5 : Int32)), .val (.int il5_72), .val (.int il6_72), .val (.int il7_72), .val (.int il8_72), .val (.int il9_72), .val (.double dl10_72), .second, .unset, .unset, .unset, .unset] [(.int (5 : Int32))])
          refine own_step (fun _ => XS.iconst X0.here hx rfl (hb hby at_100)) ?_
          show own_Ends p e below s _ _ _ T0 (mkF m 101 #[.val (.int i0), .val (.int i1), .val (.int i2), .val (.int i3), .val (.int (5 : Int32)), .val (.int il5_72), .val (.int il6_72), .val (.int il7_72), .val (.int il8_72), .val (.int il9_72), .val (.double dl10_72), .second, .unset, .unset, .unset, .unset] [(.int (3 : Int32)), (.int (5 : Int32))])
          refine own_step (fun _ => XS.icmpYes X0.here hx rfl (pc0 := 101) (pc' := 111) rfl (hb hby at_101) rfl (feq (show ¬ ((5 : Int32) = (3 : Int32)) from (by decide))).2 (by decide) (by decide)) ?_
          show own_Ends p e below s _ _ _ T0 (mkF m 111 #[.val (.int i0), .val (.int i1), .val (.int i2), .val (.int i3), .val (.int (5 : Int32)), .val (.int il5_72), .val (.int il6_72), .val (.int il7_72), .val (.int il8_72), .val (.int il9_72), .val (.double dl10_72), .second, .unset, .unset, .unset, .unset] [])
          refine own_step (fun _ => XS.iload X0.here hx rfl (hb hby at_111) rfl) ?_
          show own_Ends p e below s _ _ _ T0 (mkF m 113 #[.val (.int i0), .val (.int i1), .val (.int i2), .val (.int i3), .val (.int (5 : Int32)), .val (.int il5_72), .val (.int il6_72), .val (.int il7_72), .val (.int il8_72), .val (.int il9_72), .val (.double dl10_72), .second, .unset, .unset, .unset, .unset] [(.int (5 : Int32))])
          refine own_step (fun _ => XS.iconst X0.here hx rfl (hb hby at_113)) ?_
          show own_Ends p e below s _ _ _ T0 (mkF m 114 #[.val (.int i0), .val (.int i1), .val (.int i2), .val (.int i3), .val (.int (5 : Int32)), .val (.int il5_72), .val (.int il6_72), .val (.int il7_72), .val (.int il8_72), .val (.int il9_72), .val (.double dl10_72), .second, .unset, .unset, .unset, .unset] [(.int (4 : Int32)), (.int (5 : Int32))])
          refine own_step (fun _ => XS.icmpYes X0.here hx rfl (pc0 := 114) (pc' := 124) rfl (hb hby at_114) rfl (feq (show ¬ ((5 : Int32) = (4 : Int32)) from (by decide))).2 (by decide) (by decide)) ?_
          show own_Ends p e below s _ _ _ T0 (mkF m 124 #[.val (.int i0), .val (.int i1), .val (.int i2), .val (.int i3), .val (.int (5 : Int32)), .val (.int il5_72), .val (.int il6_72), .val (.int il7_72), .val (.int il8_72), .val (.int il9_72), .val (.double dl10_72), .second, .unset, .unset, .unset, .unset] [])
          refine own_step (fun _ => XS.iload X0.here hx rfl (hb hby at_124) rfl) ?_
          show own_Ends p e below s _ _ _ T0 (mkF m 126 #[.val (.int i0), .val (.int i1), .val (.int i2), .val (.int i3), .val (.int (5 : Int32)), .val (.int il5_72), .val (.int il6_72), .val (.int il7_72), .val (.int il8_72), .val (.int il9_72), .val (.double dl10_72), .second, .unset, .unset, .unset, .unset] [(.int il9_72)])
          refine own_step (fun _ => XS.istore X0.here hx rfl (hb hby at_126) rfl (l' := #[.val (.int i0), .val (.int i1), .val (.int i2), .val (.int i3), .val (.int (5 : Int32)), .val (.int il5_72), .val (.int il6_72), .val (.int il7_72), .val (.int il8_72), .val (.int il9_72), .val (.double dl10_72), .second, .val (.int il9_72), .unset, .unset, .unset]) rfl) ?_
          show own_Ends p e below s _ _ _ T0 (mkF m 128 #[.val (.int i0), .val (.int i1), .val (.int i2), .val (.int i3), .val (.int (5 : Int32)), .val (.int il5_72), .val (.int il6_72), .val (.int il7_72), .val (.int il8_72), .val (.int il9_72), .val (.double dl10_72), .second, .val (.int il9_72), .unset, .unset, .unset] [])
          refine own_step (fun _ => XS.iload X0.here hx rfl (hb hby at_128) rfl) ?_
          show own_Ends p e below s _ _ _ T0 (mkF m 130 #[.val (.int i0), .val (.int i1), .val (.int i2), .val (.int i3), .val (.int (5 : Int32)), .val (.int il5_72), .val (.int il6_72), .val (.int il7_72), .val (.int il8_72), .val (.int il9_72), .val (.double dl10_72), .second, .val (.int il9_72), .unset, .unset, .unset] [(.int il9_72)])
          refine own_step (fun _ => XS.i2dS X0.here hx rfl (hb hby at_130) rfl rfl) ?_
          show own_Ends p e below s _ _ _ T0 (mkF m 131 #[.val (.int i0), .val (.int i1), .val (.int i2), .val (.int i3), .val (.int (5 : Int32)), .val (.int il5_72), .val (.int il6_72), .val (.int il7_72), .val (.int il8_72), .val (.int il9_72), .val (.double dl10_72), .second, .val (.int il9_72), .unset, .unset, .unset] [(.double (FP.i2d il9_72))])
          refine own_step (fun _ => XS.dload X0.here hx rfl (hb hby at_131) rfl) ?_
          show own_Ends p e below s _ _ _ T0 (mkF m 133 #[.val (.int i0), .val (.int i1), .val (.int i2), .val (.int i3), .val (.int (5 : Int32)), .val (.int il5_72), .val (.int il6_72), .val (.int il7_72), .val (.int il8_72), .val (.int il9_72), .val (.double dl10_72), .second, .val (.int il9_72), .unset, .unset, .unset] [(.double dl10_72), (.double (FP.i2d il9_72))])
          refine own_step (fun _ => XS.dcmpS X0.here hx rfl (hb hby at_133) rfl rfl) ?_
          show own_Ends p e below s _ _ _ T0 (mkF m 134 #[.val (.int i0), .val (.int i1), .val (.int i2), .val (.int i3), .val (.int (5 : Int32)), .val (.int il5_72), .val (.int il6_72), .val (.int il7_72), .val (.int il8_72), .val (.int il9_72), .val (.double dl10_72), .second, .val (.int il9_72), .unset, .unset, .unset] [(.int (cmpValue (FP.dcmp (FP.i2d il9_72) dl10_72) .l))])
          by_cases hc134 : (0 : Int32) < (cmpValue (FP.dcmp (FP.i2d il9_72) dl10_72) .l)
          · have hvf0f1f2f3_t := hvf0f1f2f3.trans (if_pos hc134)
            refine own_step (fun _ => XS.ifYes X0.here hx rfl (pc0 := 134) (pc' := 139) rfl (hb hby at_134) rfl ((if0 _ _).trans (tlt hc134).2.2.1) (by decide) (by decide)) ?_
            show own_Ends p e below s _ _ _ T0 (mkF m 139 #[.val (.int i0), .val (.int i1), .val (.int i2), .val (.int i3), .val (.int (5 : Int32)), .val (.int il5_72), .val (.int il6_72), .val (.int il7_72), .val (.int il8_72), .val (.int il9_72), .val (.double dl10_72), .second, .val (.int il9_72), .unset, .unset, .unset] [])
            refine own_step (fun _ => XS.iload X0.here hx rfl (hb hby at_139) rfl) ?_
            show own_Ends p e below s _ _ _ T0 (mkF m 141 #[.val (.int i0), .val (.int i1), .val (.int i2), .val (.int i3), .val (.int (5 : Int32)), .val (.int il5_72), .val (.int il6_72), .val (.int il7_72), .val (.int il8_72), .val (.int il9_72), .val (.double dl10_72), .second, .val (.int il9_72), .unset, .unset, .unset] [(.int (5 : Int32))])
            obtain ⟨T89, h89, k89, X89, e89, E89, A89, st89⟩ := newP X0 hx hZ (hw _ (List.mem_of_getElem? (i := 2) rfl)) e0 (g := (mkF m 141 #[.val (.int i0), .val (.int i1), .val (.int i2), .val (.int i3), .val (.int (5 : Int32)), .val (.int il5_72), .val (.int il6_72), .val (.int il7_72), .val (.int il8_72), .val (.int il9_72), .val (.double dl10_72), .second, .val (.int il9_72), .unset, .unset, .unset] [(.int (5 : Int32))])) rfl (hb hby at_141) rfl (by decide) (cap := 5) (by decide) (by decide) (by decide) (by decide)
            obtain ⟨b89, g89⟩ : ∃ z, z = h0.size := ⟨_, rfl⟩
            rw [← g89] at A89 st89
            have V89 : Arv Z h89 b89 k89 .double (5 : Int32) [(.double 0), (.double 0), (.double 0), (.double 0), (.double 0)] (.double 0) := (Arv.new A89 (by decide)).pad (pad_rep [] (.double 0) 5)
            have g_b89 : n0 ≤ b89 := Nat.le_trans Z0 (Nat.le_of_eq g89.symm)
            have Zs89 : n0 ≤ h89.size := Nat.le_trans Z0 E89.1
            refine own_step st89 ?_
            show own_Ends p e below s _ _ _ T89 (mkF m 143 #[.val (.int i0), .val (.int i1), .val (.int i2), .val (.int i3), .val (.int (5 : Int32)), .val (.int il5_72), .val (.int il6_72), .val (.int il7_72), .val (.int il8_72), .val (.int il9_72), .val (.double dl10_72), .second, .val (.int il9_72), .unset, .unset, .unset] [(.ref b89)])
            refine own_step (fun _ => XS.astore X89.here hx rfl (hb hby at_143) rfl rfl (l' := #[.val (.int i0), .val (.int i1), .val (.int i2), .val (.int i3), .val (.int (5 : Int32)), .val (.int il5_72), .val (.int il6_72), .val (.int il7_72), .val (.int il8_72), .val (.int il9_72), .val (.double dl10_72), .second, .val (.int il9_72), .val (.ref b89), .unset, .unset]) rfl) ?_
            show own_Ends p e below s _ _ _ T89 (mkF m 145 #[.val (.int i0), .val (.int i1), .val (.int i2), .val (.int i3), .val (.int (5 : Int32)), .val (.int il5_72), .val (.int il6_72), .val (.int il7_72), .val (.int il8_72), .val (.int il9_72), .val (.double dl10_72), .second, .val (.int il9_72), .val (.ref b89), .unset, .unset] [])
            refine own_step (fun _ => XS.aload X89.here hx rfl (hb hby at_145) rfl rfl) ?_
            show own_Ends p e below s _ _ _ T89 (mkF m 147 #[.val (.int i0), .val (.int i1), .val (.int i2), .val (.int i3), .val (.int (5 : Int32)), .val (.int il5_72), .val (.int il6_72), .val (.int il7_72), .val (.int il8_72), .val (.int il9_72), .val (.double dl10_72), .second, .val (.int il9_72), .val (.ref b89), .unset, .unset] [(.ref b89)])
            refine own_step (fun _ => XS.iconst X89.here hx rfl (hb hby at_147)) ?_
            show own_Ends p e below s _ _ _ T89 (mkF m 148 #[.val (.int i0), .val (.int i1), .val (.int i2), .val (.int i3), .val (.int (5 : Int32)), .val (.int il5_72), .val (.int il6_72), .val (.int il7_72), .val (.int il8_72), .val (.int il9_72), .val (.double dl10_72), .second, .val (.int il9_72), .val (.ref b89), .unset, .unset] [(.int (0 : Int32)), (.ref b89)])
            refine own_step (fun _ => XS.iload X89.here hx rfl (hb hby at_148) rfl) ?_
            show own_Ends p e below s _ _ _ T89 (mkF m 150 #[.val (.int i0), .val (.int i1), .val (.int i2), .val (.int i3), .val (.int (5 : Int32)), .val (.int il5_72), .val (.int il6_72), .val (.int il7_72), .val (.int il8_72), .val (.int il9_72), .val (.double dl10_72), .second, .val (.int il9_72), .val (.ref b89), .unset, .unset] [(.int il5_72), (.int (0 : Int32)), (.ref b89)])
            refine own_step (fun _ => XS.i2dS X89.here hx rfl (hb hby at_150) rfl rfl) ?_
            show own_Ends p e below s _ _ _ T89 (mkF m 151 #[.val (.int i0), .val (.int i1), .val (.int i2), .val (.int i3), .val (.int (5 : Int32)), .val (.int il5_72), .val (.int il6_72), .val (.int il7_72), .val (.int il8_72), .val (.int il9_72), .val (.double dl10_72), .second, .val (.int il9_72), .val (.ref b89), .unset, .unset] [(.double (FP.i2d il5_72)), (.int (0 : Int32)), (.ref b89)])
            obtain ⟨cl90, Ar90, q90, S90, N90_, H90, G90⟩ := id V89
            have hin90 : ¬ ((0 : Int32) < 0 ∨ cl90.slots.size ≤ ((0 : Int32)).toNatClampNeg) := inb_of S90 ⟨by decide, by decide⟩
            obtain ⟨T90, h90, X90, e90, W90, st90⟩ := stD X89 hx hZ e89 Ar90 (j := (0 : Int32)) hin90 (g := (mkF m 151 #[.val (.int i0), .val (.int i1), .val (.int i2), .val (.int i3), .val (.int (5 : Int32)), .val (.int il5_72), .val (.int il6_72), .val (.int il7_72), .val (.int il8_72), .val (.int il9_72), .val (.double dl10_72), .second, .val (.int il9_72), .val (.ref b89), .unset, .unset] [(.double (FP.i2d il5_72)), (.int (0 : Int32)), (.ref b89)])) rfl rfl (hb hby at_151)
            have V90 : Arv Z h90 b89 k89 .double (5 : Int32) [(.double (FP.i2d il5_72)), (.double 0), (.double 0), (.double 0), (.double 0)] (.double 0) := Arv.set Ar90 q90 S90 N90_ H90 G90 rfl W90 0 rfl (Nat.le_of_ble_eq_true rfl)
            have Zs90 : n0 ≤ h90.size := (by rw [W90.size]; exact Zs89)
            have N90 := Fr.snoc X90 N0 g_b89
            refine own_step st90 ?_
            show own_Ends p e below s _ _ _ T90 (mkF m 152 #[.val (.int i0), .val (.int i1), .val (.int i2), .val (.int i3), .val (.int (5 : Int32)), .val (.int il5_72), .val (.int il6_72), .val (.int il7_72), .val (.int il8_72), .val (.int il9_72), .val (.double dl10_72), .second, .val (.int il9_72), .val (.ref b89), .unset, .unset] [])
            refine own_step (fun _ => XS.iload X90.here hx rfl (hb hby at_152) rfl) ?_
            show own_Ends p e below s _ _ _ T90 (mkF m 154 #[.val (.int i0), .val (.int i1), .val (.int i2), .val (.int i3), .val (.int (5 : Int32)), .val (.int il5_72), .val (.int il6_72), .val (.int il7_72), .val (.int il8_72), .val (.int il9_72), .val (.double dl10_72), .second, .val (.int il9_72), .val (.ref b89), .unset, .unset] [(.int (5 : Int32))])
            refine own_step (fun _ => XS.iconst X90.here hx rfl (hb hby at_154)) ?_
            show own_Ends p e below s _ _ _ T90 (mkF m 155 #[.val (.int i0), .val (.int i1), .val (.int i2), .val (.int i3), .val (.int (5 : Int32)), .val (.int il5_72), .val (.int il6_72), .val (.int il7_72), .val (.int il8_72), .val (.int il9_72), .val (.double dl10_72), .second, .val (.int il9_72), .val (.ref b89), .unset, .unset] [(.int (1 : Int32)), (.int (5 : Int32))])
            refine own_step (fun _ => XS.icmpNo X90.here hx rfl (hb hby at_155) rfl (tlt (show (1 : Int32) < (5 : Int32) from (by decide))).2.2.2) ?_
            show own_Ends p e below s _ _ _ T90 (mkF m 158 #[.val (.int i0), .val (.int i1), .val (.int i2), .val (.int i3), .val (.int (5 : Int32)), .val (.int il5_72), .val (.int il6_72), .val (.int il7_72), .val (.int il8_72), .val (.int il9_72), .val (.double dl10_72), .second, .val (.int il9_72), .val (.ref b89), .unset, .unset] [])
            refine own_step (fun _ => XS.aload X90.here hx rfl (hb hby at_158) rfl rfl) ?_
            show own_Ends p e below s _ _ _ T90 (mkF m 160 #[.val (.int i0), .val (.int i1), .val (.int i2), .val (.int i3), .val (.int (5 : Int32)), .val (.int il5_72), .val (.int il6_72), .val (.int il7_72), .val (.int il8_72), .val (.int il9_72), .val (.double dl10_72), .second, .val (.int il9_72), .val (.ref b89), .unset, .unset] [(.ref b89)])
            refine own_step (fun _ => XS.iconst X90.here hx rfl (hb hby at_160)) ?_
            show own_Ends p e below s _ _ _ T90 (mkF m 161 #[.val (.int i0), .val (.int i1), .val (.int i2), .val (.int i3), .val (.int (5 : Int32)), .val (.int il5_72), .val (.int il6_72), .val (.int il7_72), .val (.int il8_72), .val (.int il9_72), .val (.double dl10_72), .second, .val (.int il9_72), .val (.ref b89), .unset, .unset] [(.int (1 : Int32)), (.ref b89)])
            refine own_step (fun _ => XS.iload X90.here hx rfl (hb hby at_161) rfl) ?_
            show own_Ends p e below s _ _ _ T90 (mkF m 163 #[.val (.int i0), .val (.int i1), .val (.int i2), .val (.int i3), .val (.int (5 : Int32)), .val (.int il5_72), .val (.int il6_72), .val (.int il7_72), .val (.int il8_72), .val (.int il9_72), .val (.double dl10_72), .second, .val (.int il9_72), .val (.ref b89), .unset, .unset] [(.int il6_72), (.int (1 : Int32)), (.ref b89)])
            refine own_step (fun _ => XS.i2dS X90.here hx rfl (hb hby at_163) rfl rfl) ?_
            show own_Ends p e below s _ _ _ T90 (mkF m 164 #[.val (.int i0), .val (.int i1), .val (.int i2), .val (.int i3), .val (.int (5 : Int32)), .val (.int il5_72), .val (.int il6_72), .val (.int il7_72), .val (.int il8_72), .val (.int il9_72), .val (.double dl10_72), .second, .val (.int il9_72), .val (.ref b89), .unset, .unset] [(.double (FP.i2d il6_72)), (.int (1 : Int32)), (.ref b89)])
            obtain ⟨cl91, Ar91, q91, S91, N91_, H91, G91⟩ := id V90
            have hin91 : ¬ ((1 : Int32) < 0 ∨ cl91.slots.size ≤ ((1 : Int32)).toNatClampNeg) := inb_of S91 ⟨by decide, by decide⟩
            obtain ⟨T91, h91, X91, e91, W91, st91⟩ := stD X90 hx hZ e90 Ar91 (j := (1 : Int32)) hin91 (g := (mkF m 164 #[.val (.int i0), .val (.int i1), .val (.int i2), .val (.int i3), .val (.int (5 : Int32)), .val (.int il5_72), .val (.int il6_72), .val (.int il7_72), .val (.int il8_72), .val (.int il9_72), .val (.double dl10_72), .second, .val (.int il9_72), .val (.ref b89), .unset, .unset] [(.double (FP.i2d il6_72)), (.int (1 : Int32)), (.ref b89)])) rfl rfl (hb hby at_164)
            have V91 : Arv Z h91 b89 k89 .double (5 : Int32) [(.double (FP.i2d il5_72)), (.double (FP.i2d il6_72)), (.double 0), (.double 0), (.double 0)] (.double 0) := Arv.set Ar91 q91 S91 N91_ H91 G91 rfl W91 1 rfl (Nat.le_of_ble_eq_true rfl)
            have Zs91 : n0 ≤ h91.size := (by rw [W91.size]; exact Zs90)
            have N91 := Fr.snoc X91 N90 g_b89
            refine own_step st91 ?_
            show own_Ends p e below s _ _ _ T91 (mkF m 165 #[.val (.int i0), .val (.int i1), .val (.int i2), .val (.int i3), .val (.int (5 : Int32)), .val (.int il5_72), .val (.int il6_72), .val (.int il7_72), .val (.int il8_72), .val (.int il9_72), .val (.double dl10_72), .second, .val (.int il9_72), .val (.ref b89), .unset, .unset] [])
            refine own_step (fun _ => XS.iload X91.here hx rfl (hb hby at_165) rfl) ?_
            show own_Ends p e below s _ _ _ T91 (mkF m 167 #[.val (.int i0), .val (.int i1), .val (.int i2), .val (.int i3), .val (.int (5 : Int32)), .val (.int il5_72), .val (.int il6_72), .val (.int il7_72), .val (.int il8_72), .val (.int il9_72), .val (.double dl10_72), .second, .val (.int il9_72), .val (.ref b89), .unset, .unset] [(.int (5 : Int32))])
            refine own_step (fun _ => XS.iconst X91.here hx rfl (hb hby at_167)) ?_
            show own_Ends p e below s _ _ _ T91 (mkF m 168 #[.val (.int i0), .val (.int i1), .val (.int i2), .val (.int i3), .val (.int (5 : Int32)), .val (.int il5_72), .val (.int il6_72), .val (.int il7_72), .val (.int il8_72), .val (.int il9_72), .val (.double dl10_72), .second, .val (.int il9_72), .val (.ref b89), .unset, .unset] [(.int (2 : Int32)), (.int (5 : Int32))])
            refine own_step (fun _ => XS.icmpNo X91.here hx rfl (hb hby at_168) rfl (tlt (show (2 : Int32) < (5 : Int32) from (by decide))).2.2.2) ?_
            show own_Ends p e below s _ _ _ T91 (mkF m 171 #[.val (.int i0), .val (.int i1), .val (.int i2), .val (.int i3), .val (.int (5 : Int32)), .val (.int il5_72), .val (.int il6_72), .val (.int il7_72), .val (.int il8_72), .val (.int il9_72), .val (.double dl10_72), .second, .val (.int il9_72), .val (.ref b89), .unset, .unset] [])
            refine own_step (fun _ => XS.aload X91.here hx rfl (hb hby at_171) rfl rfl) ?_
            show own_Ends p e below s _ _ _ T91 (mkF m 173 #[.val (.int i0), .val (.int i1), .val (.int i2), .val (.int i3), .val (.int (5 : Int32)), .val (.int il5_72), .val (.int il6_72), .val (.int il7_72), .val (.int il8_72), .val (.int il9_72), .val (.double dl10_72), .second, .val (.int il9_72), .val (.ref b89), .unset, .unset] [(.ref b89)])
            refine own_step (fun _ => XS.iconst X91.here hx rfl (hb hby at_173)) ?_
            show own_Ends p e below s _ _ _ T91 (mkF m 174 #[.val (.int i0), .val (.int i1), .val (.int i2), .val (.int i3), .val (.int (5 : Int32)), .val (.int il5_72), .val (.int il6_72), .val (.int il7_72), .val (.int il8_72), .val (.int il9_72), .val (.double dl10_72), .second, .val (.int il9_72), .val (.ref b89), .unset, .unset] [(.int (2 : Int32)), (.ref b89)])
            refine own_step (fun _ => XS.iload X91.here hx rfl (hb hby at_174) rfl) ?_
            show own_Ends p e below s _ _ _ T91 (mkF m 176 #[.val (.int i0), .val (.int i1), .val (.int i2), .val (.int i3), .val (.int (5 : Int32)), .val (.int il5_72), .val (.int il6_72), .val (.int il7_72), .val (.int il8_72), .val (.int il9_72), .val (.double dl10_72), .second, .val (.int il9_72), .val (.ref b89), .unset, .unset] [(.int il7_72), (.int (2 : Int32)), (.ref b89)])
            refine own_step (fun _ => XS.i2dS X91.here hx rfl (hb hby at_176) rfl rfl) ?_
            show own_Ends p e below s _ _ _ T91 (mkF m 177 #[.val (.int i0), .val (.int i1), .val (.int i2), .val (.int i3), .val (.int (5 : Int32)), .val (.int il5_72), .val (.int il6_72), .val (.int il7_72), .val (.int il8_72), .val (.int il9_72), .val (.double dl10_72), .second, .val (.int il9_72), .val (.ref b89), .unset, .unset] [(.double (FP.i2d il7_72)), (.int (2 : Int32)), (.ref b89)])
            obtain ⟨cl92, Ar92, q92, S92, N92_, H92, G92⟩ := id V91
            have hin92 : ¬ ((2 : Int32) < 0 ∨ cl92.slots.size ≤ ((2 : Int32)).toNatClampNeg) := inb_of S92 ⟨by decide, by decide⟩
            obtain ⟨T92, h92, X92, e92, W92, st92⟩ := stD X91 hx hZ e91 Ar92 (j := (2 : Int32)) hin92 (g := (mkF m 177 #[.val (.int i0), .val (.int i1), .val (.int i2), .val (.int i3), .val (.int (5 : Int32)), .val (.int il5_72), .val (.int il6_72), .val (.int il7_72), .val (.int il8_72), .val (.int il9_72), .val (.double dl10_72), .second, .val (.int il9_72), .val (.ref b89), .unset, .unset] [(.double (FP.i2d il7_72)), (.int (2 : Int32)), (.ref b89)])) rfl rfl (hb hby at_177)
            have V92 : Arv Z h92 b89 k89 .double (5 : Int32) [(.double (FP.i2d il5_72)), (.double (FP.i2d il6_72)), (.double (FP.i2d il7_72)), (.double 0), (.double 0)] (.double 0) := Arv.set Ar92 q92 S92 N92_ H92 G92 rfl W92 2 rfl (Nat.le_of_ble_eq_true rfl)
            have Zs92 : n0 ≤ h92.size := (by rw [W92.size]; exact Zs91)
            have N92 := Fr.snoc X92 N91 g_b89
            refine own_step st92 ?_
            show own_Ends p e below s _ _ _ T92 (mkF m 178 #[.val (.int i0), .val (.int i1), .val (.int i2), .val (.int i3), .val (.int (5 : Int32)), .val (.int il5_72), .val (.int il6_72), .val (.int il7_72), .val (.int il8_72), .val (.int il9_72), .val (.double dl10_72), .second, .val (.int il9_72), .val (.ref b89), .unset, .unset] [])
            refine own_step (fun _ => XS.iload X92.here hx rfl (hb hby at_178) rfl) ?_
            show own_Ends p e below s _ _ _ T92 (mkF m 180 #[.val (.int i0), .val (.int i1), .val (.int i2), .val (.int i3), .val (.int (5 : Int32)), .val (.int il5_72), .val (.int il6_72), .val (.int il7_72), .val (.int il8_72), .val (.int il9_72), .val (.double dl10_72), .second, .val (.int il9_72), .val (.ref b89), .unset, .unset] [(.int (5 : Int32))])
            refine own_step (fun _ => XS.iconst X92.here hx rfl (hb hby at_180)) ?_
            show own_Ends p e below s _ _ _ T92 (mkF m 181 #[.val (.int i0), .val (.int i1), .val (.int i2), .val (.int i3), .val (.int (5 : Int32)), .val (.int il5_72), .val (.int il6_72), .val (.int il7_72), .val (.int il8_72), .val (.int il9_72), .val (.double dl10_72), .second, .val (.int il9_72), .val (.ref b89), .unset, .unset] [(.int (3 : Int32)), (.int (5 : Int32))])
            refine own_step (fun _ => XS.icmpNo X92.here hx rfl (hb hby at_181) rfl (tlt (show (3 : Int32) < (5 : Int32) from (by decide))).2.2.2) ?_
            show own_Ends p e below s _ _ _ T92 (mkF m 184 #[.val (.int i0), .val (.int i1), .val (.int i2), .val (.int i3), .val (.int (5 : Int32)), .val (.int il5_72), .val (.int il6_72), .val (.int il7_72), .val (.int il8_72), .val (.int il9_72), .val (.double dl10_72), .second, .val (.int il9_72), .val (.ref b89), .unset, .unset] [])
            refine own_step (fun _ => XS.aload X92.here hx rfl (hb hby at_184) rfl rfl) ?_
            show own_Ends p e below s _ _ _ T92 (mkF m 186 #[.val (.int i0), .val (.int i1), .val (.int i2), .val (.int i3), .val (.int (5 : Int32)), .val (.int il5_72), .val (.int il6_72), .val (.int il7_72), .val (.int il8_72), .val (.int il9_72), .val (.double dl10_72), .second, .val (.int il9_72), .val (.ref b89), .unset, .unset] [(.ref b89)])
            refine own_step (fun _ => XS.iconst X92.here hx rfl (hb hby at_186)) ?_
            show own_Ends p e below s _ _ _ T92 (mkF m 187 #[.val (.int i0), .val (.int i1), .val (.int i2), .val (.int i3), .val (.int (5 : Int32)), .val (.int il5_72), .val (.int il6_72), .val (.int il7_72), .val (.int il8_72), .val (.int il9_72), .val (.double dl10_72), .second, .val (.int il9_72), .val (.ref b89), .unset, .unset] [(.int (3 : Int32)), (.ref b89)])
            refine own_step (fun _ => XS.iload X92.here hx rfl (hb hby at_187) rfl) ?_
            show own_Ends p e below s _ _ _ T92 (mkF m 189 #[.val (.int i0), .val (.int i1), .val (.int i2), .val (.int i3), .val (.int (5 : Int32)), .val (.int il5_72), .val (.int il6_72), .val (.int il7_72), .val (.int il8_72), .val (.int il9_72), .val (.double dl10_72), .second, .val (.int il9_72), .val (.ref b89), .unset, .unset] [(.int il8_72), (.int (3 : Int32)), (.ref b89)])
            refine own_step (fun _ => XS.i2dS X92.here hx rfl (hb hby at_189) rfl rfl) ?_
            show own_Ends p e below s _ _ _ T92 (mkF m 190 #[.val (.int i0), .val (.int i1), .val (.int i2), .val (.int i3), .val (.int (5 : Int32)), .val (.int il5_72), .val (.int il6_72), .val (.int il7_72), .val (.int il8_72), .val (.int il9_72), .val (.double dl10_72), .second, .val (.int il9_72), .val (.ref b89), .unset, .unset] [(.double (FP.i2d il8_72)), (.int (3 : Int32)), (.ref b89)])
            obtain ⟨cl93, Ar93, q93, S93, N93_, H93, G93⟩ := id V92
            have hin93 : ¬ ((3 : Int32) < 0 ∨ cl93.slots.size ≤ ((3 : Int32)).toNatClampNeg) := inb_of S93 ⟨by decide, by decide⟩
            obtain ⟨T93, h93, X93, e93, W93, st93⟩ := stD X92 hx hZ e92 Ar93 (j := (3 : Int32)) hin93 (g := (mkF m 190 #[.val (.int i0), .val (.int i1), .val (.int i2), .val (.int i3), .val (.int (5 : Int32)), .val (.int il5_72), .val (.int il6_72), .val (.int il7_72), .val (.int il8_72), .val (.int il9_72), .val (.double dl10_72), .second, .val (.int il9_72), .val (.ref b89), .unset, .unset] [(.double (FP.i2d il8_72)), (.int (3 : Int32)), (.ref b89)])) rfl rfl (hb hby at_190)
            have V93 : Arv Z h93 b89 k89 .double (5 : Int32) [(.double (FP.i2d il5_72)), (.double (FP.i2d il6_72)), (.double (FP.i2d il7_72)), (.double (FP.i2d il8_72)), (.double 0)] (.double 0) := Arv.set Ar93 q93 S93 N93_ H93 G93 rfl W93 3 rfl (Nat.le_of_ble_eq_true rfl)
            have Zs93 : n0 ≤ h93.size := (by rw [W93.size]; exact Zs92)
            have N93 := Fr.snoc X93 N92 g_b89
            refine own_step st93 ?_
            show own_Ends p e below s _ _ _ T93 (mkF m 191 #[.val (.int i0), .val (.int i1), .val (.int i2), .val (.int i3), .val (.int (5 : Int32)), .val (.int il5_72), .val (.int il6_72), .val (.int il7_72), .val (.int il8_72), .val (.int il9_72), .val (.double dl10_72), .second, .val (.int il9_72), .val (.ref b89), .unset, .unset] [])
            refine own_step (fun _ => XS.iload X93.here hx rfl (hb hby at_191) rfl) ?_
            show own_Ends p e below s _ _ _ T93 (mkF m 193 #[.val (.int i0), .val (.int i1), .val (.int i2), .val (.int i3), .val (.int (5 : Int32)), .val (.int il5_72), .val (.int il6_72), .val (.int il7_72), .val (.int il8_72), .val (.int il9_72), .val (.double dl10_72), .second, .val (.int il9_72), .val (.ref b89), .unset, .unset] [(.int (5 : Int32))])
            refine own_step (fun _ => XS.iconst X93.here hx rfl (hb hby at_193)) ?_
            show own_Ends p e below s _ _ _ T93 (mkF m 194 #[.val (.int i0), .val (.int i1), .val (.int i2), .val (.int i3), .val (.int (5 : Int32)), .val (.int il5_72), .val (.int il6_72), .val (.int il7_72), .val (.int il8_72), .val (.int il9_72), .val (.double dl10_72), .second, .val (.int il9_72), .val (.ref b89), .unset, .unset] [(.int (4 : Int32)), (.int (5 : Int32))])
            refine own_step (fun _ => XS.icmpNo X93.here hx rfl (hb hby at_194) rfl (tlt (show (4 : Int32) < (5 : Int32) from (by decide))).2.2.2) ?_
            show own_Ends p e below s _ _ _ T93 (mkF m 197 #[.val (.int i0), .val (.int i1), .val (.int i2), .val (.int i3), .val (.int (5 : Int32)), .val (.int il5_72), .val (.int il6_72), .val (.int il7_72), .val (.int il8_72), .val (.int il9_72), .val (.double dl10_72), .second, .val (.int il9_72), .val (.ref b89), .unset, .unset] [])
            refine own_step (fun _ => XS.aload X93.here hx rfl (hb hby at_197) rfl rfl) ?_
            show own_Ends p e below s _ _ _ T93 (mkF m 199 #[.val (.int i0), .val (.int i1), .val (.int i2), .val (.int i3), .val (.int (5 : Int32)), .val (.int il5_72), .val (.int il6_72), .val (.int il7_72), .val (.int il8_72), .val (.int il9_72), .val (.double dl10_72), .second, .val (.int il9_72), .val (.ref b89), .unset, .unset] [(.ref b89)])
            refine own_step (fun _ => XS.iconst X93.here hx rfl (hb hby at_199)) ?_
            show own_Ends p e below s _ _ _ T93 (mkF m 200 #[.val (.int i0), .val (.int i1), .val (.int i2), .val (.int i3), .val (.int (5 : Int32)), .val (.int il5_72), .val (.int il6_72), .val (.int il7_72), .val (.int il8_72), .val (.int il9_72), .val (.double dl10_72), .second, .val (.int il9_72), .val (.ref b89), .unset, .unset] [(.int (4 : Int32)), (.ref b89)])
            refine own_step (fun _ => XS.iload X93.here hx rfl (hb hby at_200) rfl) ?_
            show own_Ends p e below s _ _ _ T93 (mkF m 202 #[.val (.int i0), .val (.int i1), .val (.int i2), .val (.int i3), .val (.int (5 : Int32)), .val (.int il5_72), .val (.int il6_72), .val (.int il7_72), .val (.int il8_72), .val (.int il9_72), .val (.double dl10_72), .second, .val (.int il9_72), .val (.ref b89), .unset, .unset] [(.int il9_72), (.int (4 : Int32)), (.ref b89)])
            refine own_step (fun _ => XS.i2dS X93.here hx rfl (hb hby at_202) rfl rfl) ?_
            show own_Ends p e below s _ _ _ T93 (mkF m 203 #[.val (.int i0), .val (.int i1), .val (.int i2), .val (.int i3), .val (.int (5 : Int32)), .val (.int il5_72), .val (.int il6_72), .val (.int il7_72), .val (.int il8_72), .val (.int il9_72), .val (.double dl10_72), .second, .val (.int il9_72), .val (.ref b89), .unset, .unset] [(.double (FP.i2d il9_72)), (.int (4 : Int32)), (.ref b89)])
            obtain ⟨cl94, Ar94, q94, S94, N94_, H94, G94⟩ := id V93
            have hin94 : ¬ ((4 : Int32) < 0 ∨ cl94.slots.size ≤ ((4 : Int32)).toNatClampNeg) := inb_of S94 ⟨by decide, by decide⟩
            obtain ⟨T94, h94, X94, e94, W94, st94⟩ := stD X93 hx hZ e93 Ar94 (j := (4 : Int32)) hin94 (g := (mkF m 203 #[.val (.int i0), .val (.int i1), .val (.int i2), .val (.int i3), .val (.int (5 : Int32)), .val (.int il5_72), .val (.int il6_72), .val (.int il7_72), .val (.int il8_72), .val (.int il9_72), .val (.double dl10_72), .second, .val (.int il9_72), .val (.ref b89), .unset, .unset] [(.double (FP.i2d il9_72)), (.int (4 : Int32)), (.ref b89)])) rfl rfl (hb hby at_203)
            have V94 : Arv Z h94 b89 k89 .double (5 : Int32) [(.double (FP.i2d il5_72)), (.double (FP.i2d il6_72)), (.double (FP.i2d il7_72)), (.double (FP.i2d il8_72)), (.double (FP.i2d il9_72))] (.double 0) := Arv.set Ar94 q94 S94 N94_ H94 G94 rfl W94 4 rfl (Nat.le_of_ble_eq_true rfl)
            have Zs94 : n0 ≤ h94.size := (by rw [W94.size]; exact Zs93)
            have N94 := Fr.snoc X94 N93 g_b89
            refine own_step st94 ?_
            show own_Ends p e below s _ _ _ T94 (mkF m 204 #[.val (.int i0), .val (.int i1), .val (.int i2), .val (.int i3), .val (.int (5 : Int32)), .val (.int il5_72), .val (.int il6_72), .val (.int il7_72), .val (.int il8_72), .val (.int il9_72), .val (.double dl10_72), .second, .val (.int il9_72), .val (.ref b89), .unset, .unset] [])
            refine own_step (fun _ => XS.iconst X94.here hx rfl (hb hby at_204)) ?_
            show own_Ends p e below s _ _ _ T94 (mkF m 205 #[.val (.int i0), .val (.int i1), .val (.int i2), .val (.int i3), .val (.int (5 : Int32)), .val (.int il5_72), .val (.int il6_72), .val (.int il7_72), .val (.int il8_72), .val (.int il9_72), .val (.double dl10_72), .second, .val (.int il9_72), .val (.ref b89), .unset, .unset] [(.int (1 : Int32))])
            refine own_step (fun _ => XS.iload X94.here hx rfl (hb hby at_205) rfl) ?_
            show own_Ends p e below s _ _ _ T94 (mkF m 207 #[.val (.int i0), .val (.int i1), .val (.int i2), .val (.int i3), .val (.int (5 : Int32)), .val (.int il5_72), .val (.int il6_72), .val (.int il7_72), .val (.int il8_72), .val (.int il9_72), .val (.double dl10_72), .second, .val (.int il9_72), .val (.ref b89), .unset, .unset] [(.int il5_72), (.int (1 : Int32))])
            refine own_step (fun _ => XS.dload X94.here hx rfl (hb hby at_207) rfl) ?_
            show own_Ends p e below s _ _ _ T94 (mkF m 209 #[.val (.int i0), .val (.int i1), .val (.int i2), .val (.int i3), .val (.int (5 : Int32)), .val (.int il5_72), .val (.int il6_72), .val (.int il7_72), .val (.int il8_72), .val (.int il9_72), .val (.double dl10_72), .second, .val (.int il9_72), .val (.ref b89), .unset, .unset] [(.double dl10_72), (.int il5_72), (.int (1 : Int32))])
            obtain ⟨_, _, ⟨T95, L95, k95, n95⟩, -, X95, ⟨Lc95, hQ95, l95, y95, z95⟩, st95⟩ := Jvm.LawKit.callS X94 hx (y := (⟨"com/example/graded_queue/gradedqueue/sim/CumulativeFirstAbovePinLaw", "le", "(ZID)I"⟩ : MethodName)) hown (mvT hZ (hw _ (List.mem_of_getElem? (i := 3) rfl))) (mvT hZ (hw _ (List.mem_of_getElem? (i := 4) rfl))) (mvT hZ (hw _ (List.mem_of_getElem? (i := 5) rfl))) (mvT hZ (hw _ (List.mem_of_getElem? (i := 6) rfl))) (by decide) (backOf (W := 0) (rm1 l Z a0 hw [] (1 : Int32) il5_72 dl10_72 h94 n0 Zs94) hZ (hw _ (List.mem_of_getElem? (i := 6) rfl)) (hw _ (List.mem_of_getElem? (i := 5) rfl)) (by decide) (by decide)) (g := (mkF m 209 #[.val (.int i0), .val (.int i1), .val (.int i2), .val (.int i3), .val (.int (5 : Int32)), .val (.int il5_72), .val (.int il6_72), .val (.int il7_72), .val (.int il8_72), .val (.int il9_72), .val (.double dl10_72), .second, .val (.int il9_72), .val (.ref b89), .unset, .unset] [(.double dl10_72), (.int il5_72), (.int (1 : Int32))])) rfl (by rw [hml]; rfl) (argsL := [(.int (1 : Int32)), (.int il5_72), (.double dl10_72)]) (rest := []) (lenOf pd_0 rfl) rfl (by show 2 * 0 + _ ≤ _; exact Nat.le_of_eq rfl) (hb hby at_209) (fun _ _ => ⟨rfl, e94, (by decide : 1 + 0 ≤ _), (by decide : 5 + 0 ≤ _)⟩)
            dsimp only [Pt.U, Pt.locs, Pt.cells, Pt.slots] at X95 l95 y95 z95 st95 hQ95
            subst l95 y95 z95
            obtain ⟨rfl, N95q, hh95⟩ := hQ95
            have N95 := Fr.app N94 N95q
            refine own_step st95 ?_
            show own_Ends p e below s _ _ _ T95 (mkF m 212 #[.val (.int i0), .val (.int i1), .val (.int i2), .val (.int i3), .val (.int (5 : Int32)), .val (.int il5_72), .val (.int il6_72), .val (.int il7_72), .val (.int il8_72), .val (.int il9_72), .val (.double dl10_72), .second, .val (.int il9_72), .val (.ref b89), .unset, .unset] [(.int (f1_0 (1 : Int32) il5_72 dl10_72))])
            refine own_step (fun _ => XS.iload X95.here hx rfl (hb hby at_212) rfl) ?_
            show own_Ends p e below s _ _ _ T95 (mkF m 214 #[.val (.int i0), .val (.int i1), .val (.int i2), .val (.int i3), .val (.int (5 : Int32)), .val (.int il5_72), .val (.int il6_72), .val (.int il7_72), .val (.int il8_72), .val (.int il9_72), .val (.double dl10_72), .second, .val (.int il9_72), .val (.ref b89), .unset, .unset] [(.int (5 : Int32)), (.int (f1_0 (1 : Int32) il5_72 dl10_72))])
            refine own_step (fun _ => XS.iconst X95.here hx rfl (hb hby at_214)) ?_
            show own_Ends p e below s _ _ _ T95 (mkF m 215 #[.val (.int i0), .val (.int i1), .val (.int i2), .val (.int i3), .val (.int (5 : Int32)), .val (.int il5_72), .val (.int il6_72), .val (.int il7_72), .val (.int il8_72), .val (.int il9_72), .val (.double dl10_72), .second, .val (.int il9_72), .val (.ref b89), .unset, .unset] [(.int (1 : Int32)), (.int (5 : Int32)), (.int (f1_0 (1 : Int32) il5_72 dl10_72))])
            refine own_step (fun _ => XS.icmpNo X95.here hx rfl (hb hby at_215) rfl (tlt (show (1 : Int32) < (5 : Int32) from (by decide))).2.2.2) ?_
            show own_Ends p e below s _ _ _ T95 (mkF m 218 #[.val (.int i0), .val (.int i1), .val (.int i2), .val (.int i3), .val (.int (5 : Int32)), .val (.int il5_72), .val (.int il6_72), .val (.int il7_72), .val (.int il8_72), .val (.int il9_72), .val (.double dl10_72), .second, .val (.int il9_72), .val (.ref b89), .unset, .unset] [(.int (f1_0 (1 : Int32) il5_72 dl10_72))])
            refine own_step (fun _ => XS.iconst X95.here hx rfl (hb hby at_218)) ?_
            show own_Ends p e below s _ _ _ T95 (mkF m 219 #[.val (.int i0), .val (.int i1), .val (.int i2), .val (.int i3), .val (.int (5 : Int32)), .val (.int il5_72), .val (.int il6_72), .val (.int il7_72), .val (.int il8_72), .val (.int il9_72), .val (.double dl10_72), .second, .val (.int il9_72), .val (.ref b89), .unset, .unset] [(.int (1 : Int32)), (.int (f1_0 (1 : Int32) il5_72 dl10_72))])
            refine own_step (fun _ => XS.goto X95.here hx rfl (pc0 := 219) (pc' := 223) rfl (hb hby at_219) (by decide) (by decide)) ?_
            show own_Ends p e below s _ _ _ T95 (mkF m 223 #[.val (.int i0), .val (.int i1), .val (.int i2), .val (.int i3), .val (.int (5 : Int32)), .val (.int il5_72), .val (.int il6_72), .val (.int il7_72), .val (.int il8_72), .val (.int il9_72), .val (.double dl10_72), .second, .val (.int il9_72), .val (.ref b89), .unset, .unset] [(.int (1 : Int32)), (.int (f1_0 (1 : Int32) il5_72 dl10_72))])
            refine own_step (fun _ => XS.iload X95.here hx rfl (hb hby at_223) rfl) ?_
            show own_Ends p e below s _ _ _ T95 (mkF m 225 #[.val (.int i0), .val (.int i1), .val (.int i2), .val (.int i3), .val (.int (5 : Int32)), .val (.int il5_72), .val (.int il6_72), .val (.int il7_72), .val (.int il8_72), .val (.int il9_72), .val (.double dl10_72), .second, .val (.int il9_72), .val (.ref b89), .unset, .unset] [(.int il6_72), (.int (1 : Int32)), (.int (f1_0 (1 : Int32) il5_72 dl10_72))])
            refine own_step (fun _ => XS.dload X95.here hx rfl (hb hby at_225) rfl) ?_
            show own_Ends p e below s _ _ _ T95 (mkF m 227 #[.val (.int i0), .val (.int i1), .val (.int i2), .val (.int i3), .val (.int (5 : Int32)), .val (.int il5_72), .val (.int il6_72), .val (.int il7_72), .val (.int il8_72), .val (.int il9_72), .val (.double dl10_72), .second, .val (.int il9_72), .val (.ref b89), .unset, .unset] [(.double dl10_72), (.int il6_72), (.int (1 : Int32)), (.int (f1_0 (1 : Int32) il5_72 dl10_72))])
            obtain ⟨_, _, ⟨T96, L96, k96, n96⟩, -, X96, ⟨Lc96, hQ96, l96, y96, z96⟩, st96⟩ := Jvm.LawKit.callS X95 hx (y := (⟨"com/example/graded_queue/gradedqueue/sim/CumulativeFirstAbovePinLaw", "le", "(ZID)I"⟩ : MethodName)) hown (mvT hZ (hw _ (List.mem_of_getElem? (i := 3) rfl))) (mvT hZ (hw _ (List.mem_of_getElem? (i := 4) rfl))) (mvT hZ (hw _ (List.mem_of_getElem? (i := 5) rfl))) (mvT hZ (hw _ (List.mem_of_getElem? (i := 6) rfl))) (by decide) (backOf (W := 1) (rm1 l Z a0 hw [] (1 : Int32) il6_72 dl10_72 h94 n0 Zs94) hZ (hw _ (List.mem_of_getElem? (i := 6) rfl)) (hw _ (List.mem_of_getElem? (i := 5) rfl)) (by decide) (by decide)) (g := (mkF m 227 #[.val (.int i0), .val (.int i1), .val (.int i2), .val (.int i3), .val (.int (5 : Int32)), .val (.int il5_72), .val (.int il6_72), .val (.int il7_72), .val (.int il8_72), .val (.int il9_72), .val (.double dl10_72), .second, .val (.int il9_72), .val (.ref b89), .unset, .unset] [(.double dl10_72), (.int il6_72), (.int (1 : Int32)), (.int (f1_0 (1 : Int32) il5_72 dl10_72))])) rfl (by rw [hml]; rfl) (argsL := [(.int (1 : Int32)), (.int il6_72), (.double dl10_72)]) (rest := [(.int (f1_0 (1 : Int32) il5_72 dl10_72))]) (lenOf pd_0 rfl) rfl (by show 2 * 0 + _ ≤ _; exact Nat.le_of_eq rfl) (hb hby at_227) (fun _ _ => ⟨rfl, hh95, (by decide : 1 + 0 ≤ _), (by decide : 5 + 0 ≤ _)⟩)
            dsimp only [Pt.U, Pt.locs, Pt.cells, Pt.slots] at X96 l96 y96 z96 st96 hQ96
            subst l96 y96 z96
            obtain ⟨rfl, N96q, hh96⟩ := hQ96
            have N96 := Fr.app N95 N96q
            refine own_step st96 ?_
            show own_Ends p e below s _ _ _ T96 (mkF m 230 #[.val (.int i0), .val (.int i1), .val (.int i2), .val (.int i3), .val (.int (5 : Int32)), .val (.int il5_72), .val (.int il6_72), .val (.int il7_72), .val (.int il8_72), .val (.int il9_72), .val (.double dl10_72), .second, .val (.int il9_72), .val (.ref b89), .unset, .unset] [(.int (f1_0 (1 : Int32) il6_72 dl10_72)), (.int (f1_0 (1 : Int32) il5_72 dl10_72))])
            refine own_step (fun _ => XS.iadd X96.here hx rfl (hb hby at_230) rfl) ?_
            show own_Ends p e below s _ _ _ T96 (mkF m 231 #[.val (.int i0), .val (.int i1), .val (.int i2), .val (.int i3), .val (.int (5 : Int32)), .val (.int il5_72), .val (.int il6_72), .val (.int il7_72), .val (.int il8_72), .val (.int il9_72), .val (.double dl10_72), .second, .val (.int il9_72), .val (.ref b89), .unset, .unset] [(.int ((f1_0 (1 : Int32) il5_72 dl10_72) + (f1_0 (1 : Int32) il6_72 dl10_72)))])
            refine own_step (fun _ => XS.iload X96.here hx rfl (hb hby at_231) rfl) ?_
            show own_Ends p e below s _ _ _ T96 (mkF m 233 #[.val (.int i0), .val (.int i1), .val (.int i2), .val (.int i3), .val (.int (5 : Int32)), .val (.int il5_72), .val (.int il6_72), .val (.int il7_72), .val (.int il8_72), .val (.int il9_72), .val (.double dl10_72), .second, .val (.int il9_72), .val (.ref b89), .unset, .unset] [(.int (5 : Int32)), (.int ((f1_0 (1 : Int32) il5_72 dl10_72) + (f1_0 (1 : Int32) il6_72 dl10_72)))])
            refine own_step (fun _ => XS.iconst X96.here hx rfl (hb hby at_233)) ?_
            show own_Ends p e below s _ _ _ T96 (mkF m 234 #[.val (.int i0), .val (.int i1), .val (.int i2), .val (.int i3), .val (.int (5 : Int32)), .val (.int il5_72), .val (.int il6_72), .val (.int il7_72), .val (.int il8_72), .val (.int il9_72), .val (.double dl10_72), .second, .val (.int il9_72), .val (.ref b89), .unset, .unset] [(.int (2 : Int32)), (.int (5 : Int32)), (.int ((f1_0 (1 : Int32) il5_72 dl10_72) + (f1_0 (1 : Int32) il6_72 dl10_72)))])
            refine own_step (fun _ => XS.icmpNo X96.here hx rfl (hb hby at_234) rfl (tlt (show (2 : Int32) < (5 : Int32) from (by decide))).2.2.2) ?_
            show own_Ends p e below s _ _ _ T96 (mkF m 237 #[.val (.int i0), .val (.int i1), .val (.int i2), .val (.int i3), .val (.int (5 : Int32)), .val (.int il5_72), .val (.int il6_72), .val (.int il7_72), .val (.int il8_72), .val (.int il9_72), .val (.double dl10_72), .second, .val (.int il9_72), .val (.ref b89), .unset, .unset] [(.int ((f1_0 (1 : Int32) il5_72 dl10_72) + (f1_0 (1 : Int32) il6_72 dl10_72)))])
            refine own_step (fun _ => XS.iconst X96.here hx rfl (hb hby at_237)) ?_
            show own_Ends p e below s _ _ _ T96 (mkF m 238 #[.val (.int i0), .val (.int i1), .val (.int i2), .val (.int i3), .val (.int (5 : Int32)), .val (.int il5_72), .val (.int il6_72), .val (.int il7_72), .val (.int il8_72), .val (.int il9_72), .val (.double dl10_72), .second, .val (.int il9_72), .val (.ref b89), .unset, .unset] [(.int (1 : Int32)), (.int ((f1_0 (1 : Int32) il5_72 dl10_72) + (f1_0 (1 : Int32) il6_72 dl10_72)))])
            refine own_step (fun _ => XS.goto X96.here hx rfl (pc0 := 238) (pc' := 242) rfl (hb hby at_238) (by decide) (by decide)) ?_
            show own_Ends p e below s _ _ _ T96 (mkF m 242 #[.val (.int i0), .val (.int i1), .val (.int i2), .val (.int i3), .val (.int (5 : Int32)), .val (.int il5_72), .val (.int il6_72), .val (.int il7_72), .val (.int il8_72), .val (.int il9_72), .val (.double dl10_72), .second, .val (.int il9_72), .val (.ref b89), .unset, .unset] [(.int (1 : Int32)), (.int ((f1_0 (1 : Int32) il5_72 dl10_72) + (f1_0 (1 : Int32) il6_72 dl10_72)))])
            refine own_step (fun _ => XS.iload X96.here hx rfl (hb hby at_242) rfl) ?_
            show own_Ends p e below s _ _ _ T96 (mkF m 244 #[.val (.int i0), .val (.int i1), .val (.int i2), .val (.int i3), .val (.int (5 : Int32)), .val (.int il5_72), .val (.int il6_72), .val (.int il7_72), .val (.int il8_72), .val (.int il9_72), .val (.double dl10_72), .second, .val (.int il9_72), .val (.ref b89), .unset, .unset] [(.int il7_72), (.int (1 : Int32)), (.int ((f1_0 (1 : Int32) il5_72 dl10_72) + (f1_0 (1 : Int32) il6_72 dl10_72)))])
            refine own_step (fun _ => XS.dload X96.here hx rfl (hb hby at_244) rfl) ?_
            show own_Ends p e below s _ _ _ T96 (mkF m 246 #[.val (.int i0), .val (.int i1), .val (.int i2), .val (.int i3), .val (.int (5 : Int32)), .val (.int il5_72), .val (.int il6_72), .val (.int il7_72), .val (.int il8_72), .val (.int il9_72), .val (.double dl10_72), .second, .val (.int il9_72), .val (.ref b89), .unset, .unset] [(.double dl10_72), (.int il7_72), (.int (1 : Int32)), (.int ((f1_0 (1 : Int32) il5_72 dl10_72) + (f1_0 (1 : Int32) il6_72 dl10_72)))])
            obtain ⟨_, _, ⟨T97, L97, k97, n97⟩, -, X97, ⟨Lc97, hQ97, l97, y97, z97⟩, st97⟩ := Jvm.LawKit.callS X96 hx (y := (⟨"com/example/graded_queue/gradedqueue/sim/CumulativeFirstAbovePinLaw", "le", "(ZID)I"⟩ : MethodName)) hown (mvT hZ (hw _ (List.mem_of_getElem? (i := 3) rfl))) (mvT hZ (hw _ (List.mem_of_getElem? (i := 4) rfl))) (mvT hZ (hw _ (List.mem_of_getElem? (i := 5) rfl))) (mvT hZ (hw _ (List.mem_of_getElem? (i := 6) rfl))) (by decide) (backOf (W := 1) (rm1 l Z a0 hw [] (1 : Int32) il7_72 dl10_72 h94 n0 Zs94) hZ (hw _ (List.mem_of_getElem? (i := 6) rfl)) (hw _ (List.mem_of_getElem? (i := 5) rfl)) (by decide) (by decide)) (g := (mkF m 246 #[.val (.int i0), .val (.int i1), .val (.int i2), .val (.int i3), .val (.int (5 : Int32)), .val (.int il5_72), .val (.int il6_72), .val (.int il7_72), .val (.int il8_72), .val (.int il9_72), .val (.double dl10_72), .second, .val (.int il9_72), .val (.ref b89), .unset, .unset] [(.double dl10_72), (.int il7_72), (.int (1 : Int32)), (.int ((f1_0 (1 : Int32) il5_72 dl10_72) + (f1_0 (1 : Int32) il6_72 dl10_72)))])) rfl (by rw [hml]; rfl) (argsL := [(.int (1 : Int32)), (.int il7_72), (.double dl10_72)]) (rest := [(.int ((f1_0 (1 : Int32) il5_72 dl10_72) + (f1_0 (1 : Int32) il6_72 dl10_72)))]) (lenOf pd_0 rfl) rfl (by show 2 * 0 + _ ≤ _; exact Nat.le_of_eq rfl) (hb hby at_246) (fun _ _ => ⟨rfl, hh96, (by decide : 1 + 0 ≤ _), (by decide : 5 + 0 ≤ _)⟩)
            dsimp only [Pt.U, Pt.locs, Pt.cells, Pt.slots] at X97 l97 y97 z97 st97 hQ97
            subst l97 y97 z97
            obtain ⟨rfl, N97q, hh97⟩ := hQ97
            have N97 := Fr.app N96 N97q
            refine own_step st97 ?_
            show own_Ends p e below s _ _ _ T97 (mkF m 249 #[.val (.int i0), .val (.int i1), .val (.int i2), .val (.int i3), .val (.int (5 : Int32)), .val (.int il5_72), .val (.int il6_72), .val (.int il7_72), .val (.int il8_72), .val (.int il9_72), .val (.double dl10_72), .second, .val (.int il9_72), .val (.ref b89), .unset, .unset] [(.int (f1_0 (1 : Int32) il7_72 dl10_72)), (.int ((f1_0 (1 : Int32) il5_72 dl10_72) + (f1_0 (1 : Int32) il6_72 dl10_72)))])
            refine own_step (fun _ => XS.iadd X97.here hx rfl (hb hby at_249) rfl) ?_
            show own_Ends p e below s _ _ _ T97 (mkF m 250 #[.val (.int i0), .val (.int i1), .val (.int i2), .val (.int i3), .val (.int (5 : Int32)), .val (.int il5_72), .val (.int il6_72), .val (.int il7_72), .val (.int il8_72), .val (.int il9_72), .val (.double dl10_72), .second, .val (.int il9_72), .val (.ref b89), .unset, .unset] [(.int (((f1_0 (1 : Int32) il5_72 dl10_72) + (f1_0 (1 : Int32) il6_72 dl10_72)) + (f1_0 (1 : Int32) il7_72 dl10_72)))])
            refine own_step (fun _ => XS.iload X97.here hx rfl (hb hby at_250) rfl) ?_
            show own_Ends p e below s _ _ _ T97 (mkF m 252 #[.val (.int i0), .val (.int i1), .val (.int i2), .val (.int i3), .val (.int (5 : Int32)), .val (.int il5_72), .val (.int il6_72), .val (.int il7_72), .val (.int il8_72), .val (.int il9_72), .val (.double dl10_72), .second, .val (.int il9_72), .val (.ref b89), .unset, .unset] [(.int (5 : Int32)), (.int (((f1_0 (1 : Int32) il5_72 dl10_72) + (f1_0 (1 : Int32) il6_72 dl10_72)) + (f1_0 (1 : Int32) il7_72 dl10_72)))])
            refine own_step (fun _ => XS.iconst X97.here hx rfl (hb hby at_252)) ?_
            show own_Ends p e below s _ _ _ T97 (mkF m 253 #[.val (.int i0), .val (.int i1), .val (.int i2), .val (.int i3), .val (.int (5 : Int32)), .val (.int il5_72), .val (.int il6_72), .val (.int il7_72), .val (.int il8_72), .val (.int il9_72), .val (.double dl10_72), .second, .val (.int il9_72), .val (.ref b89), .unset, .unset] [(.int (3 : Int32)), (.int (5 : Int32)), (.int (((f1_0 (1 : Int32) il5_72 dl10_72) + (f1_0 (1 : Int32) il6_72 dl10_72)) + (f1_0 (1 : Int32) il7_72 dl10_72)))])
            refine own_step (fun _ => XS.icmpNo X97.here hx rfl (hb hby at_253) rfl (tlt (show (3 : Int32) < (5 : Int32) from (by decide))).2.2.2) ?_
            show own_Ends p e below s _ _ _ T97 (mkF m 256 #[.val (.int i0), .val (.int i1), .val (.int i2), .val (.int i3), .val (.int (5 : Int32)), .val (.int il5_72), .val (.int il6_72), .val (.int il7_72), .val (.int il8_72), .val (.int il9_72), .val (.double dl10_72), .second, .val (.int il9_72), .val (.ref b89), .unset, .unset] [(.int (((f1_0 (1 : Int32) il5_72 dl10_72) + (f1_0 (1 : Int32) il6_72 dl10_72)) + (f1_0 (1 : Int32) il7_72 dl10_72)))])
            refine own_step (fun _ => XS.iconst X97.here hx rfl (hb hby at_256)) ?_
            show own_Ends p e below s _ _ _ T97 (mkF m 257 #[.val (.int i0), .val (.int i1), .val (.int i2), .val (.int i3), .val (.int (5 : Int32)), .val (.int il5_72), .val (.int il6_72), .val (.int il7_72), .val (.int il8_72), .val (.int il9_72), .val (.double dl10_72), .second, .val (.int il9_72), .val (.ref b89), .unset, .unset] [(.int (1 : Int32)), (.int (((f1_0 (1 : Int32) il5_72 dl10_72) + (f1_0 (1 : Int32) il6_72 dl10_72)) + (f1_0 (1 : Int32) il7_72 dl10_72)))])
            refine own_step (fun _ => XS.goto X97.here hx rfl (pc0 := 257) (pc' := 261) rfl (hb hby at_257) (by decide) (by decide)) ?_
            show own_Ends p e below s _ _ _ T97 (mkF m 261 #[.val (.int i0), .val (.int i1), .val (.int i2), .val (.int i3), .val (.int (5 : Int32)), .val (.int il5_72), .val (.int il6_72), .val (.int il7_72), .val (.int il8_72), .val (.int il9_72), .val (.double dl10_72), .second, .val (.int il9_72), .val (.ref b89), .unset, .unset] [(.int (1 : Int32)), (.int (((f1_0 (1 : Int32) il5_72 dl10_72) + (f1_0 (1 : Int32) il6_72 dl10_72)) + (f1_0 (1 : Int32) il7_72 dl10_72)))])
            refine own_step (fun _ => XS.iload X97.here hx rfl (hb hby at_261) rfl) ?_
            show own_Ends p e below s _ _ _ T97 (mkF m 263 #[.val (.int i0), .val (.int i1), .val (.int i2), .val (.int i3), .val (.int (5 : Int32)), .val (.int il5_72), .val (.int il6_72), .val (.int il7_72), .val (.int il8_72), .val (.int il9_72), .val (.double dl10_72), .second, .val (.int il9_72), .val (.ref b89), .unset, .unset] [(.int il8_72), (.int (1 : Int32)), (.int (((f1_0 (1 : Int32) il5_72 dl10_72) + (f1_0 (1 : Int32) il6_72 dl10_72)) + (f1_0 (1 : Int32) il7_72 dl10_72)))])
            refine own_step (fun _ => XS.dload X97.here hx rfl (hb hby at_263) rfl) ?_
            show own_Ends p e below s _ _ _ T97 (mkF m 265 #[.val (.int i0), .val (.int i1), .val (.int i2), .val (.int i3), .val (.int (5 : Int32)), .val (.int il5_72), .val (.int il6_72), .val (.int il7_72), .val (.int il8_72), .val (.int il9_72), .val (.double dl10_72), .second, .val (.int il9_72), .val (.ref b89), .unset, .unset] [(.double dl10_72), (.int il8_72), (.int (1 : Int32)), (.int (((f1_0 (1 : Int32) il5_72 dl10_72) + (f1_0 (1 : Int32) il6_72 dl10_72)) + (f1_0 (1 : Int32) il7_72 dl10_72)))])
            obtain ⟨_, _, ⟨T98, L98, k98, n98⟩, -, X98, ⟨Lc98, hQ98, l98, y98, z98⟩, st98⟩ := Jvm.LawKit.callS X97 hx (y := (⟨"com/example/graded_queue/gradedqueue/sim/CumulativeFirstAbovePinLaw", "le", "(ZID)I"⟩ : MethodName)) hown (mvT hZ (hw _ (List.mem_of_getElem? (i := 3) rfl))) (mvT hZ (hw _ (List.mem_of_getElem? (i := 4) rfl))) (mvT hZ (hw _ (List.mem_of_getElem? (i := 5) rfl))) (mvT hZ (hw _ (List.mem_of_getElem? (i := 6) rfl))) (by decide) (backOf (W := 1) (rm1 l Z a0 hw [] (1 : Int32) il8_72 dl10_72 h94 n0 Zs94) hZ (hw _ (List.mem_of_getElem? (i := 6) rfl)) (hw _ (List.mem_of_getElem? (i := 5) rfl)) (by decide) (by decide)) (g := (mkF m 265 #[.val (.int i0), .val (.int i1), .val (.int i2), .val (.int i3), .val (.int (5 : Int32)), .val (.int il5_72), .val (.int il6_72), .val (.int il7_72), .val (.int il8_72), .val (.int il9_72), .val (.double dl10_72), .second, .val (.int il9_72), .val (.ref b89), .unset, .unset] [(.double dl10_72), (.int il8_72), (.int (1 : Int32)), (.int (((f1_0 (1 : Int32) il5_72 dl10_72) + (f1_0 (1 : Int32) il6_72 dl10_72)) + (f1_0 (1 : Int32) il7_72 dl10_72)))])) rfl (by rw [hml]; rfl) (argsL := [(.int (1 : Int32)), (.int il8_72), (.double dl10_72)]) (rest := [(.int (((f1_0 (1 : Int32) il5_72 dl10_72) + (f1_0 (1 : Int32) il6_72 dl10_72)) + (f1_0 (1 : Int32) il7_72 dl10_72)))]) (lenOf pd_0 rfl) rfl (by show 2 * 0 + _ ≤ _; exact Nat.le_of_eq rfl) (hb hby at_265) (fun _ _ => ⟨rfl, hh97, (by decide : 1 + 0 ≤ _), (by decide : 5 + 0 ≤ _)⟩)
            dsimp only [Pt.U, Pt.locs, Pt.cells, Pt.slots] at X98 l98 y98 z98 st98 hQ98
            subst l98 y98 z98
            obtain ⟨rfl, N98q, hh98⟩ := hQ98
            have N98 := Fr.app N97 N98q
            refine own_step st98 ?_
            show own_Ends p e below s _ _ _ T98 (mkF m 268 #[.val (.int i0), .val (.int i1), .val (.int i2), .val (.int i3), .val (.int (5 : Int32)), .val (.int il5_72), .val (.int il6_72), .val (.int il7_72), .val (.int il8_72), .val (.int il9_72), .val (.double dl10_72), .second, .val (.int il9_72), .val (.ref b89), .unset, .unset] [(.int (f1_0 (1 : Int32) il8_72 dl10_72)), (.int (((f1_0 (1 : Int32) il5_72 dl10_72) + (f1_0 (1 : Int32) il6_72 dl10_72)) + (f1_0 (1 : Int32) il7_72 dl10_72)))])
            refine own_step (fun _ => XS.iadd X98.here hx rfl (hb hby at_268) rfl) ?_
            show own_Ends p e below s _ _ _ T98 (mkF m 269 #[.val (.int i0), .val (.int i1), .val (.int i2), .val (.int i3), .val (.int (5 : Int32)), .val (.int il5_72), .val (.int il6_72), .val (.int il7_72), .val (.int il8_72), .val (.int il9_72), .val (.double dl10_72), .second, .val (.int il9_72), .val (.ref b89), .unset, .unset] [(.int ((((f1_0 (1 : Int32) il5_72 dl10_72) + (f1_0 (1 : Int32) il6_72 dl10_72)) + (f1_0 (1 : Int32) il7_72 dl10_72)) + (f1_0 (1 : Int32) il8_72 dl10_72)))])
            refine own_step (fun _ => XS.iload X98.here hx rfl (hb hby at_269) rfl) ?_
            show own_Ends p e below s _ _ _ T98 (mkF m 271 #[.val (.int i0), .val (.int i1), .val (.int i2), .val (.int i3), .val (.int (5 : Int32)), .val (.int il5_72), .val (.int il6_72), .val (.int il7_72), .val (.int il8_72), .val (.int il9_72), .val (.double dl10_72), .second, .val (.int il9_72), .val (.ref b89), .unset, .unset] [(.int (5 : Int32)), (.int ((((f1_0 (1 : Int32) il5_72 dl10_72) + (f1_0 (1 : Int32) il6_72 dl10_72)) + (f1_0 (1 : Int32) il7_72 dl10_72)) + (f1_0 (1 : Int32) il8_72 dl10_72)))])
            refine own_step (fun _ => XS.iconst X98.here hx rfl (hb hby at_271)) ?_
            show own_Ends p e below s _ _ _ T98 (mkF m 272 #[.val (.int i0), .val (.int i1), .val (.int i2), .val (.int i3), .val (.int (5 : Int32)), .val (.int il5_72), .val (.int il6_72), .val (.int il7_72), .val (.int il8_72), .val (.int il9_72), .val (.double dl10_72), .second, .val (.int il9_72), .val (.ref b89), .unset, .unset] [(.int (4 : Int32)), (.int (5 : Int32)), (.int ((((f1_0 (1 : Int32) il5_72 dl10_72) + (f1_0 (1 : Int32) il6_72 dl10_72)) + (f1_0 (1 : Int32) il7_72 dl10_72)) + (f1_0 (1 : Int32) il8_72 dl10_72)))])
            refine own_step (fun _ => XS.icmpNo X98.here hx rfl (hb hby at_272) rfl (tlt (show (4 : Int32) < (5 : Int32) from (by decide))).2.2.2) ?_
            show own_Ends p e below s _ _ _ T98 (mkF m 275 #[.val (.int i0), .val (.int i1), .val (.int i2), .val (.int i3), .val (.int (5 : Int32)), .val (.int il5_72), .val (.int il6_72), .val (.int il7_72), .val (.int il8_72), .val (.int il9_72), .val (.double dl10_72), .second, .val (.int il9_72), .val (.ref b89), .unset, .unset] [(.int ((((f1_0 (1 : Int32) il5_72 dl10_72) + (f1_0 (1 : Int32) il6_72 dl10_72)) + (f1_0 (1 : Int32) il7_72 dl10_72)) + (f1_0 (1 : Int32) il8_72 dl10_72)))])
            refine own_step (fun _ => XS.iconst X98.here hx rfl (hb hby at_275)) ?_
            show own_Ends p e below s _ _ _ T98 (mkF m 276 #[.val (.int i0), .val (.int i1), .val (.int i2), .val (.int i3), .val (.int (5 : Int32)), .val (.int il5_72), .val (.int il6_72), .val (.int il7_72), .val (.int il8_72), .val (.int il9_72), .val (.double dl10_72), .second, .val (.int il9_72), .val (.ref b89), .unset, .unset] [(.int (1 : Int32)), (.int ((((f1_0 (1 : Int32) il5_72 dl10_72) + (f1_0 (1 : Int32) il6_72 dl10_72)) + (f1_0 (1 : Int32) il7_72 dl10_72)) + (f1_0 (1 : Int32) il8_72 dl10_72)))])
            refine own_step (fun _ => XS.goto X98.here hx rfl (pc0 := 276) (pc' := 280) rfl (hb hby at_276) (by decide) (by decide)) ?_
            show own_Ends p e below s _ _ _ T98 (mkF m 280 #[.val (.int i0), .val (.int i1), .val (.int i2), .val (.int i3), .val (.int (5 : Int32)), .val (.int il5_72), .val (.int il6_72), .val (.int il7_72), .val (.int il8_72), .val (.int il9_72), .val (.double dl10_72), .second, .val (.int il9_72), .val (.ref b89), .unset, .unset] [(.int (1 : Int32)), (.int ((((f1_0 (1 : Int32) il5_72 dl10_72) + (f1_0 (1 : Int32) il6_72 dl10_72)) + (f1_0 (1 : Int32) il7_72 dl10_72)) + (f1_0 (1 : Int32) il8_72 dl10_72)))])
            refine own_step (fun _ => XS.iload X98.here hx rfl (hb hby at_280) rfl) ?_
            show own_Ends p e below s _ _ _ T98 (mkF m 282 #[.val (.int i0), .val (.int i1), .val (.int i2), .val (.int i3), .val (.int (5 : Int32)), .val (.int il5_72), .val (.int il6_72), .val (.int il7_72), .val (.int il8_72), .val (.int il9_72), .val (.double dl10_72), .second, .val (.int il9_72), .val (.ref b89), .unset, .unset] [(.int il9_72), (.int (1 : Int32)), (.int ((((f1_0 (1 : Int32) il5_72 dl10_72) + (f1_0 (1 : Int32) il6_72 dl10_72)) + (f1_0 (1 : Int32) il7_72 dl10_72)) + (f1_0 (1 : Int32) il8_72 dl10_72)))])
            refine own_step (fun _ => XS.dload X98.here hx rfl (hb hby at_282) rfl) ?_
            show own_Ends p e below s _ _ _ T98 (mkF m 284 #[.val (.int i0), .val (.int i1), .val (.int i2), .val (.int i3), .val (.int (5 : Int32)), .val (.int il5_72), .val (.int il6_72), .val (.int il7_72), .val (.int il8_72), .val (.int il9_72), .val (.double dl10_72), .second, .val (.int il9_72), .val (.ref b89), .unset, .unset] [(.double dl10_72), (.int il9_72), (.int (1 : Int32)), (.int ((((f1_0 (1 : Int32) il5_72 dl10_72) + (f1_0 (1 : Int32) il6_72 dl10_72)) + (f1_0 (1 : Int32) il7_72 dl10_72)) + (f1_0 (1 : Int32) il8_72 dl10_72)))])
            obtain ⟨_, _, ⟨T99, L99, k99, n99⟩, -, X99, ⟨Lc99, hQ99, l99, y99, z99⟩, st99⟩ := Jvm.LawKit.callS X98 hx (y := (⟨"com/example/graded_queue/gradedqueue/sim/CumulativeFirstAbovePinLaw", "le", "(ZID)I"⟩ : MethodName)) hown (mvT hZ (hw _ (List.mem_of_getElem? (i := 3) rfl))) (mvT hZ (hw _ (List.mem_of_getElem? (i := 4) rfl))) (mvT hZ (hw _ (List.mem_of_getElem? (i := 5) rfl))) (mvT hZ (hw _ (List.mem_of_getElem? (i := 6) rfl))) (by decide) (backOf (W := 1) (rm1 l Z a0 hw [] (1 : Int32) il9_72 dl10_72 h94 n0 Zs94) hZ (hw _ (List.mem_of_getElem? (i := 6) rfl)) (hw _ (List.mem_of_getElem? (i := 5) rfl)) (by decide) (by decide)) (g := (mkF m 284 #[.val (.int i0), .val (.int i1), .val (.int i2), .val (.int i3), .val (.int (5 : Int32)), .val (.int il5_72), .val (.int il6_72), .val (.int il7_72), .val (.int il8_72), .val (.int il9_72), .val (.double dl10_72), .second, .val (.int il9_72), .val (.ref b89), .unset, .unset] [(.double dl10_72), (.int il9_72), (.int (1 : Int32)), (.int ((((f1_0 (1 : Int32) il5_72 dl10_72) + (f1_0 (1 : Int32) il6_72 dl10_72)) + (f1_0 (1 : Int32) il7_72 dl10_72)) + (f1_0 (1 : Int32) il8_72 dl10_72)))])) rfl (by rw [hml]; rfl) (argsL := [(.int (1 : Int32)), (.int il9_72), (.double dl10_72)]) (rest := [(.int ((((f1_0 (1 : Int32) il5_72 dl10_72) + (f1_0 (1 : Int32) il6_72 dl10_72)) + (f1_0 (1 : Int32) il7_72 dl10_72)) + (f1_0 (1 : Int32) il8_72 dl10_72)))]) (lenOf pd_0 rfl) rfl (by show 2 * 0 + _ ≤ _; exact Nat.le_of_eq rfl) (hb hby at_284) (fun _ _ => ⟨rfl, hh98, (by decide : 1 + 0 ≤ _), (by decide : 5 + 0 ≤ _)⟩)
            dsimp only [Pt.U, Pt.locs, Pt.cells, Pt.slots] at X99 l99 y99 z99 st99 hQ99
            subst l99 y99 z99
            obtain ⟨rfl, N99q, hh99⟩ := hQ99
            have N99 := Fr.app N98 N99q
            refine own_step st99 ?_
            show own_Ends p e below s _ _ _ T99 (mkF m 287 #[.val (.int i0), .val (.int i1), .val (.int i2), .val (.int i3), .val (.int (5 : Int32)), .val (.int il5_72), .val (.int il6_72), .val (.int il7_72), .val (.int il8_72), .val (.int il9_72), .val (.double dl10_72), .second, .val (.int il9_72), .val (.ref b89), .unset, .unset] [(.int (f1_0 (1 : Int32) il9_72 dl10_72)), (.int ((((f1_0 (1 : Int32) il5_72 dl10_72) + (f1_0 (1 : Int32) il6_72 dl10_72)) + (f1_0 (1 : Int32) il7_72 dl10_72)) + (f1_0 (1 : Int32) il8_72 dl10_72)))])
            refine own_step (fun _ => XS.iadd X99.here hx rfl (hb hby at_287) rfl) ?_
            show own_Ends p e below s _ _ _ T99 (mkF m 288 #[.val (.int i0), .val (.int i1), .val (.int i2), .val (.int i3), .val (.int (5 : Int32)), .val (.int il5_72), .val (.int il6_72), .val (.int il7_72), .val (.int il8_72), .val (.int il9_72), .val (.double dl10_72), .second, .val (.int il9_72), .val (.ref b89), .unset, .unset] [(.int (((((f1_0 (1 : Int32) il5_72 dl10_72) + (f1_0 (1 : Int32) il6_72 dl10_72)) + (f1_0 (1 : Int32) il7_72 dl10_72)) + (f1_0 (1 : Int32) il8_72 dl10_72)) + (f1_0 (1 : Int32) il9_72 dl10_72)))])
            refine own_step (fun _ => XS.istore X99.here hx rfl (hb hby at_288) rfl (l' := #[.val (.int i0), .val (.int i1), .val (.int i2), .val (.int i3), .val (.int (5 : Int32)), .val (.int il5_72), .val (.int il6_72), .val (.int il7_72), .val (.int il8_72), .val (.int il9_72), .val (.double dl10_72), .second, .val (.int il9_72), .val (.ref b89), .val (.int (((((f1_0 (1 : Int32) il5_72 dl10_72) + (f1_0 (1 : Int32) il6_72 dl10_72)) + (f1_0 (1 : Int32) il7_72 dl10_72)) + (f1_0 (1 : Int32) il8_72 dl10_72)) + (f1_0 (1 : Int32) il9_72 dl10_72))), .unset]) rfl) ?_
            show own_Ends p e below s _ _ _ T99 (mkF m 290 #[.val (.int i0), .val (.int i1), .val (.int i2), .val (.int i3), .val (.int (5 : Int32)), .val (.int il5_72), .val (.int il6_72), .val (.int il7_72), .val (.int il8_72), .val (.int il9_72), .val (.double dl10_72), .second, .val (.int il9_72), .val (.ref b89), .val (.int (((((f1_0 (1 : Int32) il5_72 dl10_72) + (f1_0 (1 : Int32) il6_72 dl10_72)) + (f1_0 (1 : Int32) il7_72 dl10_72)) + (f1_0 (1 : Int32) il8_72 dl10_72)) + (f1_0 (1 : Int32) il9_72 dl10_72))), .unset] [])
            refine own_step (fun _ => XS.aload X99.here hx rfl (hb hby at_290) rfl rfl) ?_
            show own_Ends p e below s _ _ _ T99 (mkF m 292 #[.val (.int i0), .val (.int i1), .val (.int i2), .val (.int i3), .val (.int (5 : Int32)), .val (.int il5_72), .val (.int il6_72), .val (.int il7_72), .val (.int il8_72), .val (.int il9_72), .val (.double dl10_72), .second, .val (.int il9_72), .val (.ref b89), .val (.int (((((f1_0 (1 : Int32) il5_72 dl10_72) + (f1_0 (1 : Int32) il6_72 dl10_72)) + (f1_0 (1 : Int32) il7_72 dl10_72)) + (f1_0 (1 : Int32) il8_72 dl10_72)) + (f1_0 (1 : Int32) il9_72 dl10_72))), .unset] [(.ref b89)])
            refine own_step (fun _ => XS.dload X99.here hx rfl (hb hby at_292) rfl) ?_
            show own_Ends p e below s _ _ _ T99 (mkF m 294 #[.val (.int i0), .val (.int i1), .val (.int i2), .val (.int i3), .val (.int (5 : Int32)), .val (.int il5_72), .val (.int il6_72), .val (.int il7_72), .val (.int il8_72), .val (.int il9_72), .val (.double dl10_72), .second, .val (.int il9_72), .val (.ref b89), .val (.int (((((f1_0 (1 : Int32) il5_72 dl10_72) + (f1_0 (1 : Int32) il6_72 dl10_72)) + (f1_0 (1 : Int32) il7_72 dl10_72)) + (f1_0 (1 : Int32) il8_72 dl10_72)) + (f1_0 (1 : Int32) il9_72 dl10_72))), .unset] [(.double dl10_72), (.ref b89)])
            obtain ⟨_, _, ⟨T100, L100, k100, n100⟩, -, X100, ⟨Lc100, hQ100, l100, y100, z100⟩, st100⟩ := Jvm.LawKit.callS X99 hx (y := (⟨"com/example/graded_queue/gradedqueue/sim/Cumulative", "firstAbove", "([DD)I"⟩ : MethodName)) hown (mvT hZ (hw _ (List.mem_of_getElem? (i := 7) rfl))) (mvT hZ (hw _ (List.mem_of_getElem? (i := 8) rfl))) (mvT hZ (hw _ (List.mem_of_getElem? (i := 9) rfl))) (mvT hZ (hw _ (List.mem_of_getElem? (i := 10) rfl))) (by decide) (backOf (W := 0) (rm2_5 l Z a0 hw [] b89 dl10_72 k89 (FP.i2d il5_72) (FP.i2d il6_72) (FP.i2d il7_72) (FP.i2d il8_72) (FP.i2d il9_72) h94 n0 Zs94 V94) hZ (hw _ (List.mem_of_getElem? (i := 10) rfl)) (hw _ (List.mem_of_getElem? (i := 9) rfl)) (by decide) (by decide)) (g := (mkF m 294 #[.val (.int i0), .val (.int i1), .val (.int i2), .val (.int i3), .val (.int (5 : Int32)), .val (.int il5_72), .val (.int il6_72), .val (.int il7_72), .val (.int il8_72), .val (.int il9_72), .val (.double dl10_72), .second, .val (.int il9_72), .val (.ref b89), .val (.int (((((f1_0 (1 : Int32) il5_72 dl10_72) + (f1_0 (1 : Int32) il6_72 dl10_72)) + (f1_0 (1 : Int32) il7_72 dl10_72)) + (f1_0 (1 : Int32) il8_72 dl10_72)) + (f1_0 (1 : Int32) il9_72 dl10_72))), .unset] [(.double dl10_72), (.ref b89)])) rfl (by rw [hml]; rfl) (argsL := [(.ref b89), (.double dl10_72)]) (rest := []) (lenOf pd_1 rfl) rfl (by show 2 * 0 + _ ≤ _; exact Nat.le_of_eq rfl) (hb hby at_294) (fun _ _ => ⟨rfl, hh99, (by decide : 1 + 0 ≤ _), (by decide : 5 + 0 ≤ _)⟩)
            dsimp only [Pt.U, Pt.locs, Pt.cells, Pt.slots] at X100 l100 y100 z100 st100 hQ100
            subst l100 y100 z100
            obtain ⟨rfl, N100q, hh100⟩ := hQ100
            have N100 := Fr.app N99 N100q
            refine own_step st100 ?_
            show own_Ends p e below s _ _ _ T100 (mkF m 297 #[.val (.int i0), .val (.int i1), .val (.int i2), .val (.int i3), .val (.int (5 : Int32)), .val (.int il5_72), .val (.int il6_72), .val (.int il7_72), .val (.int il8_72), .val (.int il9_72), .val (.double dl10_72), .second, .val (.int il9_72), .val (.ref b89), .val (.int (((((f1_0 (1 : Int32) il5_72 dl10_72) + (f1_0 (1 : Int32) il6_72 dl10_72)) + (f1_0 (1 : Int32) il7_72 dl10_72)) + (f1_0 (1 : Int32) il8_72 dl10_72)) + (f1_0 (1 : Int32) il9_72 dl10_72))), .unset] [(.int (f2e_0 dl10_72 (FP.i2d il5_72) (FP.i2d il6_72) (FP.i2d il7_72) (FP.i2d il8_72) (FP.i2d il9_72)))])
            refine own_step (fun _ => XS.istore X100.here hx rfl (hb hby at_297) rfl (l' := #[.val (.int i0), .val (.int i1), .val (.int i2), .val (.int i3), .val (.int (5 : Int32)), .val (.int il5_72), .val (.int il6_72), .val (.int il7_72), .val (.int il8_72), .val (.int il9_72), .val (.double dl10_72), .second, .val (.int il9_72), .val (.ref b89), .val (.int (((((f1_0 (1 : Int32) il5_72 dl10_72) + (f1_0 (1 : Int32) il6_72 dl10_72)) + (f1_0 (1 : Int32) il7_72 dl10_72)) + (f1_0 (1 : Int32) il8_72 dl10_72)) + (f1_0 (1 : Int32) il9_72 dl10_72))), .val (.int (f2e_0 dl10_72 (FP.i2d il5_72) (FP.i2d il6_72) (FP.i2d il7_72) (FP.i2d il8_72) (FP.i2d il9_72)))]) rfl) ?_
            show own_Ends p e below s _ _ _ T100 (mkF m 299 #[.val (.int i0), .val (.int i1), .val (.int i2), .val (.int i3), .val (.int (5 : Int32)), .val (.int il5_72), .val (.int il6_72), .val (.int il7_72), .val (.int il8_72), .val (.int il9_72), .val (.double dl10_72), .second, .val (.int il9_72), .val (.ref b89), .val (.int (((((f1_0 (1 : Int32) il5_72 dl10_72) + (f1_0 (1 : Int32) il6_72 dl10_72)) + (f1_0 (1 : Int32) il7_72 dl10_72)) + (f1_0 (1 : Int32) il8_72 dl10_72)) + (f1_0 (1 : Int32) il9_72 dl10_72))), .val (.int (f2e_0 dl10_72 (FP.i2d il5_72) (FP.i2d il6_72) (FP.i2d il7_72) (FP.i2d il8_72) (FP.i2d il9_72)))] [])
            refine own_step (fun _ => XS.iload X100.here hx rfl (hb hby at_299) rfl) ?_
            show own_Ends p e below s _ _ _ T100 (mkF m 301 #[.val (.int i0), .val (.int i1), .val (.int i2), .val (.int i3), .val (.int (5 : Int32)), .val (.int il5_72), .val (.int il6_72), .val (.int il7_72), .val (.int il8_72), .val (.int il9_72), .val (.double dl10_72), .second, .val (.int il9_72), .val (.ref b89), .val (.int (((((f1_0 (1 : Int32) il5_72 dl10_72) + (f1_0 (1 : Int32) il6_72 dl10_72)) + (f1_0 (1 : Int32) il7_72 dl10_72)) + (f1_0 (1 : Int32) il8_72 dl10_72)) + (f1_0 (1 : Int32) il9_72 dl10_72))), .val (.int (f2e_0 dl10_72 (FP.i2d il5_72) (FP.i2d il6_72) (FP.i2d il7_72) (FP.i2d il8_72) (FP.i2d il9_72)))] [(.int (f2e_0 dl10_72 (FP.i2d il5_72) (FP.i2d il6_72) (FP.i2d il7_72) (FP.i2d il8_72) (FP.i2d il9_72)))])
            refine own_step (fun _ => XS.iload X100.here hx rfl (hb hby at_301) rfl) ?_
            show own_Ends p e below s _ _ _ T100 (mkF m 303 #[.val (.int i0), .val (.int i1), .val (.int i2), .val (.int i3), .val (.int (5 : Int32)), .val (.int il5_72), .val (.int il6_72), .val (.int il7_72), .val (.int il8_72), .val (.int il9_72), .val (.double dl10_72), .second, .val (.int il9_72), .val (.ref b89), .val (.int (((((f1_0 (1 : Int32) il5_72 dl10_72) + (f1_0 (1 : Int32) il6_72 dl10_72)) + (f1_0 (1 : Int32) il7_72 dl10_72)) + (f1_0 (1 : Int32) il8_72 dl10_72)) + (f1_0 (1 : Int32) il9_72 dl10_72))), .val (.int (f2e_0 dl10_72 (FP.i2d il5_72) (FP.i2d il6_72) (FP.i2d il7_72) (FP.i2d il8_72) (FP.i2d il9_72)))] [(.int (((((f1_0 (1 : Int32) il5_72 dl10_72) + (f1_0 (1 : Int32) il6_72 dl10_72)) + (f1_0 (1 : Int32) il7_72 dl10_72)) + (f1_0 (1 : Int32) il8_72 dl10_72)) + (f1_0 (1 : Int32) il9_72 dl10_72))), (.int (f2e_0 dl10_72 (FP.i2d il5_72) (FP.i2d il6_72) (FP.i2d il7_72) (FP.i2d il8_72) (FP.i2d il9_72)))])
            by_cases hc303 : (f2e_0 dl10_72 (FP.i2d il5_72) (FP.i2d il6_72) (FP.i2d il7_72) (FP.i2d il8_72) (FP.i2d il9_72)) = (((((f1_0 (1 : Int32) il5_72 dl10_72) + (f1_0 (1 : Int32) il6_72 dl10_72)) + (f1_0 (1 : Int32) il7_72 dl10_72)) + (f1_0 (1 : Int32) il8_72 dl10_72)) + (f1_0 (1 : Int32) il9_72 dl10_72))
            · have hvf0f1f2f3_t_t := hvf0f1f2f3_t.trans (if_pos hc303)
              refine own_step (fun _ => XS.icmpNo X100.here hx rfl (hb hby at_303) rfl (teq hc303).2) ?_
              show own_Ends p e below s _ _ _ T100 (mkF m 306 #[.val (.int i0), .val (.int i1), .val (.int i2), .val (.int i3), .val (.int (5 : Int32)), .val (.int il5_72), .val (.int il6_72), .val (.int il7_72), .val (.int il8_72), .val (.int il9_72), .val (.double dl10_72), .second, .val (.int il9_72), .val (.ref b89), .val (.int (((((f1_0 (1 : Int32) il5_72 dl10_72) + (f1_0 (1 : Int32) il6_72 dl10_72)) + (f1_0 (1 : Int32) il7_72 dl10_72)) + (f1_0 (1 : Int32) il8_72 dl10_72)) + (f1_0 (1 : Int32) il9_72 dl10_72))), .val (.int (f2e_0 dl10_72 (FP.i2d il5_72) (FP.i2d il6_72) (FP.i2d il7_72) (FP.i2d il8_72) (FP.i2d il9_72)))] [])
              refine own_step (fun _ => XS.iconst X100.here hx rfl (hb hby at_306)) ?_
              show own_Ends p e below s _ _ _ T100 (mkF m 307 #[.val (.int i0), .val (.int i1), .val (.int i2), .val (.int i3), .val (.int (5 : Int32)), .val (.int il5_72), .val (.int il6_72), .val (.int il7_72), .val (.int il8_72), .val (.int il9_72), .val (.double dl10_72), .second, .val (.int il9_72), .val (.ref b89), .val (.int (((((f1_0 (1 : Int32) il5_72 dl10_72) + (f1_0 (1 : Int32) il6_72 dl10_72)) + (f1_0 (1 : Int32) il7_72 dl10_72)) + (f1_0 (1 : Int32) il8_72 dl10_72)) + (f1_0 (1 : Int32) il9_72 dl10_72))), .val (.int (f2e_0 dl10_72 (FP.i2d il5_72) (FP.i2d il6_72) (FP.i2d il7_72) (FP.i2d il8_72) (FP.i2d il9_72)))] [(.int (1 : Int32))])
              refine own_step (fun _ => XS.goto X100.here hx rfl (pc0 := 307) (pc' := 311) rfl (hb hby at_307) (by decide) (by decide)) ?_
              show own_Ends p e below s _ _ _ T100 (mkF m 311 #[.val (.int i0), .val (.int i1), .val (.int i2), .val (.int i3), .val (.int (5 : Int32)), .val (.int il5_72), .val (.int il6_72), .val (.int il7_72), .val (.int il8_72), .val (.int il9_72), .val (.double dl10_72), .second, .val (.int il9_72), .val (.ref b89), .val (.int (((((f1_0 (1 : Int32) il5_72 dl10_72) + (f1_0 (1 : Int32) il6_72 dl10_72)) + (f1_0 (1 : Int32) il7_72 dl10_72)) + (f1_0 (1 : Int32) il8_72 dl10_72)) + (f1_0 (1 : Int32) il9_72 dl10_72))), .val (.int (f2e_0 dl10_72 (FP.i2d il5_72) (FP.i2d il6_72) (FP.i2d il7_72) (FP.i2d il8_72) (FP.i2d il9_72)))] [(.int (1 : Int32))])
              exact own_retN X100 (t := .boolean) hx hret hlk (hb hby at_311) (by decide) (by decide) (by simp) ⟨congrArg (fun z => some (Value.int z)) hvf0f1f2f3_t_t.symm, N100, trivial⟩
            · have hvf0f1f2f3_t_f := hvf0f1f2f3_t.trans (if_neg hc303)
              refine own_step (fun _ => XS.icmpYes X100.here hx rfl (pc0 := 303) (pc' := 310) rfl (hb hby at_303) rfl (feq hc303).2 (by decide) (by decide)) ?_
              show own_Ends p e below s _ _ _ T100 (mkF m 310 #[.val (.int i0), .val (.int i1), .val (.int i2), .val (.int i3), .val (.int (5 : Int32)), .val (.int il5_72), .val (.int il6_72), .val (.int il7_72), .val (.int il8_72), .val (.int il9_72), .val (.double dl10_72), .second, .val (.int il9_72), .val (.ref b89), .val (.int (((((f1_0 (1 : Int32) il5_72 dl10_72) + (f1_0 (1 : Int32) il6_72 dl10_72)) + (f1_0 (1 : Int32) il7_72 dl10_72)) + (f1_0 (1 : Int32) il8_72 dl10_72)) + (f1_0 (1 : Int32) il9_72 dl10_72))), .val (.int (f2e_0 dl10_72 (FP.i2d il5_72) (FP.i2d il6_72) (FP.i2d il7_72) (FP.i2d il8_72) (FP.i2d il9_72)))] [])
              refine own_step (fun _ => XS.iconst X100.here hx rfl (hb hby at_310)) ?_
              show own_Ends p e below s _ _ _ T100 (mkF m 311 #[.val (.int i0), .val (.int i1), .val (.int i2), .val (.int i3), .val (.int (5 : Int32)), .val (.int il5_72), .val (.int il6_72), .val (.int il7_72), .val (.int il8_72), .val (.int il9_72), .val (.double dl10_72), .second, .val (.int il9_72), .val (.ref b89), .val (.int (((((f1_0 (1 : Int32) il5_72 dl10_72) + (f1_0 (1 : Int32) il6_72 dl10_72)) + (f1_0 (1 : Int32) il7_72 dl10_72)) + (f1_0 (1 : Int32) il8_72 dl10_72)) + (f1_0 (1 : Int32) il9_72 dl10_72))), .val (.int (f2e_0 dl10_72 (FP.i2d il5_72) (FP.i2d il6_72) (FP.i2d il7_72) (FP.i2d il8_72) (FP.i2d il9_72)))] [(.int (0 : Int32))])
              exact own_retN X100 (t := .boolean) hx hret hlk (hb hby at_311) (by decide) (by decide) (by simp) ⟨congrArg (fun z => some (Value.int z)) hvf0f1f2f3_t_f.symm, N100, trivial⟩
          · have hvf0f1f2f3_f := hvf0f1f2f3.trans (if_neg hc134)
            refine own_step (fun _ => XS.ifNo X0.here hx rfl (hb hby at_134) rfl ((if0 _ _).trans (flt hc134).2.2.1)) ?_
            show own_Ends p e below s _ _ _ T0 (mkF m 137 #[.val (.int i0), .val (.int i1), .val (.int i2), .val (.int i3), .val (.int (5 : Int32)), .val (.int il5_72), .val (.int il6_72), .val (.int il7_72), .val (.int il8_72), .val (.int il9_72), .val (.double dl10_72), .second, .val (.int il9_72), .unset, .unset, .unset] [])
            refine own_step (fun _ => XS.iconst X0.here hx rfl (hb hby at_137)) ?_
            show own_Ends p e below s _ _ _ T0 (mkF m 138 #[.val (.int i0), .val (.int i1), .val (.int i2), .val (.int i3), .val (.int (5 : Int32)), .val (.int il5_72), .val (.int il6_72), .val (.int il7_72), .val (.int il8_72), .val (.int il9_72), .val (.double dl10_72), .second, .val (.int il9_72), .unset, .unset, .unset] [(.int (1 : Int32))])
            exact own_retN X0 (t := .boolean) hx hret hlk (hb hby at_138) (by decide) (by decide) (by simp) ⟨congrArg (fun z => some (Value.int z)) hvf0f1f2f3_f.symm, N0, trivial⟩
def f0_0 (i0 : Int32) (i1 : Int32) (i2 : Int32) (i3 : Int32) : Int32 := (f0_72 i0 i1 i2 i3 ((i0 &&& (15 : Int32)) - (8 : Int32)) (((i0 &&& (15 : Int32)) - (8 : Int32)) + (i1 &&& (3 : Int32))) ((((i0 &&& (15 : Int32)) - (8 : Int32)) + (i1 &&& (3 : Int32))) + (((i1.toUInt32 >>> ((2 : Int32) &&& 31).toUInt32).toInt32) &&& (3 : Int32))) (((((i0 &&& (15 : Int32)) - (8 : Int32)) + (i1 &&& (3 : Int32))) + (((i1.toUInt32 >>> ((2 : Int32) &&& 31).toUInt32).toInt32) &&& (3 : Int32))) + (((i1.toUInt32 >>> ((4 : Int32) &&& 31).toUInt32).toInt32) &&& (3 : Int32))) ((((((i0 &&& (15 : Int32)) - (8 : Int32)) + (i1 &&& (3 : Int32))) + (((i1.toUInt32 >>> ((2 : Int32) &&& 31).toUInt32).toInt32) &&& (3 : Int32))) + (((i1.toUInt32 >>> ((4 : Int32) &&& 31).toUInt32).toInt32) &&& (3 : Int32))) + (((i1.toUInt32 >>> ((6 : Int32) &&& 31).toUInt32).toInt32) &&& (3 : Int32))) (FP.ddiv (FP.i2d ((i2 &&& (63 : Int32)) - (21 : Int32))) (4611686018427387904 : UInt64)))
set_option maxRecDepth 65536 in
set_option maxHeartbeats 40000000 in
theorem b0_0 {p : Program} {l : Launch} {e : Env} {s : State} {m : MethodId} {args : Array Value} {below : List Frame} {meth : Method} {c : Code} {Z : State} {a0 : Array Value} {h0 : Heap} {n0 : Nat} (C : own_C "com/example/graded_queue/gradedqueue/sim/CumulativeFirstAbovePinLaw" code maxLocals ret x.name p s m meth c Z a0) (Z0 : n0 ≤ h0.size) {T0 : State} {locs : List Loc} (X0 : Stand p l e room_1 s m args below meth c T0 locs 0 0) (e0 : T0.heap = h0) (N0 : Fr n0 locs) (i0 : Int32) (i1 : Int32) (i2 : Int32) (i3 : Int32) (W : Int32) (hv : W = f0_0 i0 i1 i2 i3) :
    own_Ends p e below s room_1.cells room_1.slots (own_QL n0 (some (.int W))) T0 (mkF m 0 #[.val (.int i0), .val (.int i1), .val (.int i2), .val (.int i3), .unset, .unset, .unset, .unset, .unset, .unset, .unset, .unset, .unset, .unset, .unset, .unset] []) := by
  obtain ⟨hx, hZ, hw, hby, hml, hown, hret, hlk, hnm⟩ := C
  have C : own_C "com/example/graded_queue/gradedqueue/sim/CumulativeFirstAbovePinLaw" code maxLocals ret x.name p s m meth c Z a0 := ⟨hx, hZ, hw, hby, hml, hown, hret, hlk, hnm⟩
  unfold f0_0 at hv
  refine own_step (fun _ => XS.iloadN X0.here hx rfl (hb hby at_0) rfl) ?_
  show own_Ends p e below s _ _ _ T0 (mkF m 1 #[.val (.int i0), .val (.int i1), .val (.int i2), .val (.int i3), .unset, .unset, .unset, .unset, .unset, .unset, .unset, .unset, .unset, .unset, .unset, .unset] [(.int i3)])
  refine own_step (fun _ => X0.ldcInt hx hown (mvT hZ (hw _ (List.mem_of_getElem? (i := 0) rfl))) (g := (mkF m 1 #[.val (.int i0), .val (.int i1), .val (.int i2), .val (.int i3), .unset, .unset, .unset, .unset, .unset, .unset, .unset, .unset, .unset, .unset, .unset, .unset] [(.int i3)])) rfl (hb hby at_1) _) ?_
  show own_Ends p e below s _ _ _ T0 (mkF m 3 #[.val (.int i0), .val (.int i1), .val (.int i2), .val (.int i3), .unset, .unset, .unset, .unset, .unset, .unset, .unset, .unset, .unset, .unset, .unset, .unset] [(.int (2147483647 : Int32)), (.int i3)])
  refine own_step (fun _ => XS.iand X0.here hx rfl (hb hby at_3) rfl) ?_
  show own_Ends p e below s _ _ _ T0 (mkF m 4 #[.val (.int i0), .val (.int i1), .val (.int i2), .val (.int i3), .unset, .unset, .unset, .unset, .unset, .unset, .unset, .unset, .unset, .unset, .unset, .unset] [(.int (i3 &&& (2147483647 : Int32)))])
  refine own_step (fun _ => XS.iconst X0.here hx rfl (hb hby at_4)) ?_
  show own_Ends p e below s _ _ _ T0 (mkF m 5 #[.val (.int i0), .val (.int i1), .val (.int i2), .val (.int i3), .unset, .unset, .unset, .unset, .unset, .unset, .unset, .unset, .unset, .unset, .unset, .unset] [(.int (5 : Int32)), (.int (i3 &&& (2147483647 : Int32)))])
  refine own_step (fun _ => iremM X0 hx rfl (hb hby at_5) rfl (by decide)) ?_
  show own_Ends p e below s _ _ _ T0 (mkF m 6 #[.val (.int i0), .val (.int i1), .val (.int i2), .val (.int i3), .unset, .unset, .unset, .unset, .unset, .unset, .unset, .unset, .unset, .unset, .unset, .unset] [(.int ((i3 &&& (2147483647 : Int32)) % (5 : Int32)))])
  refine own_step (fun _ => XS.iconst X0.here hx rfl (hb hby at_6)) ?_
  show own_Ends p e below s _ _ _ T0 (mkF m 7 #[.val (.int i0), .val (.int i1), .val (.int i2), .val (.int i3), .unset, .unset, .unset, .unset, .unset, .unset, .unset, .unset, .unset, .unset, .unset, .unset] [(.int (1 : Int32)), (.int ((i3 &&& (2147483647 : Int32)) % (5 : Int32)))])
  refine own_step (fun _ => XS.iadd X0.here hx rfl (hb hby at_7) rfl) ?_
  show own_Ends p e below s _ _ _ T0 (mkF m 8 #[.val (.int i0), .val (.int i1), .val (.int i2), .val (.int i3), .unset, .unset, .unset, .unset, .unset, .unset, .unset, .unset, .unset, .unset, .unset, .unset] [(.int (((i3 &&& (2147483647 : Int32)) % (5 : Int32)) + (1 : Int32)))])
  refine own_step (fun _ => XS.istore X0.here hx rfl (hb hby at_8) rfl (l' := #[.val (.int i0), .val (.int i1), .val (.int i2), .val (.int i3), .val (.int (((i3 &&& (2147483647 : Int32)) % (5 : Int32)) + (1 : Int32))), .unset, .unset, .unset, .unset, .unset, .unset, .unset, .unset, .unset, .unset, .unset]) rfl) ?_
  show own_Ends p e below s _ _ _ T0 (mkF m 10 #[.val (.int i0), .val (.int i1), .val (.int i2), .val (.int i3), .val (.int (((i3 &&& (2147483647 : Int32)) % (5 : Int32)) + (1 : Int32))), .unset, .unset, .unset, .unset, .unset, .unset, .unset, .unset, .unset, .unset, .unset] [])
  refine own_step (fun _ => XS.iloadN X0.here hx rfl (hb hby at_10) rfl) ?_
  show own_Ends p e below s _ _ _ T0 (mkF m 11 #[.val (.int i0), .val (.int i1), .val (.int i2), .val (.int i3), .val (.int (((i3 &&& (2147483647 : Int32)) % (5 : Int32)) + (1 : Int32))), .unset, .unset, .unset, .unset, .unset, .unset, .unset, .unset, .unset, .unset, .unset] [(.int i0)])
  refine own_step (fun _ => XS.bipush X0.here hx rfl (hb hby at_11)) ?_
  show own_Ends p e below s _ _ _ T0 (mkF m 13 #[.val (.int i0), .val (.int i1), .val (.int i2), .val (.int i3), .val (.int (((i3 &&& (2147483647 : Int32)) % (5 : Int32)) + (1 : Int32))), .unset, .unset, .unset, .unset, .unset, .unset, .unset, .unset, .unset, .unset, .unset] [(.int (15 : Int32)), (.int i0)])
  refine own_step (fun _ => XS.iand X0.here hx rfl (hb hby at_13) rfl) ?_
  show own_Ends p e below s _ _ _ T0 (mkF m 14 #[.val (.int i0), .val (.int i1), .val (.int i2), .val (.int i3), .val (.int (((i3 &&& (2147483647 : Int32)) % (5 : Int32)) + (1 : Int32))), .unset, .unset, .unset, .unset, .unset, .unset, .unset, .unset, .unset, .unset, .unset] [(.int (i0 &&& (15 : Int32)))])
  refine own_step (fun _ => XS.bipush X0.here hx rfl (hb hby at_14)) ?_
  show own_Ends p e below s _ _ _ T0 (mkF m 16 #[.val (.int i0), .val (.int i1), .val (.int i2), .val (.int i3), .val (.int (((i3 &&& (2147483647 : Int32)) % (5 : Int32)) + (1 : Int32))), .unset, .unset, .unset, .unset, .unset, .unset, .unset, .unset, .unset, .unset, .unset] [(.int (8 : Int32)), (.int (i0 &&& (15 : Int32)))])
  refine own_step (fun _ => XS.isub X0.here hx rfl (hb hby at_16) rfl) ?_
  show own_Ends p e below s _ _ _ T0 (mkF m 17 #[.val (.int i0), .val (.int i1), .val (.int i2), .val (.int i3), .val (.int (((i3 &&& (2147483647 : Int32)) % (5 : Int32)) + (1 : Int32))), .unset, .unset, .unset, .unset, .unset, .unset, .unset, .unset, .unset, .unset, .unset] [(.int ((i0 &&& (15 : Int32)) - (8 : Int32)))])
  refine own_step (fun _ => XS.istore X0.here hx rfl (hb hby at_17) rfl (l' := #[.val (.int i0), .val (.int i1), .val (.int i2), .val (.int i3), .val (.int (((i3 &&& (2147483647 : Int32)) % (5 : Int32)) + (1 : Int32))), .val (.int ((i0 &&& (15 : Int32)) - (8 : Int32))), .unset, .unset, .unset, .unset, .unset, .unset, .unset, .unset, .unset, .unset]) rfl) ?_
  show own_Ends p e below s _ _ _ T0 (mkF m 19 #[.val (.int i0), .val (.int i1), .val (.int i2), .val (.int i3), .val (.int (((i3 &&& (2147483647 : Int32)) % (5 : Int32)) + (1 : Int32))), .val (.int ((i0 &&& (15 : Int32)) - (8 : Int32))), .unset, .unset, .unset, .unset, .unset, .unset, .unset, .unset, .unset, .unset] [])
  refine own_step (fun _ => XS.iload X0.here hx rfl (hb hby at_19) rfl) ?_
  show own_Ends p e below s _ _ _ T0 (mkF m 21 #[.val (.int i0), .val (.int i1), .val (.int i2), .val (.int i3), .val (.int (((i3 &&& (2147483647 : Int32)) % (5 : Int32)) + (1 : Int32))), .val (.int ((i0 &&& (15 : Int32)) - (8 : Int32))), .unset, .unset, .unset, .unset, .unset, .unset, .unset, .unset, .unset, .unset] [(.int ((i0 &&& (15 : Int32)) - (8 : Int32)))])
  refine own_step (fun _ => XS.iloadN X0.here hx rfl (hb hby at_21) rfl) ?_
  show own_Ends p e below s _ _ _ T0 (mkF m 22 #[.val (.int i0), .val (.int i1), .val (.int i2), .val (.int i3), .val (.int (((i3 &&& (2147483647 : Int32)) % (5 : Int32)) + (1 : Int32))), .val (.int ((i0 &&& (15 : Int32)) - (8 : Int32))), .unset, .unset, .unset, .unset, .unset, .unset, .unset, .unset, .unset, .unset] [(.int i1), (.int ((i0 &&& (15 : Int32)) - (8 : Int32)))])
  refine own_step (fun _ => XS.iconst X0.here hx rfl (hb hby at_22)) ?_
  show own_Ends p e below s _ _ _ T0 (mkF m 23 #[.val (.int i0), .val (.int i1), .val (.int i2), .val (.int i3), .val (.int (((i3 &&& (2147483647 : Int32)) % (5 : Int32)) + (1 : Int32))), .val (.int ((i0 &&& (15 : Int32)) - (8 : Int32))), .unset, .unset, .unset, .unset, .unset, .unset, .unset, .unset, .unset, .unset] [(.int (3 : Int32)), (.int i1), (.int ((i0 &&& (15 : Int32)) - (8 : Int32)))])
  refine own_step (fun _ => XS.iand X0.here hx rfl (hb hby at_23) rfl) ?_
  show own_Ends p e below s _ _ _ T0 (mkF m 24 #[.val (.int i0), .val (.int i1), .val (.int i2), .val (.int i3), .val (.int (((i3 &&& (2147483647 : Int32)) % (5 : Int32)) + (1 : Int32))), .val (.int ((i0 &&& (15 : Int32)) - (8 : Int32))), .unset, .unset, .unset, .unset, .unset, .unset, .unset, .unset, .unset, .unset] [(.int (i1 &&& (3 : Int32))), (.int ((i0 &&& (15 : Int32)) - (8 : Int32)))])
  refine own_step (fun _ => XS.iadd X0.here hx rfl (hb hby at_24) rfl) ?_
  show own_Ends p e below s _ _ _ T0 (mkF m 25 #[.val (.int i0), .val (.int i1), .val (.int i2), .val (.int i3), .val (.int (((i3 &&& (2147483647 : Int32)) % (5 : Int32)) + (1 : Int32))), .val (.int ((i0 &&& (15 : Int32)) - (8 : Int32))), .unset, .unset, .unset, .unset, .unset, .unset, .unset, .unset, .unset, .unset] [(.int (((i0 &&& (15 : Int32)) - (8 : Int32)) + (i1 &&& (3 : Int32))))])
  refine own_step (fun _ => XS.istore X0.here hx rfl (hb hby at_25) rfl (l' := #[.val (.int i0), .val (.int i1), .val (.int i2), .val (.int i3), .val (.int (((i3 &&& (2147483647 : Int32)) % (5 : Int32)) + (1 : Int32))), .val (.int ((i0 &&& (15 : Int32)) - (8 : Int32))), .val (.int (((i0 &&& (15 : Int32)) - (8 : Int32)) + (i1 &&& (3 : Int32)))), .unset, .unset, .unset, .unset, .unset, .unset, .unset, .unset, .unset]) rfl) ?_
  show own_Ends p e below s _ _ _ T0 (mkF m 27 #[.val (.int i0), .val (.int i1), .val (.int i2), .val (.int i3), .val (.int (((i3 &&& (2147483647 : Int32)) % (5 : Int32)) + (1 : Int32))), .val (.int ((i0 &&& (15 : Int32)) - (8 : Int32))), .val (.int (((i0 &&& (15 : Int32)) - (8 : Int32)) + (i1 &&& (3 : Int32)))), .unset, .unset, .unset, .unset, .unset, .unset, .unset, .unset, .unset] [])
  refine own_step (fun _ => XS.iload X0.here hx rfl (hb hby at_27) rfl) ?_
  show own_Ends p e below s _ _ _ T0 (mkF m 29 #[.val (.int i0), .val (.int i1), .val (.int i2), .val (.int i3), .val (.int (((i3 &&& (2147483647 : Int32)) % (5 : Int32)) + (1 : Int32))), .val (.int ((i0 &&& (15 : Int32)) - (8 : Int32))), .val (.int (((i0 &&& (15 : Int32)) - (8 : Int32)) + (i1 &&& (3 : Int32)))), .unset, .unset, .unset, .unset, .unset, .unset, .unset, .unset, .unset] [(.int (((i0 &&& (15 : Int32)) - (8 : Int32)) + (i1 &&& (3 : Int32))))])
  refine own_step (fun _ => XS.iloadN X0.here hx rfl (hb hby at_29) rfl) ?_
  show own_Ends p e below s _ _ _ T0 (mkF m 30 #[.val (.int i0), .val (.int i1), .val (.int i2), .val (.int i3), .val (.int (((i3 &&& (2147483647 : Int32)) % (5 : Int32)) + (1 : Int32))), .val (.int ((i0 &&& (15 : Int32)) - (8 : Int32))), .val (.int (((i0 &&& (15 : Int32)) - (8 : Int32)) + (i1 &&& (3 : Int32)))), .unset, .unset, .unset, .unset, .unset, .unset, .unset, .unset, .unset] [(.int i1), (.int (((i0 &&& (15 : Int32)) - (8 : Int32)) + (i1 &&& (3 : Int32))))])
  refine own_step (fun _ => XS.iconst X0.here hx rfl (hb hby at_30)) ?_
  show own_Ends p e below s _ _ _ T0 (mkF m 31 #[.val (.int i0), .val (.int i1), .val (.int i2), .val (.int i3), .val (.int (((i3 &&& (2147483647 : Int32)) % (5 : Int32)) + (1 : Int32))), .val (.int ((i0 &&& (15 : Int32)) - (8 : Int32))), .val (.int (((i0 &&& (15 : Int32)) - (8 : Int32)) + (i1 &&& (3 : Int32)))), .unset, .unset, .unset, .unset, .unset, .unset, .unset, .unset, .unset] [(.int (2 : Int32)), (.int i1), (.int (((i0 &&& (15 : Int32)) - (8 : Int32)) + (i1 &&& (3 : Int32))))])
  refine own_step (fun _ => XS.iushr X0.here hx rfl (hb hby at_31) rfl) ?_
  show own_Ends p e below s _ _ _ T0 (mkF m 32 #[.val (.int i0), .val (.int i1), .val (.int i2), .val (.int i3), .val (.int (((i3 &&& (2147483647 : Int32)) % (5 : Int32)) + (1 : Int32))), .val (.int ((i0 &&& (15 : Int32)) - (8 : Int32))), .val (.int (((i0 &&& (15 : Int32)) - (8 : Int32)) + (i1 &&& (3 : Int32)))), .unset, .unset, .unset, .unset, .unset, .unset, .unset, .unset, .unset] [(.int ((i1.toUInt32 >>> ((2 : Int32) &&& 31).toUInt32).toInt32)), (.int (((i0 &&& (15 : Int32)) - (8 : Int32)) + (i1 &&& (3 : Int32))))])
  refine own_step (fun _ => XS.iconst X0.here hx rfl (hb hby at_32)) ?_
  show own_Ends p e below s _ _ _ T0 (mkF m 33 #[.val (.int i0), .val (.int i1), .val (.int i2), .val (.int i3), .val (.int (((i3 &&& (2147483647 : Int32)) % (5 : Int32)) + (1 : Int32))), .val (.int ((i0 &&& (15 : Int32)) - (8 : Int32))), .val (.int (((i0 &&& (15 : Int32)) - (8 : Int32)) + (i1 &&& (3 : Int32)))), .unset, .unset, .unset, .unset, .unset, .unset, .unset, .unset, .unset] [(.int (3 : Int32)), (.int ((i1.toUInt32 >>> ((2 : Int32) &&& 31).toUInt32).toInt32)), (.int (((i0 &&& (15 : Int32)) - (8 : Int32)) + (i1 &&& (3 : Int32))))])
  refine own_step (fun _ => XS.iand X0.here hx rfl (hb hby at_33) rfl) ?_
  show own_Ends p e below s _ _ _ T0 (mkF m 34 #[.val (.int i0), .val (.int i1), .val (.int i2), .val (.int i3), .val (.int (((i3 &&& (2147483647 : Int32)) % (5 : Int32)) + (1 : Int32))), .val (.int ((i0 &&& (15 : Int32)) - (8 : Int32))), .val (.int (((i0 &&& (15 : Int32)) - (8 : Int32)) + (i1 &&& (3 : Int32)))), .unset, .unset, .unset, .unset, .unset, .unset, .unset, .unset, .unset] [(.int (((i1.toUInt32 >>> ((2 : Int32) &&& 31).toUInt32).toInt32) &&& (3 : Int32))), (.int (((i0 &&& (15 : Int32)) - (8 : Int32)) + (i1 &&& (3 : Int32))))])
  refine own_step (fun _ => XS.iadd X0.here hx rfl (hb hby at_34) rfl) ?_
  show own_Ends p e below s _ _ _ T0 (mkF m 35 #[.val (.int i0), .val (.int i1), .val (.int i2), .val (.int i3), .val (.int (((i3 &&& (2147483647 : Int32)) % (5 : Int32)) + (1 : Int32))), .val (.int ((i0 &&& (15 : Int32)) - (8 : Int32))), .val (.int (((i0 &&& (15 : Int32)) - (8 : Int32)) + (i1 &&& (3 : Int32)))), .unset, .unset, .unset, .unset, .unset, .unset, .unset, .unset, .unset] [(.int ((((i0 &&& (15 : Int32)) - (8 : Int32)) + (i1 &&& (3 : Int32))) + (((i1.toUInt32 >>> ((2 : Int32) &&& 31).toUInt32).toInt32) &&& (3 : Int32))))])
  refine own_step (fun _ => XS.istore X0.here hx rfl (hb hby at_35) rfl (l' := #[.val (.int i0), .val (.int i1), .val (.int i2), .val (.int i3), .val (.int (((i3 &&& (2147483647 : Int32)) % (5 : Int32)) + (1 : Int32))), .val (.int ((i0 &&& (15 : Int32)) - (8 : Int32))), .val (.int (((i0 &&& (15 : Int32)) - (8 : Int32)) + (i1 &&& (3 : Int32)))), .val (.int ((((i0 &&& (15 : Int32)) - (8 : Int32)) + (i1 &&& (3 : Int32))) + (((i1.toUInt32 >>> ((2 : Int32) &&& 31).toUInt32).toInt32) &&& (3 : Int32)))), .unset, .unset, .unset, .unset, .unset, .unset, .unset, .unset]) rfl) ?_
  show own_Ends p e below s _ _ _ T0 (mkF m 37 #[.val (.int i0), .val (.int i1), .val (.int i2), .val (.int i3), .val (.int (((i3 &&& (2147483647 : Int32)) % (5 : Int32)) + (1 : Int32))), .val (.int ((i0 &&& (15 : Int32)) - (8 : Int32))), .val (.int (((i0 &&& (15 : Int32)) - (8 : Int32)) + (i1 &&& (3 : Int32)))), .val (.int ((((i0 &&& (15 : Int32)) - (8 : Int32)) + (i1 &&& (3 : Int32))) + (((i1.toUInt32 >>> ((2 : Int32) &&& 31).toUInt32).toInt32) &&& (3 : Int32)))), .unset, .unset, .unset, .unset, .unset, .unset, .unset, .unset] [])
  refine own_step (fun _ => XS.iload X0.here hx rfl (hb hby at_37) rfl) ?_
  show own_Ends p e below s _ _ _ T0 (mkF m 39 #[.val (.int i0), .val (.int i1), .val (.int i2), .val (.int i3), .val (.int (((i3 &&& (2147483647 : Int32)) % (5 : Int32)) + (1 : Int32))), .val (.int ((i0 &&& (15 : Int32)) - (8 : Int32))), .val (.int (((i0 &&& (15 : Int32)) - (8 : Int32)) + (i1 &&& (3 : Int32)))), .val (.int ((((i0 &&& (15 : Int32)) - (8 : Int32)) + (i1 &&& (3 : Int32))) + (((i1.toUInt32 >>> ((2 : Int32) &&& 31).toUInt32).toInt32) &&& (3 : Int32)))), .unset, .unset, .unset, .unset, .unset, .unset, .unset, .unset] [(.int ((((i0 &&& (15 : Int32)) - (8 : Int32)) + (i1 &&& (3 : Int32))) + (((i1.toUInt32 >>> ((2 : Int32) &&& 31).toUInt32).toInt32) &&& (3 : Int32))))])
  refine own_step (fun _ => XS.iloadN X0.here hx rfl (hb hby at_39) rfl) ?_
  show own_Ends p e below s _ _ _ T0 (mkF m 40 #[.val (.int i0), .val (.int i1), .val (.int i2), .val (.int i3), .val (.int (((i3 &&& (2147483647 : Int32)) % (5 : Int32)) + (1 : Int32))), .val (.int ((i0 &&& (15 : Int32)) - (8 : Int32))), .val (.int (((i0 &&& (15 : Int32)) - (8 : Int32)) + (i1 &&& (3 : Int32)))), .val (.int ((((i0 &&& (15 : Int32)) - (8 : Int32)) + (i1 &&& (3 : Int32))) + (((i1.toUInt32 >>> ((2 : Int32) &&& 31).toUInt32).toInt32) &&& (3 : Int32)))), .unset, .unset, .unset, .unset, .unset, .unset, .unset, .unset] [(.int i1), (.int ((((i0 &&& (15 : Int32)) - (8 : Int32)) + (i1 &&& (3 : Int32))) + (((i1.toUInt32 >>> ((2 : Int32) &&& 31).toUInt32).toInt32) &&& (3 : Int32))))])
  refine own_step (fun _ => XS.iconst X0.here hx rfl (hb hby at_40)) ?_
  show own_Ends p e below s _ _ _ T0 (mkF m 41 #[.val (.int i0), .val (.int i1), .val (.int i2), .val (.int i3), .val (.int (((i3 &&& (2147483647 : Int32)) % (5 : Int32)) + (1 : Int32))), .val (.int ((i0 &&& (15 : Int32)) - (8 : Int32))), .val (.int (((i0 &&& (15 : Int32)) - (8 : Int32)) + (i1 &&& (3 : Int32)))), .val (.int ((((i0 &&& (15 : Int32)) - (8 : Int32)) + (i1 &&& (3 : Int32))) + (((i1.toUInt32 >>> ((2 : Int32) &&& 31).toUInt32).toInt32) &&& (3 : Int32)))), .unset, .unset, .unset, .unset, .unset, .unset, .unset, .unset] [(.int (4 : Int32)), (.int i1), (.int ((((i0 &&& (15 : Int32)) - (8 : Int32)) + (i1 &&& (3 : Int32))) + (((i1.toUInt32 >>> ((2 : Int32) &&& 31).toUInt32).toInt32) &&& (3 : Int32))))])
  refine own_step (fun _ => XS.iushr X0.here hx rfl (hb hby at_41) rfl) ?_
  show own_Ends p e below s _ _ _ T0 (mkF m 42 #[.val (.int i0), .val (.int i1), .val (.int i2), .val (.int i3), .val (.int (((i3 &&& (2147483647 : Int32)) % (5 : Int32)) + (1 : Int32))), .val (.int ((i0 &&& (15 : Int32)) - (8 : Int32))), .val (.int (((i0 &&& (15 : Int32)) - (8 : Int32)) + (i1 &&& (3 : Int32)))), .val (.int ((((i0 &&& (15 : Int32)) - (8 : Int32)) + (i1 &&& (3 : Int32))) + (((i1.toUInt32 >>> ((2 : Int32) &&& 31).toUInt32).toInt32) &&& (3 : Int32)))), .unset, .unset, .unset, .unset, .unset, .unset, .unset, .unset] [(.int ((i1.toUInt32 >>> ((4 : Int32) &&& 31).toUInt32).toInt32)), (.int ((((i0 &&& (15 : Int32)) - (8 : Int32)) + (i1 &&& (3 : Int32))) + (((i1.toUInt32 >>> ((2 : Int32) &&& 31).toUInt32).toInt32) &&& (3 : Int32))))])
  refine own_step (fun _ => XS.iconst X0.here hx rfl (hb hby at_42)) ?_
  show own_Ends p e below s _ _ _ T0 (mkF m 43 #[.val (.int i0), .val (.int i1), .val (.int i2), .val (.int i3), .val (.int (((i3 &&& (2147483647 : Int32)) % (5 : Int32)) + (1 : Int32))), .val (.int ((i0 &&& (15 : Int32)) - (8 : Int32))), .val (.int (((i0 &&& (15 : Int32)) - (8 : Int32)) + (i1 &&& (3 : Int32)))), .val (.int ((((i0 &&& (15 : Int32)) - (8 : Int32)) + (i1 &&& (3 : Int32))) + (((i1.toUInt32 >>> ((2 : Int32) &&& 31).toUInt32).toInt32) &&& (3 : Int32)))), .unset, .unset, .unset, .unset, .unset, .unset, .unset, .unset] [(.int (3 : Int32)), (.int ((i1.toUInt32 >>> ((4 : Int32) &&& 31).toUInt32).toInt32)), (.int ((((i0 &&& (15 : Int32)) - (8 : Int32)) + (i1 &&& (3 : Int32))) + (((i1.toUInt32 >>> ((2 : Int32) &&& 31).toUInt32).toInt32) &&& (3 : Int32))))])
  refine own_step (fun _ => XS.iand X0.here hx rfl (hb hby at_43) rfl) ?_
  show own_Ends p e below s _ _ _ T0 (mkF m 44 #[.val (.int i0), .val (.int i1), .val (.int i2), .val (.int i3), .val (.int (((i3 &&& (2147483647 : Int32)) % (5 : Int32)) + (1 : Int32))), .val (.int ((i0 &&& (15 : Int32)) - (8 : Int32))), .val (.int (((i0 &&& (15 : Int32)) - (8 : Int32)) + (i1 &&& (3 : Int32)))), .val (.int ((((i0 &&& (15 : Int32)) - (8 : Int32)) + (i1 &&& (3 : Int32))) + (((i1.toUInt32 >>> ((2 : Int32) &&& 31).toUInt32).toInt32) &&& (3 : Int32)))), .unset, .unset, .unset, .unset, .unset, .unset, .unset, .unset] [(.int (((i1.toUInt32 >>> ((4 : Int32) &&& 31).toUInt32).toInt32) &&& (3 : Int32))), (.int ((((i0 &&& (15 : Int32)) - (8 : Int32)) + (i1 &&& (3 : Int32))) + (((i1.toUInt32 >>> ((2 : Int32) &&& 31).toUInt32).toInt32) &&& (3 : Int32))))])
  refine own_step (fun _ => XS.iadd X0.here hx rfl (hb hby at_44) rfl) ?_
  show own_Ends p e below s _ _ _ T0 (mkF m 45 #[.val (.int i0), .val (.int i1), .val (.int i2), .val (.int i3), .val (.int (((i3 &&& (2147483647 : Int32)) % (5 : Int32)) + (1 : Int32))), .val (.int ((i0 &&& (15 : Int32)) - (8 : Int32))), .val (.int (((i0 &&& (15 : Int32)) - (8 : Int32)) + (i1 &&& (3 : Int32)))), .val (.int ((((i0 &&& (15 : Int32)) - (8 : Int32)) + (i1 &&& (3 : Int32))) + (((i1.toUInt32 >>> ((2 : Int32) &&& 31).toUInt32).toInt32) &&& (3 : Int32)))), .unset, .unset, .unset, .unset, .unset, .unset, .unset, .unset] [(.int (((((i0 &&& (15 : Int32)) - (8 : Int32)) + (i1 &&& (3 : Int32))) + (((i1.toUInt32 >>> ((2 : Int32) &&& 31).toUInt32).toInt32) &&& (3 : Int32))) + (((i1.toUInt32 >>> ((4 : Int32) &&& 31).toUInt32).toInt32) &&& (3 : Int32))))])
  refine own_step (fun _ => XS.istore X0.here hx rfl (hb hby at_45) rfl (l' := #[.val (.int i0), .val (.int i1), .val (.int i2), .val (.int i3), .val (.int (((i3 &&& (2147483647 : Int32)) % (5 : Int32)) + (1 : Int32))), .val (.int ((i0 &&& (15 : Int32)) - (8 : Int32))), .val (.int (((i0 &&& (15 : Int32)) - (8 : Int32)) + (i1 &&& (3 : Int32)))), .val (.int ((((i0 &&& (15 : Int32)) - (8 : Int32)) + (i1 &&& (3 : Int32))) + (((i1.toUInt32 >>> ((2 : Int32) &&& 31).toUInt32).toInt32) &&& (3 : Int32)))), .val (.int (((((i0 &&& (15 : Int32)) - (8 : Int32)) + (i1 &&& (3 : Int32))) + (((i1.toUInt32 >>> ((2 : Int32) &&& 31).toUInt32).toInt32) &&& (3 : Int32))) + (((i1.toUInt32 >>> ((4 : Int32) &&& 31).toUInt32).toInt32) &&& (3 : Int32)))), .unset, .unset, .unset, .unset, .unset, .unset, .unset]) rfl) ?_
  show own_Ends p e below s _ _ _ T0 (mkF m 47 #[.val (.int i0), .val (.int i1), .val (.int i2), .val (.int i3), .val (.int (((i3 &&& (2147483647 : Int32)) % (5 : Int32)) + (1 : Int32))), .val (.int ((i0 &&& (15 : Int32)) - (8 : Int32))), .val (.int (((i0 &&& (15 : Int32)) - (8 : Int32)) + (i1 &&& (3 : Int32)))), .val (.int ((((i0 &&& (15 : Int32)) - (8 : Int32)) + (i1 &&& (3 : Int32))) + (((i1.toUInt32 >>> ((2 : Int32) &&& 31).toUInt32).toInt32) &&& (3 : Int32)))), .val (.int (((((i0 &&& (15 : Int32)) - (8 : Int32)) + (i1 &&& (3 : Int32))) + (((i1.toUInt32 >>> ((2 : Int32) &&& 31).toUInt32).toInt32) &&& (3 : Int32))) + (((i1.toUInt32 >>> ((4 : Int32) &&& 31).toUInt32).toInt32) &&& (3 : Int32)))), .unset, .unset, .unset, .unset, .unset, .unset, .unset] [])
  refine own_step (fun _ => XS.iload X0.here hx rfl (hb hby at_47) rfl) ?_
  show own_Ends p e below s _ _ _ T0 (mkF m 49 #[.val (.int i0), .val (.int i1), .val (.int i2), .val (.int i3), .val (.int (((i3 &&& (2147483647 : Int32)) % (5 : Int32)) + (1 : Int32))), .val (.int ((i0 &&& (15 : Int32)) - (8 : Int32))), .val (.int (((i0 &&& (15 : Int32)) - (8 : Int32)) + (i1 &&& (3 : Int32)))), .val (.int ((((i0 &&& (15 : Int32)) - (8 : Int32)) + (i1 &&& (3 : Int32))) + (((i1.toUInt32 >>> ((2 : Int32) &&& 31).toUInt32).toInt32) &&& (3 : Int32)))), .val (.int (((((i0 &&& (15 : Int32)) - (8 : Int32)) + (i1 &&& (3 : Int32))) + (((i1.toUInt32 >>> ((2 : Int32) &&& 31).toUInt32).toInt32) &&& (3 : Int32))) + (((i1.toUInt32 >>> ((4 : Int32) &&& 31).toUInt32).toInt32) &&& (3 : Int32)))), .unset, .unset, .unset, .unset, .unset, .unset, .unset] [(.int (((((i0 &&& (15 : Int32)) - (8 : Int32)) + (i1 &&& (3 : Int32))) + (((i1.toUInt32 >>> ((2 : Int32) &&& 31).toUInt32).toInt32) &&& (3 : Int32))) + (((i1.toUInt32 >>> ((4 : Int32) &&& 31).toUInt32).toInt32) &&& (3 : Int32))))])
  refine own_step (fun _ => XS.iloadN X0.here hx rfl (hb hby at_49) rfl) ?_
  show own_Ends p e below s _ _ _ T0 (mkF m 50 #[.val (.int i0), .val (.int i1), .val (.int i2), .val (.int i3), .val (.int (((i3 &&& (2147483647 : Int32)) % (5 : Int32)) + (1 : Int32))), .val (.int ((i0 &&& (15 : Int32)) - (8 : Int32))), .val (.int (((i0 &&& (15 : Int32)) - (8 : Int32)) + (i1 &&& (3 : Int32)))), .val (.int ((((i0 &&& (15 : Int32)) - (8 : Int32)) + (i1 &&& (3 : Int32))) + (((i1.toUInt32 >>> ((2 : Int32) &&& 31).toUInt32).toInt32) &&& (3 : Int32)))), .val (.int (((((i0 &&& (15 : Int32)) - (8 : Int32)) + (i1 &&& (3 : Int32))) + (((i1.toUInt32 >>> ((2 : Int32) &&& 31).toUInt32).toInt32) &&& (3 : Int32))) + (((i1.toUInt32 >>> ((4 : Int32) &&& 31).toUInt32).toInt32) &&& (3 : Int32)))), .unset, .unset, .unset, .unset, .unset, .unset, .unset] [(.int i1), (.int (((((i0 &&& (15 : Int32)) - (8 : Int32)) + (i1 &&& (3 : Int32))) + (((i1.toUInt32 >>> ((2 : Int32) &&& 31).toUInt32).toInt32) &&& (3 : Int32))) + (((i1.toUInt32 >>> ((4 : Int32) &&& 31).toUInt32).toInt32) &&& (3 : Int32))))])
  refine own_step (fun _ => XS.bipush X0.here hx rfl (hb hby at_50)) ?_
  show own_Ends p e below s _ _ _ T0 (mkF m 52 #[.val (.int i0), .val (.int i1), .val (.int i2), .val (.int i3), .val (.int (((i3 &&& (2147483647 : Int32)) % (5 : Int32)) + (1 : Int32))), .val (.int ((i0 &&& (15 : Int32)) - (8 : Int32))), .val (.int (((i0 &&& (15 : Int32)) - (8 : Int32)) + (i1 &&& (3 : Int32)))), .val (.int ((((i0 &&& (15 : Int32)) - (8 : Int32)) + (i1 &&& (3 : Int32))) + (((i1.toUInt32 >>> ((2 : Int32) &&& 31).toUInt32).toInt32) &&& (3 : Int32)))), .val (.int (((((i0 &&& (15 : Int32)) - (8 : Int32)) + (i1 &&& (3 : Int32))) + (((i1.toUInt32 >>> ((2 : Int32) &&& 31).toUInt32).toInt32) &&& (3 : Int32))) + (((i1.toUInt32 >>> ((4 : Int32) &&& 31).toUInt32).toInt32) &&& (3 : Int32)))), .unset, .unset, .unset, .unset, .unset, .unset, .unset] [(.int (6 : Int32)), (.int i1), (.int (((((i0 &&& (15 : Int32)) - (8 : Int32)) + (i1 &&& (3 : Int32))) + (((i1.toUInt32 >>> ((2 : Int32) &&& 31).toUInt32).toInt32) &&& (3 : Int32))) + (((i1.toUInt32 >>> ((4 : Int32) &&& 31).toUInt32).toInt32) &&& (3 : Int32))))])
  refine own_step (fun _ => XS.iushr X0.here hx rfl (hb hby at_52) rfl) ?_
  show own_Ends p e below s _ _ _ T0 (mkF m 53 #[.val (.int i0), .val (.int i1), .val (.int i2), .val (.int i3), .val (.int (((i3 &&& (2147483647 : Int32)) % (5 : Int32)) + (1 : Int32))), .val (.int ((i0 &&& (15 : Int32)) - (8 : Int32))), .val (.int (((i0 &&& (15 : Int32)) - (8 : Int32)) + (i1 &&& (3 : Int32)))), .val (.int ((((i0 &&& (15 : Int32)) - (8 : Int32)) + (i1 &&& (3 : Int32))) + (((i1.toUInt32 >>> ((2 : Int32) &&& 31).toUInt32).toInt32) &&& (3 : Int32)))), .val (.int (((((i0 &&& (15 : Int32)) - (8 : Int32)) + (i1 &&& (3 : Int32))) + (((i1.toUInt32 >>> ((2 : Int32) &&& 31).toUInt32).toInt32) &&& (3 : Int32))) + (((i1.toUInt32 >>> ((4 : Int32) &&& 31).toUInt32).toInt32) &&& (3 : Int32)))), .unset, .unset, .unset, .unset, .unset, .unset, .unset] [(.int ((i1.toUInt32 >>> ((6 : Int32) &&& 31).toUInt32).toInt32)), (.int (((((i0 &&& (15 : Int32)) - (8 : Int32)) + (i1 &&& (3 : Int32))) + (((i1.toUInt32 >>> ((2 : Int32) &&& 31).toUInt32).toInt32) &&& (3 : Int32))) + (((i1.toUInt32 >>> ((4 : Int32) &&& 31).toUInt32).toInt32) &&& (3 : Int32))))])
  refine own_step (fun _ => XS.iconst X0.here hx rfl (hb hby at_53)) ?_
  show own_Ends p e below s _ _ _ T0 (mkF m 54 #[.val (.int i0), .val (.int i1), .val (.int i2), .val (.int i3), .val (.int (((i3 &&& (2147483647 : Int32)) % (5 : Int32)) + (1 : Int32))), .val (.int ((i0 &&& (15 : Int32)) - (8 : Int32))), .val (.int (((i0 &&& (15 : Int32)) - (8 : Int32)) + (i1 &&& (3 : Int32)))), .val (.int ((((i0 &&& (15 : Int32)) - (8 : Int32)) + (i1 &&& (3 : Int32))) + (((i1.toUInt32 >>> ((2 : Int32) &&& 31).toUInt32).toInt32) &&& (3 : Int32)))), .val (.int (((((i0 &&& (15 : Int32)) - (8 : Int32)) + (i1 &&& (3 : Int32))) + (((i1.toUInt32 >>> ((2 : Int32) &&& 31).toUInt32).toInt32) &&& (3 : Int32))) + (((i1.toUInt32 >>> ((4 : Int32) &&& 31).toUInt32).toInt32) &&& (3 : Int32)))), .unset, .unset, .unset, .unset, .unset, .unset, .unset] [(.int (3 : Int32)), (.int ((i1.toUInt32 >>> ((6 : Int32) &&& 31).toUInt32).toInt32)), (.int (((((i0 &&& (15 : Int32)) - (8 : Int32)) + (i1 &&& (3 : Int32))) + (((i1.toUInt32 >>> ((2 : Int32) &&& 31).toUInt32).toInt32) &&& (3 : Int32))) + (((i1.toUInt32 >>> ((4 : Int32) &&& 31).toUInt32).toInt32) &&& (3 : Int32))))])
  refine own_step (fun _ => XS.iand X0.here hx rfl (hb hby at_54) rfl) ?_
  show own_Ends p e below s _ _ _ T0 (mkF m 55 #[.val (.int i0), .val (.int i1), .val (.int i2), .val (.int i3), .val (.int (((i3 &&& (2147483647 : Int32)) % (5 : Int32)) + (1 : Int32))), .val (.int ((i0 &&& (15 : Int32)) - (8 : Int32))), .val (.int (((i0 &&& (15 : Int32)) - (8 : Int32)) + (i1 &&& (3 : Int32)))), .val (.int ((((i0 &&& (15 : Int32)) - (8 : Int32)) + (i1 &&& (3 : Int32))) + (((i1.toUInt32 >>> ((2 : Int32) &&& 31).toUInt32).toInt32) &&& (3 : Int32)))), .val (.int (((((i0 &&& (15 : Int32)) - (8 : Int32)) + (i1 &&& (3 : Int32))) + (((i1.toUInt32 >>> ((2 : Int32) &&& 31).toUInt32).toInt32) &&& (3 : Int32))) + (((i1.toUInt32 >>> ((4 : Int32) &&& 31).toUInt32).toInt32) &&& (3 : Int32)))), .unset, .unset, .unset, .unset, .unset, .unset, .unset] [(.int (((i1.toUInt32 >>> ((6 : Int32) &&& 31).toUInt32).toInt32) &&& (3 : Int32))), (.int (((((i0 &&& (15 : Int32)) - (8 : Int32)) + (i1 &&& (3 : Int32))) + (((i1.toUInt32 >>> ((2 : Int32) &&& 31).toUInt32).toInt32) &&& (3 : Int32))) + (((i1.toUInt32 >>> ((4 : Int32) &&& 31).toUInt32).toInt32) &&& (3 : Int32))))])
  refine own_step (fun _ => XS.iadd X0.here hx rfl (hb hby at_55) rfl) ?_
  show own_Ends p e below s _ _ _ T0 (mkF m 56 #[.val (.int i0), .val (.int i1), .val (.int i2), .val (.int i3), .val (.int (((i3 &&& (2147483647 : Int32)) % (5 : Int32)) + (1 : Int32))), .val (.int ((i0 &&& (15 : Int32)) - (8 : Int32))), .val (.int (((i0 &&& (15 : Int32)) - (8 : Int32)) + (i1 &&& (3 : Int32)))), .val (.int ((((i0 &&& (15 : Int32)) - (8 : Int32)) + (i1 &&& (3 : Int32))) + (((i1.toUInt32 >>> ((2 : Int32) &&& 31).toUInt32).toInt32) &&& (3 : Int32)))), .val (.int (((((i0 &&& (15 : Int32)) - (8 : Int32)) + (i1 &&& (3 : Int32))) + (((i1.toUInt32 >>> ((2 : Int32) &&& 31).toUInt32).toInt32) &&& (3 : Int32))) + (((i1.toUInt32 >>> ((4 : Int32) &&& 31).toUInt32).toInt32) &&& (3 : Int32)))), .unset, .unset, .unset, .unset, .unset, .unset, .unset] [(.int ((((((i0 &&& (15 : Int32)) - (8 : Int32)) + (i1 &&& (3 : Int32))) + (((i1.toUInt32 >>> ((2 : Int32) &&& 31).toUInt32).toInt32) &&& (3 : Int32))) + (((i1.toUInt32 >>> ((4 : Int32) &&& 31).toUInt32).toInt32) &&& (3 : Int32))) + (((i1.toUInt32 >>> ((6 : Int32) &&& 31).toUInt32).toInt32) &&& (3 : Int32))))])
  refine own_step (fun _ => XS.istore X0.here hx rfl (hb hby at_56) rfl (l' := #[.val (.int i0), .val (.int i1), .val (.int i2), .val (.int i3), .val (.int (((i3 &&& (2147483647 : Int32)) % (5 : Int32)) + (1 : Int32))), .val (.int ((i0 &&& (15 : Int32)) - (8 : Int32))), .val (.int (((i0 &&& (15 : Int32)) - (8 : Int32)) + (i1 &&& (3 : Int32)))), .val (.int ((((i0 &&& (15 : Int32)) - (8 : Int32)) + (i1 &&& (3 : Int32))) + (((i1.toUInt32 >>> ((2 : Int32) &&& 31).toUInt32).toInt32) &&& (3 : Int32)))), .val (.int (((((i0 &&& (15 : Int32)) - (8 : Int32)) + (i1 &&& (3 : Int32))) + (((i1.toUInt32 >>> ((2 : Int32) &&& 31).toUInt32).toInt32) &&& (3 : Int32))) + (((i1.toUInt32 >>> ((4 : Int32) &&& 31).toUInt32).toInt32) &&& (3 : Int32)))), .val (.int ((((((i0 &&& (15 : Int32)) - (8 : Int32)) + (i1 &&& (3 : Int32))) + (((i1.toUInt32 >>> ((2 : Int32) &&& 31).toUInt32).toInt32) &&& (3 : Int32))) + (((i1.toUInt32 >>> ((4 : Int32) &&& 31).toUInt32).toInt32) &&& (3 : Int32))) + (((i1.toUInt32 >>> ((6 : Int32) &&& 31).toUInt32).toInt32) &&& (3 : Int32)))), .unset, .unset, .unset, .unset, .unset, .unset]) rfl) ?_
  show own_Ends p e below s _ _ _ T0 (mkF m 58 #[.val (.int i0), .val (.int i1), .val (.int i2), .val (.int i3), .val (.int (((i3 &&& (2147483647 : Int32)) % (5 : Int32)) + (1 : Int32))), .val (.int ((i0 &&& (15 : Int32)) - (8 : Int32))), .val (.int (((i0 &&& (15 : Int32)) - (8 : Int32)) + (i1 &&& (3 : Int32)))), .val (.int ((((i0 &&& (15 : Int32)) - (8 : Int32)) + (i1 &&& (3 : Int32))) + (((i1.toUInt32 >>> ((2 : Int32) &&& 31).toUInt32).toInt32) &&& (3 : Int32)))), .val (.int (((((i0 &&& (15 : Int32)) - (8 : Int32)) + (i1 &&& (3 : Int32))) + (((i1.toUInt32 >>> ((2 : Int32) &&& 31).toUInt32).toInt32) &&& (3 : Int32))) + (((i1.toUInt32 >>> ((4 : Int32) &&& 31).toUInt32).toInt32) &&& (3 : Int32)))), .val (.int ((((((i0 &&& (15 : Int32)) - (8 : Int32)) + (i1 &&& (3 : Int32))) + (((i1.toUInt32 >>> ((2 : Int32) &&& 31).toUInt32).toInt32) &&& (3 : Int32))) + (((i1.toUInt32 >>> ((4 : Int32) &&& 31).toUInt32).toInt32) &&& (3 : Int32))) + (((i1.toUInt32 >>> ((6 : Int32) &&& 31).toUInt32).toInt32) &&& (3 : Int32)))), .unset, .unset, .unset, .unset, .unset, .unset] [])
  refine own_step (fun _ => XS.iloadN X0.here hx rfl (hb hby at_58) rfl) ?_
  show own_Ends p e below s _ _ _ T0 (mkF m 59 #[.val (.int i0), .val (.int i1), .val (.int i2), .val (.int i3), .val (.int (((i3 &&& (2147483647 : Int32)) % (5 : Int32)) + (1 : Int32))), .val (.int ((i0 &&& (15 : Int32)) - (8 : Int32))), .val (.int (((i0 &&& (15 : Int32)) - (8 : Int32)) + (i1 &&& (3 : Int32)))), .val (.int ((((i0 &&& (15 : Int32)) - (8 : Int32)) + (i1 &&& (3 : Int32))) + (((i1.toUInt32 >>> ((2 : Int32) &&& 31).toUInt32).toInt32) &&& (3 : Int32)))), .val (.int (((((i0 &&& (15 : Int32)) - (8 : Int32)) + (i1 &&& (3 : Int32))) + (((i1.toUInt32 >>> ((2 : Int32) &&& 31).toUInt32).toInt32) &&& (3 : Int32))) + (((i1.toUInt32 >>> ((4 : Int32) &&& 31).toUInt32).toInt32) &&& (3 : Int32)))), .val (.int ((((((i0 &&& (15 : Int32)) - (8 : Int32)) + (i1 &&& (3 : Int32))) + (((i1.toUInt32 >>> ((2 : Int32) &&& 31).toUInt32).toInt32) &&& (3 : Int32))) + (((i1.toUInt32 >>> ((4 : Int32) &&& 31).toUInt32).toInt32) &&& (3 : Int32))) + (((i1.toUInt32 >>> ((6 : Int32) &&& 31).toUInt32).toInt32) &&& (3 : Int32)))), .unset, .unset, .unset, .unset, .unset, .unset] [(.int i2)])
  refine own_step (fun _ => XS.bipush X0.here hx rfl (hb hby at_59)) ?_
  show own_Ends p e below s _ _ _ T0 (mkF m 61 #[.val (.int i0), .val (.int i1), .val (.int i2), .val (.int i3), .val (.int (((i3 &&& (2147483647 : Int32)) % (5 : Int32)) + (1 : Int32))), .val (.int ((i0 &&& (15 : Int32)) - (8 : Int32))), .val (.int (((i0 &&& (15 : Int32)) - (8 : Int32)) + (i1 &&& (3 : Int32)))), .val (.int ((((i0 &&& (15 : Int32)) - (8 : Int32)) + (i1 &&& (3 : Int32))) + (((i1.toUInt32 >>> ((2 : Int32) &&& 31).toUInt32).toInt32) &&& (3 : Int32)))), .val (.int (((((i0 &&& (15 : Int32)) - (8 : Int32)) + (i1 &&& (3 : Int32))) + (((i1.toUInt32 >>> ((2 : Int32) &&& 31).toUInt32).toInt32) &&& (3 : Int32))) + (((i1.toUInt32 >>> ((4 : Int32) &&& 31).toUInt32).toInt32) &&& (3 : Int32)))), .val (.int ((((((i0 &&& (15 : Int32)) - (8 : Int32)) + (i1 &&& (3 : Int32))) + (((i1.toUInt32 >>> ((2 : Int32) &&& 31).toUInt32).toInt32) &&& (3 : Int32))) + (((i1.toUInt32 >>> ((4 : Int32) &&& 31).toUInt32).toInt32) &&& (3 : Int32))) + (((i1.toUInt32 >>> ((6 : Int32) &&& 31).toUInt32).toInt32) &&& (3 : Int32)))), .unset, .unset, .unset, .unset, .unset, .unset] [(.int (63 : Int32)), (.int i2)])
  refine own_step (fun _ => XS.iand X0.here hx rfl (hb hby at_61) rfl) ?_
  show own_Ends p e below s _ _ _ T0 (mkF m 62 #[.val (.int i0), .val (.int i1), .val (.int i2), .val (.int i3), .val (.int (((i3 &&& (2147483647 : Int32)) % (5 : Int32)) + (1 : Int32))), .val (.int ((i0 &&& (15 : Int32)) - (8 : Int32))), .val (.int (((i0 &&& (15 : Int32)) - (8 : Int32)) + (i1 &&& (3 : Int32)))), .val (.int ((((i0 &&& (15 : Int32)) - (8 : Int32)) + (i1 &&& (3 : Int32))) + (((i1.toUInt32 >>> ((2 : Int32) &&& 31).toUInt32).toInt32) &&& (3 : Int32)))), .val (.int (((((i0 &&& (15 : Int32)) - (8 : Int32)) + (i1 &&& (3 : Int32))) + (((i1.toUInt32 >>> ((2 : Int32) &&& 31).toUInt32).toInt32) &&& (3 : Int32))) + (((i1.toUInt32 >>> ((4 : Int32) &&& 31).toUInt32).toInt32) &&& (3 : Int32)))), .val (.int ((((((i0 &&& (15 : Int32)) - (8 : Int32)) + (i1 &&& (3 : Int32))) + (((i1.toUInt32 >>> ((2 : Int32) &&& 31).toUInt32).toInt32) &&& (3 : Int32))) + (((i1.toUInt32 >>> ((4 : Int32) &&& 31).toUInt32).toInt32) &&& (3 : Int32))) + (((i1.toUInt32 >>> ((6 : Int32) &&& 31).toUInt32).toInt32) &&& (3 : Int32)))), .unset, .unset, .unset, .unset, .unset, .unset] [(.int (i2 &&& (63 : Int32)))])
  refine own_step (fun _ => XS.bipush X0.here hx rfl (hb hby at_62)) ?_
  show own_Ends p e below s _ _ _ T0 (mkF m 64 #[.val (.int i0), .val (.int i1), .val (.int i2), .val (.int i3), .val (.int (((i3 &&& (2147483647 : Int32)) % (5 : Int32)) + (1 : Int32))), .val (.int ((i0 &&& (15 : Int32)) - (8 : Int32))), .val (.int (((i0 &&& (15 : Int32)) - (8 : Int32)) + (i1 &&& (3 : Int32)))), .val (.int ((((i0 &&& (15 : Int32)) - (8 : Int32)) + (i1 &&& (3 : Int32))) + (((i1.toUInt32 >>> ((2 : Int32) &&& 31).toUInt32).toInt32) &&& (3 : Int32)))), .val (.int (((((i0 &&& (15 : Int32)) - (8 : Int32)) + (i1 &&& (3 : Int32))) + (((i1.toUInt32 >>> ((2 : Int32) &&& 31).toUInt32).toInt32) &&& (3 : Int32))) + (((i1.toUInt32 >>> ((4 : Int32) &&& 31).toUInt32).toInt32) &&& (3 : Int32)))), .val (.int ((((((i0 &&& (15 : Int32)) - (8 : Int32)) + (i1 &&& (3 : Int32))) + (((i1.toUInt32 >>> ((2 : Int32) &&& 31).toUInt32).toInt32) &&& (3 : Int32))) + (((i1.toUInt32 >>> ((4 : Int32) &&& 31).toUInt32).toInt32) &&& (3 : Int32))) + (((i1.toUInt32 >>> ((6 : Int32) &&& 31).toUInt32).toInt32) &&& (3 : Int32)))), .unset, .unset, .unset, .unset, .unset, .unset] [(.int (21 : Int32)), (.int (i2 &&& (63 : Int32)))])
  refine own_step (fun _ => XS.isub X0.here hx rfl (hb hby at_64) rfl) ?_
  show own_Ends p e below s _ _ _ T0 (mkF m 65 #[.val (.int i0), .val (.int i1), .val (.int i2), .val (.int i3), .val (.int (((i3 &&& (2147483647 : Int32)) % (5 : Int32)) + (1 : Int32))), .val (.int ((i0 &&& (15 : Int32)) - (8 : Int32))), .val (.int (((i0 &&& (15 : Int32)) - (8 : Int32)) + (i1 &&& (3 : Int32)))), .val (.int ((((i0 &&& (15 : Int32)) - (8 : Int32)) + (i1 &&& (3 : Int32))) + (((i1.toUInt32 >>> ((2 : Int32) &&& 31).toUInt32).toInt32) &&& (3 : Int32)))), .val (.int (((((i0 &&& (15 : Int32)) - (8 : Int32)) + (i1 &&& (3 : Int32))) + (((i1.toUInt32 >>> ((2 : Int32) &&& 31).toUInt32).toInt32) &&& (3 : Int32))) + (((i1.toUInt32 >>> ((4 : Int32) &&& 31).toUInt32).toInt32) &&& (3 : Int32)))), .val (.int ((((((i0 &&& (15 : Int32)) - (8 : Int32)) + (i1 &&& (3 : Int32))) + (((i1.toUInt32 >>> ((2 : Int32) &&& 31).toUInt32).toInt32) &&& (3 : Int32))) + (((i1.toUInt32 >>> ((4 : Int32) &&& 31).toUInt32).toInt32) &&& (3 : Int32))) + (((i1.toUInt32 >>> ((6 : Int32) &&& 31).toUInt32).toInt32) &&& (3 : Int32)))), .unset, .unset, .unset, .unset, .unset, .unset] [(.int ((i2 &&& (63 : Int32)) - (21 : Int32)))])
  refine own_step (fun _ => XS.i2dS X0.here hx rfl (hb hby at_65) rfl rfl) ?_
  show own_Ends p e below s _ _ _ T0 (mkF m 66 #[.val (.int i0), .val (.int i1), .val (.int i2), .val (.int i3), .val (.int (((i3 &&& (2147483647 : Int32)) % (5 : Int32)) + (1 : Int32))), .val (.int ((i0 &&& (15 : Int32)) - (8 : Int32))), .val (.int (((i0 &&& (15 : Int32)) - (8 : Int32)) + (i1 &&& (3 : Int32)))), .val (.int ((((i0 &&& (15 : Int32)) - (8 : Int32)) + (i1 &&& (3 : Int32))) + (((i1.toUInt32 >>> ((2 : Int32) &&& 31).toUInt32).toInt32) &&& (3 : Int32)))), .val (.int (((((i0 &&& (15 : Int32)) - (8 : Int32)) + (i1 &&& (3 : Int32))) + (((i1.toUInt32 >>> ((2 : Int32) &&& 31).toUInt32).toInt32) &&& (3 : Int32))) + (((i1.toUInt32 >>> ((4 : Int32) &&& 31).toUInt32).toInt32) &&& (3 : Int32)))), .val (.int ((((((i0 &&& (15 : Int32)) - (8 : Int32)) + (i1 &&& (3 : Int32))) + (((i1.toUInt32 >>> ((2 : Int32) &&& 31).toUInt32).toInt32) &&& (3 : Int32))) + (((i1.toUInt32 >>> ((4 : Int32) &&& 31).toUInt32).toInt32) &&& (3 : Int32))) + (((i1.toUInt32 >>> ((6 : Int32) &&& 31).toUInt32).toInt32) &&& (3 : Int32)))), .unset, .unset, .unset, .unset, .unset, .unset] [(.double (FP.i2d ((i2 &&& (63 : Int32)) - (21 : Int32))))])
  refine own_step (fun _ => X0.ldc2DoubleC hx hown (mvT hZ (hw _ (List.mem_of_getElem? (i := 1) rfl))) (g := (mkF m 66 #[.val (.int i0), .val (.int i1), .val (.int i2), .val (.int i3), .val (.int (((i3 &&& (2147483647 : Int32)) % (5 : Int32)) + (1 : Int32))), .val (.int ((i0 &&& (15 : Int32)) - (8 : Int32))), .val (.int (((i0 &&& (15 : Int32)) - (8 : Int32)) + (i1 &&& (3 : Int32)))), .val (.int ((((i0 &&& (15 : Int32)) - (8 : Int32)) + (i1 &&& (3 : Int32))) + (((i1.toUInt32 >>> ((2 : Int32) &&& 31).toUInt32).toInt32) &&& (3 : Int32)))), .val (.int (((((i0 &&& (15 : Int32)) - (8 : Int32)) + (i1 &&& (3 : Int32))) + (((i1.toUInt32 >>> ((2 : Int32) &&& 31).toUInt32).toInt32) &&& (3 : Int32))) + (((i1.toUInt32 >>> ((4 : Int32) &&& 31).toUInt32).toInt32) &&& (3 : Int32)))), .val (.int ((((((i0 &&& (15 : Int32)) - (8 : Int32)) + (i1 &&& (3 : Int32))) + (((i1.toUInt32 >>> ((2 : Int32) &&& 31).toUInt32).toInt32) &&& (3 : Int32))) + (((i1.toUInt32 >>> ((4 : Int32) &&& 31).toUInt32).toInt32) &&& (3 : Int32))) + (((i1.toUInt32 >>> ((6 : Int32) &&& 31).toUInt32).toInt32) &&& (3 : Int32)))), .unset, .unset, .unset, .unset, .unset, .unset] [(.double (FP.i2d ((i2 &&& (63 : Int32)) - (21 : Int32))))])) rfl (hb hby at_66) _) ?_
  show own_Ends p e below s _ _ _ T0 (mkF m 69 #[.val (.int i0), .val (.int i1), .val (.int i2), .val (.int i3), .val (.int (((i3 &&& (2147483647 : Int32)) % (5 : Int32)) + (1 : Int32))), .val (.int ((i0 &&& (15 : Int32)) - (8 : Int32))), .val (.int (((i0 &&& (15 : Int32)) - (8 : Int32)) + (i1 &&& (3 : Int32)))), .val (.int ((((i0 &&& (15 : Int32)) - (8 : Int32)) + (i1 &&& (3 : Int32))) + (((i1.toUInt32 >>> ((2 : Int32) &&& 31).toUInt32).toInt32) &&& (3 : Int32)))), .val (.int (((((i0 &&& (15 : Int32)) - (8 : Int32)) + (i1 &&& (3 : Int32))) + (((i1.toUInt32 >>> ((2 : Int32) &&& 31).toUInt32).toInt32) &&& (3 : Int32))) + (((i1.toUInt32 >>> ((4 : Int32) &&& 31).toUInt32).toInt32) &&& (3 : Int32)))), .val (.int ((((((i0 &&& (15 : Int32)) - (8 : Int32)) + (i1 &&& (3 : Int32))) + (((i1.toUInt32 >>> ((2 : Int32) &&& 31).toUInt32).toInt32) &&& (3 : Int32))) + (((i1.toUInt32 >>> ((4 : Int32) &&& 31).toUInt32).toInt32) &&& (3 : Int32))) + (((i1.toUInt32 >>> ((6 : Int32) &&& 31).toUInt32).toInt32) &&& (3 : Int32)))), .unset, .unset, .unset, .unset, .unset, .unset] [(.double (4611686018427387904 : UInt64)), (.double (FP.i2d ((i2 &&& (63 : Int32)) - (21 : Int32))))])
  refine own_step (fun _ => XS.ddivS X0.here hx rfl (hb hby at_69) rfl (own_nan _) rfl) ?_
  show own_Ends p e below s _ _ _ T0 (mkF m 70 #[.val (.int i0), .val (.int i1), .val (.int i2), .val (.int i3), .val (.int (((i3 &&& (2147483647 : Int32)) % (5 : Int32)) + (1 : Int32))), .val (.int ((i0 &&& (15 : Int32)) - (8 : Int32))), .val (.int (((i0 &&& (15 : Int32)) - (8 : Int32)) + (i1 &&& (3 : Int32)))), .val (.int ((((i0 &&& (15 : Int32)) - (8 : Int32)) + (i1 &&& (3 : Int32))) + (((i1.toUInt32 >>> ((2 : Int32) &&& 31).toUInt32).toInt32) &&& (3 : Int32)))), .val (.int (((((i0 &&& (15 : Int32)) - (8 : Int32)) + (i1 &&& (3 : Int32))) + (((i1.toUInt32 >>> ((2 : Int32) &&& 31).toUInt32).toInt32) &&& (3 : Int32))) + (((i1.toUInt32 >>> ((4 : Int32) &&& 31).toUInt32).toInt32) &&& (3 : Int32)))), .val (.int ((((((i0 &&& (15 : Int32)) - (8 : Int32)) + (i1 &&& (3 : Int32))) + (((i1.toUInt32 >>> ((2 : Int32) &&& 31).toUInt32).toInt32) &&& (3 : Int32))) + (((i1.toUInt32 >>> ((4 : Int32) &&& 31).toUInt32).toInt32) &&& (3 : Int32))) + (((i1.toUInt32 >>> ((6 : Int32) &&& 31).toUInt32).toInt32) &&& (3 : Int32)))), .unset, .unset, .unset, .unset, .unset, .unset] [(.double (FP.ddiv (FP.i2d ((i2 &&& (63 : Int32)) - (21 : Int32))) (4611686018427387904 : UInt64)))])
  refine own_step (fun _ => XS.dstore X0.here hx rfl (hb hby at_70) rfl (l' := #[.val (.int i0), .val (.int i1), .val (.int i2), .val (.int i3), .val (.int (((i3 &&& (2147483647 : Int32)) % (5 : Int32)) + (1 : Int32))), .val (.int ((i0 &&& (15 : Int32)) - (8 : Int32))), .val (.int (((i0 &&& (15 : Int32)) - (8 : Int32)) + (i1 &&& (3 : Int32)))), .val (.int ((((i0 &&& (15 : Int32)) - (8 : Int32)) + (i1 &&& (3 : Int32))) + (((i1.toUInt32 >>> ((2 : Int32) &&& 31).toUInt32).toInt32) &&& (3 : Int32)))), .val (.int (((((i0 &&& (15 : Int32)) - (8 : Int32)) + (i1 &&& (3 : Int32))) + (((i1.toUInt32 >>> ((2 : Int32) &&& 31).toUInt32).toInt32) &&& (3 : Int32))) + (((i1.toUInt32 >>> ((4 : Int32) &&& 31).toUInt32).toInt32) &&& (3 : Int32)))), .val (.int ((((((i0 &&& (15 : Int32)) - (8 : Int32)) + (i1 &&& (3 : Int32))) + (((i1.toUInt32 >>> ((2 : Int32) &&& 31).toUInt32).toInt32) &&& (3 : Int32))) + (((i1.toUInt32 >>> ((4 : Int32) &&& 31).toUInt32).toInt32) &&& (3 : Int32))) + (((i1.toUInt32 >>> ((6 : Int32) &&& 31).toUInt32).toInt32) &&& (3 : Int32)))), .val (.double (FP.ddiv (FP.i2d ((i2 &&& (63 : Int32)) - (21 : Int32))) (4611686018427387904 : UInt64))), .second, .unset, .unset, .unset, .unset]) rfl) ?_
  show own_Ends p e below s _ _ _ T0 (mkF m 72 #[.val (.int i0), .val (.int i1), .val (.int i2), .val (.int i3), .val (.int (((i3 &&& (2147483647 : Int32)) % (5 : Int32)) + (1 : Int32))), .val (.int ((i0 &&& (15 : Int32)) - (8 : Int32))), .val (.int (((i0 &&& (15 : Int32)) - (8 : Int32)) + (i1 &&& (3 : Int32)))), .val (.int ((((i0 &&& (15 : Int32)) - (8 : Int32)) + (i1 &&& (3 : Int32))) + (((i1.toUInt32 >>> ((2 : Int32) &&& 31).toUInt32).toInt32) &&& (3 : Int32)))), .val (.int (((((i0 &&& (15 : Int32)) - (8 : Int32)) + (i1 &&& (3 : Int32))) + (((i1.toUInt32 >>> ((2 : Int32) &&& 31).toUInt32).toInt32) &&& (3 : Int32))) + (((i1.toUInt32 >>> ((4 : Int32) &&& 31).toUInt32).toInt32) &&& (3 : Int32)))), .val (.int ((((((i0 &&& (15 : Int32)) - (8 : Int32)) + (i1 &&& (3 : Int32))) + (((i1.toUInt32 >>> ((2 : Int32) &&& 31).toUInt32).toInt32) &&& (3 : Int32))) + (((i1.toUInt32 >>> ((4 : Int32) &&& 31).toUInt32).toInt32) &&& (3 : Int32))) + (((i1.toUInt32 >>> ((6 : Int32) &&& 31).toUInt32).toInt32) &&& (3 : Int32)))), .val (.double (FP.ddiv (FP.i2d ((i2 &&& (63 : Int32)) - (21 : Int32))) (4611686018427387904 : UInt64))), .second, .unset, .unset, .unset, .unset] [])
  exact b0_72 C Z0 X0 e0 N0 i0 i1 i2 i3 ((i0 &&& (15 : Int32)) - (8 : Int32)) (((i0 &&& (15 : Int32)) - (8 : Int32)) + (i1 &&& (3 : Int32))) ((((i0 &&& (15 : Int32)) - (8 : Int32)) + (i1 &&& (3 : Int32))) + (((i1.toUInt32 >>> ((2 : Int32) &&& 31).toUInt32).toInt32) &&& (3 : Int32))) (((((i0 &&& (15 : Int32)) - (8 : Int32)) + (i1 &&& (3 : Int32))) + (((i1.toUInt32 >>> ((2 : Int32) &&& 31).toUInt32).toInt32) &&& (3 : Int32))) + (((i1.toUInt32 >>> ((4 : Int32) &&& 31).toUInt32).toInt32) &&& (3 : Int32))) ((((((i0 &&& (15 : Int32)) - (8 : Int32)) + (i1 &&& (3 : Int32))) + (((i1.toUInt32 >>> ((2 : Int32) &&& 31).toUInt32).toInt32) &&& (3 : Int32))) + (((i1.toUInt32 >>> ((4 : Int32) &&& 31).toUInt32).toInt32) &&& (3 : Int32))) + (((i1.toUInt32 >>> ((6 : Int32) &&& 31).toUInt32).toInt32) &&& (3 : Int32))) (FP.ddiv (FP.i2d ((i2 &&& (63 : Int32)) - (21 : Int32))) (4611686018427387904 : UInt64)) _ hv
theorem ef_rm0 (m : MethodId) (i0 : Int32) (i1 : Int32) (i2 : Int32) (i3 : Int32) : entryFrame m #[(.int i0), (.int i1), (.int i2), (.int i3)] maxLocals = mkF m 0 #[.val (.int i0), .val (.int i1), .val (.int i2), .val (.int i3), .unset, .unset, .unset, .unset, .unset, .unset, .unset, .unset, .unset, .unset, .unset, .unset] [] := by first | (simp [entryFrame, mkF, argsToLocals, Value.category, maxLocals]; done) | rfl
set_option maxRecDepth 65536 in
set_option maxHeartbeats 40000000 in
theorem rm0 (l : Launch) (Z : State) (a0 : Array Value) (hw : ∀ d ∈ tables_1, d.before a0 Z = true) (ws : List Jvm.Cond) (i0 : Int32) (i1 : Int32) (i2 : Int32) (i3 : Int32) (h0 : Heap) (n0 : Nat) (Z0 : n0 ≤ h0.size) :
    MetFree l x (head1 (Jvm.Cond.code x code maxLocals ret :: ws) room_1) (fun a U => a = #[(.int i0), (.int i1), (.int i2), (.int i3)] ∧ Z.Warmed39 U.vm ∧ U.heap = h0) (fun _ _ _ _ _ => True) (fun _ U o U' => ∃ v L, o = .returned v ∧ (own_QL n0 (some (.int (f0_0 i0 i1 i2 i3)))) v U'.heap L ∧ FrameEnd U o U' L room_1.cells room_1.slots) := by
  refine MetFree.of_bodySF (plainFor_of_name pn_0) hisR ?_
  intro p e s m args below meth c s₁ Bd hml0 hP hK
  obtain ⟨rfl, hZ, hh⟩ := hP
  have X0 : Stand p l e room_1 s m #[(.int i0), (.int i1), (.int i2), (.int i3)] below meth c s₁ [] 0 0 := Stand.of_body Bd
  have e0 : s₁.heap = h0 := by rw [← hh, Bd.state]; rfl
  have C : own_C "com/example/graded_queue/gradedqueue/sim/CumulativeFirstAbovePinLaw" code maxLocals ret x.name p s m meth c Z a0 := ⟨Bd.exec, hZ, hw, Bd.bytes, hml0, findClass_of_methodNamed Bd.named, Bd.returns, Bd.notSynchronized, (name_of_methodNamed Bd.named Bd.method).1⟩
  have r := b0_0 C Z0 X0 e0 (Fr.nil n0) i0 i1 i2 i3 _ rfl
  rw [ef_rm0 m i0 i1 i2 i3]
  exact r
def own_sg (e : Int) (j : Int) : Int32 := if j < 2 * e then 1 else if 2 * e = j then 0 else -1
set_option maxRecDepth 100000 in
theorem own_tab : ∀ (a : Fin 28) (n : Fin 64), cmpValue (FP.dcmp (FP.i2d (Int32.ofInt ((a.val : Int) - 8))) (FP.ddiv (FP.i2d (Int32.ofNat n.val - (21 : Int32))) (4611686018427387904 : UInt64))) .l = own_sg ((a.val : Int) - 8) ((n.val : Int) - 21) ∧ cmpValue (FP.dcmp (FP.i2d (Int32.ofInt ((a.val : Int) - 8))) (FP.ddiv (FP.i2d (Int32.ofNat n.val - (21 : Int32))) (4611686018427387904 : UInt64))) .g = own_sg ((a.val : Int) - 8) ((n.val : Int) - 21) := by decide +kernel
theorem own_pos (e : Int32) (h1 : -8 ≤ e.toInt) (h2 : e.toInt < 20) (n : Fin 64) : ((0 : Int32) < cmpValue (FP.dcmp (FP.i2d e) (FP.ddiv (FP.i2d (Int32.ofNat n.val - (21 : Int32))) (4611686018427387904 : UInt64))) .l ↔ (n.val : Int) - 21 < 2 * e.toInt) ∧ ((0 : Int32) < cmpValue (FP.dcmp (FP.i2d e) (FP.ddiv (FP.i2d (Int32.ofNat n.val - (21 : Int32))) (4611686018427387904 : UInt64))) .g ↔ (n.val : Int) - 21 < 2 * e.toInt) := by
  obtain ⟨k, hk⟩ : ∃ k : Fin 28, e = Int32.ofInt ((k.val : Int) - 8) := by
    refine ⟨⟨(e.toInt + 8).toNat, by omega⟩, ?_⟩
    apply Int32.toInt_inj.mp
    rw [Int32.toInt_ofInt_of_le (by simp; omega) (by simp; omega)]; simp; omega
  have he : e.toInt = (k.val : Int) - 8 := by rw [hk, Int32.toInt_ofInt_of_le (by simp; omega) (by simp; omega)]
  obtain ⟨t1, t2⟩ := own_tab k n
  rw [hk, t1, t2, ← hk, he]
  have q : (0 : Int32) < own_sg ((k.val : Int) - 8) ((n.val : Int) - 21) ↔ (n.val : Int) - 21 < 2 * ((k.val : Int) - 8) := by
    unfold own_sg
    split
    · rename_i h; exact ⟨fun _ => h, fun _ => by decide⟩
    · rename_i h
      split <;> exact ⟨fun q => absurd q (by decide), fun q => absurd q h⟩
  exact ⟨q, q⟩
theorem own_law2 (i0 i1 i2 i3 e0 e1 e2 e3 e4 : Int32) (u : UInt64) (P : Int32 → Prop) (hl : ∀ e ∈ [e0, e1, e2, e3, e4], ((0 : Int32) < cmpValue (FP.dcmp (FP.i2d e) u) .l ↔ P e) ∧ ((0 : Int32) < cmpValue (FP.dcmp (FP.i2d e) u) .g ↔ P e)) (m0 : P e0 → P e1) (m1 : P e1 → P e2) (m2 : P e2 → P e3) (m3 : P e3 → P e4) : f0_72 i0 i1 i2 i3 e0 e1 e2 e3 e4 u = 1 := by
  have a0 := hl e0 (by simp)
  have a1 := hl e1 (by simp)
  have a2 := hl e2 (by simp)
  have a3 := hl e3 (by simp)
  have a4 := hl e4 (by simp)
  unfold f0_72 f1_0 f2a_0 f2b_0 f2c_0 f2d_0 f2e_0
  by_cases p0 : P e0
  · have p1 := m0 p0
    have p2 := m1 p1
    have p3 := m2 p2
    have p4 := m3 p3
    simp only [if_pos (a0.1.mpr p0), if_pos (a0.2.mpr p0), if_pos (a1.1.mpr p1), if_pos (a1.2.mpr p1), if_pos (a2.1.mpr p2), if_pos (a2.2.mpr p2), if_pos (a3.1.mpr p3), if_pos (a3.2.mpr p3), if_pos (a4.1.mpr p4), if_pos (a4.2.mpr p4), ↓reduceIte]; simp
  · skip
    by_cases p1 : P e1
    · have p2 := m1 p1
      have p3 := m2 p2
      have p4 := m3 p3
      simp only [if_neg (fun q => p0 (a0.1.mp q)), if_neg (fun q => p0 (a0.2.mp q)), if_pos (a1.1.mpr p1), if_pos (a1.2.mpr p1), if_pos (a2.1.mpr p2), if_pos (a2.2.mpr p2), if_pos (a3.1.mpr p3), if_pos (a3.2.mpr p3), if_pos (a4.1.mpr p4), if_pos (a4.2.mpr p4), ↓reduceIte]; simp
    · skip
      by_cases p2 : P e2
      · have p3 := m2 p2
        have p4 := m3 p3
        simp only [if_neg (fun q => p0 (a0.1.mp q)), if_neg (fun q => p0 (a0.2.mp q)), if_neg (fun q => p1 (a1.1.mp q)), if_neg (fun q => p1 (a1.2.mp q)), if_pos (a2.1.mpr p2), if_pos (a2.2.mpr p2), if_pos (a3.1.mpr p3), if_pos (a3.2.mpr p3), if_pos (a4.1.mpr p4), if_pos (a4.2.mpr p4), ↓reduceIte]; simp
      · skip
        by_cases p3 : P e3
        · have p4 := m3 p3
          simp only [if_neg (fun q => p0 (a0.1.mp q)), if_neg (fun q => p0 (a0.2.mp q)), if_neg (fun q => p1 (a1.1.mp q)), if_neg (fun q => p1 (a1.2.mp q)), if_neg (fun q => p2 (a2.1.mp q)), if_neg (fun q => p2 (a2.2.mp q)), if_pos (a3.1.mpr p3), if_pos (a3.2.mpr p3), if_pos (a4.1.mpr p4), if_pos (a4.2.mpr p4), ↓reduceIte]; simp
        · skip
          by_cases p4 : P e4
          · simp only [if_neg (fun q => p0 (a0.1.mp q)), if_neg (fun q => p0 (a0.2.mp q)), if_neg (fun q => p1 (a1.1.mp q)), if_neg (fun q => p1 (a1.2.mp q)), if_neg (fun q => p2 (a2.1.mp q)), if_neg (fun q => p2 (a2.2.mp q)), if_neg (fun q => p3 (a3.1.mp q)), if_neg (fun q => p3 (a3.2.mp q)), if_pos (a4.1.mpr p4), if_pos (a4.2.mpr p4), ↓reduceIte]; simp
          · simp only [if_neg (fun q => p0 (a0.1.mp q)), if_neg (fun q => p0 (a0.2.mp q)), if_neg (fun q => p1 (a1.1.mp q)), if_neg (fun q => p1 (a1.2.mp q)), if_neg (fun q => p2 (a2.1.mp q)), if_neg (fun q => p2 (a2.2.mp q)), if_neg (fun q => p3 (a3.1.mp q)), if_neg (fun q => p3 (a3.2.mp q)), if_neg (fun q => p4 (a4.1.mp q)), if_neg (fun q => p4 (a4.2.mp q)), ↓reduceIte]; simp
theorem own_m3 (x : Int32) : 0 ≤ (x &&& (3 : Int32)).toInt ∧ (x &&& (3 : Int32)).toInt < 4 := by
  have h1 : (x &&& (3 : Int32)).toBitVec.toNat = x.toBitVec.toNat % 2 ^ 2 := by
    show (x.toBitVec &&& (3 : Int32).toBitVec).toNat = _
    rw [BitVec.toNat_and, show (3 : Int32).toBitVec.toNat = 2 ^ 2 - 1 from by decide, Nat.and_two_pow_sub_one_eq_mod]
  have h3 : x.toBitVec.toNat % 2 ^ 2 < 2 ^ 2 := Nat.mod_lt _ (Nat.two_pow_pos 2)
  show 0 ≤ (x &&& (3 : Int32)).toBitVec.toInt ∧ (x &&& (3 : Int32)).toBitVec.toInt < 4
  rw [BitVec.toInt_eq_toNat_cond, h1, if_pos (by omega)]
  constructor <;> omega
theorem own_m15 (x : Int32) : 0 ≤ (x &&& (15 : Int32)).toInt ∧ (x &&& (15 : Int32)).toInt < 16 := by
  have h1 : (x &&& (15 : Int32)).toBitVec.toNat = x.toBitVec.toNat % 2 ^ 4 := by
    show (x.toBitVec &&& (15 : Int32).toBitVec).toNat = _
    rw [BitVec.toNat_and, show (15 : Int32).toBitVec.toNat = 2 ^ 4 - 1 from by decide, Nat.and_two_pow_sub_one_eq_mod]
  have h3 : x.toBitVec.toNat % 2 ^ 4 < 2 ^ 4 := Nat.mod_lt _ (Nat.two_pow_pos 4)
  show 0 ≤ (x &&& (15 : Int32)).toBitVec.toInt ∧ (x &&& (15 : Int32)).toBitVec.toInt < 16
  rw [BitVec.toInt_eq_toNat_cond, h1, if_pos (by omega)]
  constructor <;> omega
theorem own_add (x y : Int32) (h1 : -1000 ≤ x.toInt) (h2 : x.toInt ≤ 1000) (h3 : -1000 ≤ y.toInt) (h4 : y.toInt ≤ 1000) : (x + y).toInt = x.toInt + y.toInt := by
  rw [Int32.toInt_add]; exact Int.bmod_eq_of_le (by simp; omega) (by simp; omega)
theorem own_law (i0 i1 i2 i3 : Int32) : f0_0 i0 i1 i2 i3 = 1 := by
  unfold f0_0
  obtain ⟨n, hn⟩ := own_m63 i2
  rw [hn]
  have z0 := own_m15 i0
  have z1 := own_m3 i1
  have z2 := own_m3 ((i1.toUInt32 >>> ((2 : Int32) &&& 31).toUInt32).toInt32)
  have z3 := own_m3 ((i1.toUInt32 >>> ((4 : Int32) &&& 31).toUInt32).toInt32)
  have z4 := own_m3 ((i1.toUInt32 >>> ((6 : Int32) &&& 31).toUInt32).toInt32)
  generalize (((i1.toUInt32 >>> ((2 : Int32) &&& 31).toUInt32).toInt32) &&& (3 : Int32)) = y2 at *
  generalize (((i1.toUInt32 >>> ((4 : Int32) &&& 31).toUInt32).toInt32) &&& (3 : Int32)) = y3 at *
  generalize (((i1.toUInt32 >>> ((6 : Int32) &&& 31).toUInt32).toInt32) &&& (3 : Int32)) = y4 at *
  generalize (i1 &&& (3 : Int32)) = y1 at *
  have b0 : ((i0 &&& (15 : Int32)) - (8 : Int32)).toInt = (i0 &&& (15 : Int32)).toInt - 8 := by
    rw [Int32.toInt_sub, show (8 : Int32).toInt = 8 from rfl]; exact Int.bmod_eq_of_le (by simp; omega) (by simp; omega)
  generalize ((i0 &&& (15 : Int32)) - (8 : Int32)) = e0 at *
  have b1 : (e0 + y1).toInt = e0.toInt + y1.toInt := own_add _ _ (by omega) (by omega) (by omega) (by omega)
  generalize e0 + y1 = e1 at *
  have b2 : (e1 + y2).toInt = e1.toInt + y2.toInt := own_add _ _ (by omega) (by omega) (by omega) (by omega)
  generalize e1 + y2 = e2 at *
  have b3 : (e2 + y3).toInt = e2.toInt + y3.toInt := own_add _ _ (by omega) (by omega) (by omega) (by omega)
  generalize e2 + y3 = e3 at *
  have b4 : (e3 + y4).toInt = e3.toInt + y4.toInt := own_add _ _ (by omega) (by omega) (by omega) (by omega)
  generalize e3 + y4 = e4 at *
  refine own_law2 i0 i1 i2 i3 e0 e1 e2 e3 e4 _ (fun e => (n.val : Int) - 21 < 2 * e.toInt) (fun e he => ?_) (fun q => ?_) (fun q => ?_) (fun q => ?_) (fun q => ?_)
  · simp only [List.mem_cons, List.not_mem_nil, or_false] at he
    rcases he with rfl | rfl | rfl | rfl | rfl <;> exact own_pos _ (by omega) (by omega) n
  all_goals (show (n.val : Int) - 21 < 2 * _; have q' : (n.val : Int) - 21 < 2 * _ := q; omega)

set_option maxRecDepth 65536 in
set_option maxHeartbeats 40000000 in
theorem comes_1 {Post : Tables → Env → Array Value → State → Outcome → State → Prop} (hpost : ∀ tb e args s v u, (limb_1_1.after args s (.returned v) u = true ∧ limb_1_2.after args s (.returned v) u = true ∧ True) → FrameEnd s (.returned v) u (Jvm.fieldLocs frame_1_writes args s ++ Jvm.arrayLocs frame_1_arrays args s ++ Jvm.staticLocs frame_1_statics s) 16 128 → Post tb e args s (.returned v) u) :
    ArmFor flags0 classFile x code maxLocals ret World_1 tables_1 room_1 Calls_1 rest_1 Pre_1 Post := by
  intro l hfl _ _ p e ha hc hk s m args below hf hA hF happ hP
  obtain ⟨hcalls, hrest, hpre⟩ := hP
  obtain ⟨-, -, -, hnamed, -, -, -, hat⟩ := (Spec.applies_iff hf).mp happ
  obtain ⟨hg, hn⟩ := and_e (Cond.before_iff.mp (show (Jvm.Cond.and given_1 narrow_1).before args s = true from hpre))
  obtain ⟨g1, g2⟩ := and_e hg
  obtain ⟨g3, g4⟩ := and_e g2
  obtain ⟨g5, g6⟩ := and_e g4
  obtain ⟨g7, g8⟩ := and_e g6
  obtain ⟨w0, w1, w2, w3, rfl⟩ : ∃ w0 w1 w2 w3 : Value, args = #[w0, w1, w2, w3] := by
    have hs : args.size = 4 := by simpa [Cond.value, given_1] using g1
    obtain ⟨L⟩ := args
    match L, hs with
    | [w0, w1, w2, w3], _ => exact ⟨w0, w1, w2, w3, rfl⟩
  have hw := fun d (hd : d ∈ tables_1) => atoms_spec (ws := Jvm.Cond.code x code maxLocals ret :: tables_1) hat d (List.mem_cons_of_mem _ hd)
  have hfit : Fit s := fun {y c} hc i hi => by
    obtain ⟨ha, rfl⟩ := Array.getElem?_eq_some_iff.mp hc
    have q := List.all_eq_true.mp ((Array.all_eq_true_iff_forall_mem.mp hF) _ (Array.getElem_mem ha)) i (List.mem_range.mpr hi)
    simpa [Array.getElem?_eq_getElem hi] using q
  obtain ⟨i0, ei0⟩ := is_v g3
  obtain rfl : w0 = (.int i0) := Option.some.inj ei0
  obtain ⟨i1, ei1⟩ := is_v g5
  obtain rfl : w1 = (.int i1) := Option.some.inj ei1
  obtain ⟨i2, ei2⟩ := is_v g7
  obtain rfl : w2 = (.int i2) := Option.some.inj ei2
  obtain ⟨i3, ei3⟩ := is_v g8
  obtain rfl : w3 = (.int i3) := Option.some.inj ei3
  obtain ⟨n, o, h1, h2, h3, _, L, rfl, ⟨rfl, N, -⟩, hq⟩ := rm0 l s _ hw tables_1 i0 i1 i2 i3 s.heap s.heap.size (Nat.le_refl _) p e ha hc hk s m _ below hf ((Spec.applies_iff_loose hf).mp happ).1 ⟨rfl, State.Warmed39.refl s, rfl⟩ trivial
  refine ⟨n, _, h1, h2, h3, hpost _ _ _ _ _ _ ⟨Cond.after_iff.mpr rfl, Cond.after_iff.mpr (eq_i res_at (Term.int_eval (1)) (congrArg Value.int (own_law i0 i1 i2 i3))), trivial⟩ ⟨hq.1, hq.2.1, (hq.2.2.sift fun y hy => Or.inr (N y hy)).mono (by decide) (by decide)⟩⟩
theorem main_1_1 : Claimed_1_1 := comes_1 fun _ _ _ _ _ _ h hF => ⟨h.1, hF⟩
theorem main_1_2 : Claimed_1_2 := comes_1 fun _ _ _ _ _ _ h hF => ⟨h.2.1, hF⟩
end Jvm.Pilot.@@N@@
namespace Jvm.Pilot.@@N@@
open Jvm Jvm.ClassFile Sem Op Lib Jvm.Free Jvm.Stand Jvm.Pilot.@@N@@.Jvm.D
/-! MADE BY PROGRAM (witnessworld.py) out of the Statement's table words and the real class files: 11 classes; the members and pool entries that the words name. The judged class is class 1, her method 2. -/
namespace start1
open Jvm.ClassFile
def u (s : String) : CpInfo := .utf8 (stringToUtf16 s)
/-- a pool by its gaps: so many unusable entries, then the entry; so many at the end -/
def gap : Nat → List CpInfo → List CpInfo
  | 0, r => r
  | n + 1, r => .unusable :: gap n r
def poolList (es : List (Nat × CpInfo)) (last : Nat) : List CpInfo := es.foldr (fun e r => gap e.1 (e.2 :: r)) (gap last [])
def pool (es : List (Nat × CpInfo)) (last : Nat) : Array CpInfo := ⟨poolList es last⟩
def fileOf (pool : Array CpInfo) (this : Nat) (attrs : Array Attribute := #[]) (ms : Array MethodInfo := #[]) (fl : Nat := 33) (sup : Nat := 0) (ifs : Array Nat := #[]) (fds : Array FieldInfo := #[]) : ClassFile where
  minorVersion := 0
  majorVersion := 65
  constantPool := pool
  accessFlags := fl
  thisClass := this
  superClass := sup
  interfaces := ifs
  fields := fds
  methods := ms
  attributes := attrs
def plain (name : String) (sup : Option ClassId) : Class where
  name := name
  kind := .ordinary
  loader := none
  accessFlags := 33
  super := sup
  interfaces := #[]
  cf := none
  fields := #[]
  methods := #[]
  instanceTypes := #[]
  staticTypes := #[]
  resolved := #[]
  callSites := []
  init := .initialized
  statics := none
  mirror := none

def pool0 : Array CpInfo := pool [(5, u "<init>"), (0, u "()V"), (1, .class_ 10), (1, u "java/lang/Object")] 113

def k0m0 : Method := { name := "<init>", desc := "()V", sig := { parameters := [], returnType := none }, accessFlags := 1, code := none }
/-- java/lang/Object -/
def k0 : Class := { plain "java/lang/Object" none with
  accessFlags := 33
  interfaces := #[]
  cf := some (fileOf pool0 8 #[] #[{ accessFlags := 1, nameIndex := 5, descriptorIndex := 6, attributes := #[] }] 33 0 #[] #[])
  fields := #[]
  methods := #[k0m0]
  instanceTypes := #[]
  staticTypes := #[]
  resolved := Array.replicate 124 none
  statics := none }

def pool1 : Array CpInfo := pool [(2, .class_ 4), (1, u "java/lang/Object"), (0, u "<init>"), (0, u "()V"), (0, .integer 2147483647), (0, .double 4611686018427387904), (1, .methodref 11 12), (0, .class_ 13), (0, .nameAndType 14 15), (0, u "com/example/graded_queue/gradedqueue/sim/CumulativeFirstAbovePinLaw"), (0, u "le"), (0, u "(ZID)I"), (0, .methodref 17 18), (0, .class_ 19), (0, .nameAndType 20 21), (0, u "com/example/graded_queue/gradedqueue/sim/Cumulative"), (0, u "firstAbove"), (0, u "([DD)I"), (3, u "law"), (0, u "(IIII)Z")] 4

def k1m0 : Method := { name := "<init>", desc := "()V", sig := { parameters := [], returnType := none }, accessFlags := 2, code := none }
def k1c1 : Code := { maxStack := 4, maxLocals := 4, code := method_2_code, exceptionTable := #[], attributes := #[] }
def k1m1 : Method := { name := "le", desc := "(ZID)I", sig := { parameters := [.boolean, .int, .double], returnType := some .int }, accessFlags := 10, code := some k1c1 }
def k1c2 : Code := { maxStack := 5, maxLocals := 16, code := code, exceptionTable := #[], attributes := #[] }
def k1m2 : Method := { name := "law", desc := "(IIII)Z", sig := { parameters := [.int, .int, .int, .int], returnType := some .boolean }, accessFlags := 9, code := some k1c2 }
/-- com/example/graded_queue/gradedqueue/sim/CumulativeFirstAbovePinLaw -/
def k1 : Class := { plain "com/example/graded_queue/gradedqueue/sim/CumulativeFirstAbovePinLaw" (some 0) with
  accessFlags := 49
  interfaces := #[]
  cf := some (fileOf pool1 11 #[] #[{ accessFlags := 2, nameIndex := 5, descriptorIndex := 6, attributes := #[] }, { accessFlags := 10, nameIndex := 14, descriptorIndex := 15, attributes := #[] }, { accessFlags := 9, nameIndex := 25, descriptorIndex := 26, attributes := #[] }] 49 2 #[] #[])
  fields := #[]
  methods := #[k1m0, k1m1, k1m2]
  instanceTypes := #[]
  staticTypes := #[]
  resolved := Array.replicate 31 none
  statics := none }

def pool2 : Array CpInfo := pool [(2, .class_ 4), (1, u "java/lang/Object"), (0, u "<init>"), (0, u "()V"), (0, .class_ 8), (0, u "com/example/graded_queue/gradedqueue/sim/Cumulative"), (2, u "firstAbove"), (0, u "([DD)I")] 3

def k2m0 : Method := { name := "<init>", desc := "()V", sig := { parameters := [], returnType := none }, accessFlags := 2, code := none }
def k2c1 : Code := { maxStack := 4, maxLocals := 6, code := prog_56_method_2_code, exceptionTable := #[], attributes := #[] }
def k2m1 : Method := { name := "firstAbove", desc := "([DD)I", sig := { parameters := [(.array .double), .double], returnType := some .int }, accessFlags := 8, code := some k2c1 }
/-- com/example/graded_queue/gradedqueue/sim/Cumulative -/
def k2 : Class := { plain "com/example/graded_queue/gradedqueue/sim/Cumulative" (some 0) with
  accessFlags := 48
  interfaces := #[]
  cf := some (fileOf pool2 7 #[] #[{ accessFlags := 2, nameIndex := 5, descriptorIndex := 6, attributes := #[] }, { accessFlags := 8, nameIndex := 11, descriptorIndex := 12, attributes := #[] }] 48 2 #[] #[])
  fields := #[]
  methods := #[k2m0, k2m1]
  instanceTypes := #[]
  staticTypes := #[]
  resolved := Array.replicate 16 none
  statics := none }

def pool3 : Array CpInfo := pool [(1, u "java/lang/Cloneable"), (0, .class_ 1), (0, u "java/lang/Object"), (0, .class_ 3)] 3

/-- java/lang/Cloneable -/
def k3 : Class := { plain "java/lang/Cloneable" (some 0) with
  accessFlags := 1537
  interfaces := #[]
  cf := some (fileOf pool3 2 #[] #[] 1537 4 #[] #[])
  fields := #[]
  methods := #[]
  instanceTypes := #[]
  staticTypes := #[]
  resolved := Array.replicate 8 none
  statics := none }

def pool4 : Array CpInfo := pool [(1, u "java/io/Serializable"), (0, .class_ 1), (0, u "java/lang/Object"), (0, .class_ 3)] 3

/-- java/io/Serializable -/
def k4 : Class := { plain "java/io/Serializable" (some 0) with
  accessFlags := 1537
  interfaces := #[]
  cf := some (fileOf pool4 2 #[] #[] 1537 4 #[] #[])
  fields := #[]
  methods := #[]
  instanceTypes := #[]
  staticTypes := #[]
  resolved := Array.replicate 8 none
  statics := none }

/-- the primitive byte -/
def k5 : Class := { plain "byte" none with kind := .primitive 'B', accessFlags := 0x411 }
/-- [B -/
def k6 : Class := { plain "[B" (some 0) with kind := .array 5 .byte, interfaces := #[3, 4], accessFlags := 1041 }

/-- the primitive double -/
def k7 : Class := { plain "double" none with kind := .primitive 'D', accessFlags := 0x411 }
/-- [D -/
def k8 : Class := { plain "[D" (some 0) with kind := .array 7 .double, interfaces := #[3, 4], accessFlags := 1041 }

/-- the primitive int -/
def k9 : Class := { plain "int" none with kind := .primitive 'I', accessFlags := 0x411 }
/-- [I -/
def k10 : Class := { plain "[I" (some 0) with kind := .array 9 .int, interfaces := #[3, 4], accessFlags := 1041 }

def heap : Heap := #[]
def classes : Array Class := #[k0, k1, k2, k3, k4, k5, k6, k7, k8, k9, k10]
def interned : List (Array UInt16 × Addr) := []
def slotsUsed : Nat := 0
def theMethod : MethodId := ⟨1, 2⟩
def args0 : Array Value := #[.int 5, .int 3, .int 7, .int 2]
def aboutOver (below : List Frame) : State where
  vm := { classes := classes, interned := interned.toArray }
  heap := heap
  slotsUsed := slotsUsed
  threads := #[{ frames := .invoking theMethod args0 :: below }]
def below0 : List Frame := [.native { method := ⟨0, 0⟩, args := #[] }]
def about1 : State := aboutOver below0
def p0 : Program := .bare "" "" ""
def e0 : Env := launch0.env 0 0 0
theorem w_frames : about1.frames = Frame.invoking theMethod args0 :: below0 := rfl
set_option maxRecDepth 65536 in
theorem w_args : argsFit about1.vm theMethod args0 = true := by decide +kernel
set_option maxRecDepth 65536 in
theorem w_heap : heapFits about1 = true := by decide +kernel
set_option maxRecDepth 65536 in
theorem w_runnable : about1.curStatus? = some .runnable := by decide +kernel
set_option maxRecDepth 65536 in
theorem w_alone : about1.alone = true := by decide +kernel
set_option maxRecDepth 65536 in
theorem w_named : about1.methodNamed? x = some theMethod := by decide +kernel
set_option maxRecDepth 65536 in
theorem w_hears : about1.hears theMethod below0 = true := by decide +kernel
set_option maxRecDepth 65536 in
theorem w_ripe : about1.ripe theMethod args0 below0 = true := by decide +kernel
theorem w_running : about1.status = .running := rfl
set_option maxRecDepth 65536 in
theorem w_room : about1.hasRoom e0.platform room_1 = true :=
  launch0.hasRoom_least _ room_1 (by decide +kernel) (by decide +kernel) (by decide +kernel) (by decide +kernel) (by decide +kernel) (by decide +kernel)
theorem allAtoms_all (ts : List Jvm.Cond) (a : Array Jvm.Value) (st : Jvm.State) : (allAtoms ts).before a st = ts.all (fun c => c.before a st) := by
  induction ts with
  | nil => rfl
  | cons c t ih =>
    show (Jvm.Cond.and c (allAtoms t)).before a st = _
    rw [Jvm.Cond.before_and, ih, List.all_cons]
def words1 : List Jvm.Cond := Jvm.Cond.code x code maxLocals ret :: tables_1
/-- a 'code' word, met by the world's own term for the bytes: nothing is compared byte by byte -/
theorem code_word {y : MethodName} {bytes : ByteArray} {mx : Nat} {rt : Option FieldType} {a : Array Value} {s : State} {m : MethodId} {meth : Method} {c : Code} (h1 : s.methodNamed? y = some m) (h2 : s.vm.method? m = some meth) (h3 : meth.code = some c) (h4 : c.code = bytes)
    (h5 : (c.maxLocals == mx && c.exceptionTable.isEmpty && decide (c.maxStack ≤ mostOperands) && decide (meth.sig.returnType = rt) && !meth.locks && decide (parseMethodDescriptor y.desc = some meth.sig)) = true) : (Jvm.Cond.code y bytes mx rt).before a s = true := by
  simp only [Bool.and_eq_true, beq_iff_eq, Bool.not_eq_true', decide_eq_true_eq] at h5
  obtain ⟨⟨⟨⟨⟨g1, g2⟩, g3⟩, g4⟩, g5⟩, g6⟩ := h5
  simp [Cond.before, Cond.holds, Cond.value, h1, h2, h3, h4, g1, g2, g3, g4, g5, g6]
def isCode : Jvm.Cond → Bool
  | .code _ _ _ _ => true
  | _ => false
theorem all_split {L : List Jvm.Cond} {P : Jvm.Cond → Bool} (h1 : L.all (fun c => isCode c || P c) = true) (h2 : ∀ c ∈ L.filter isCode, P c = true) : L.all P = true := by
  refine List.all_eq_true.mpr fun c hc => ?_
  have h := List.all_eq_true.mp h1 c hc
  rcases Bool.eq_false_or_eq_true (isCode c) with hi | hi
  · exact h2 c (List.mem_filter.mpr ⟨hc, hi⟩)
  · simpa [hi] using h
set_option maxRecDepth 65536 in
theorem w_c0 : (Jvm.Cond.code x code maxLocals ret).before args0 about1 = true := code_word (m := ⟨1, 2⟩) (meth := k1m2) (c := k1c2) (by decide +kernel) rfl rfl rfl (by decide +kernel)
set_option maxRecDepth 65536 in
theorem w_c1 : (Jvm.Cond.code ({ cls := "com/example/graded_queue/gradedqueue/sim/CumulativeFirstAbovePinLaw", name := "le", desc := "(ZID)I" } : Jvm.MethodName) method_2_code (4 : Nat) (Option.some Jvm.ClassFile.FieldType.int)).before args0 about1 = true := code_word (m := ⟨1, 1⟩) (meth := k1m1) (c := k1c1) (by decide +kernel) rfl rfl rfl (by decide +kernel)
set_option maxRecDepth 65536 in
theorem w_c2 : (Jvm.Cond.code ({ cls := "com/example/graded_queue/gradedqueue/sim/Cumulative", name := "firstAbove", desc := "([DD)I" } : Jvm.MethodName) prog_56_method_2_code (6 : Nat) (Option.some Jvm.ClassFile.FieldType.int)).before args0 about1 = true := code_word (m := ⟨2, 1⟩) (meth := k2m1) (c := k2c1) (by decide +kernel) rfl rfl rfl (by decide +kernel)
def codes1 : List Jvm.Cond := [Jvm.Cond.code x code maxLocals ret, Jvm.Cond.code ({ cls := "com/example/graded_queue/gradedqueue/sim/CumulativeFirstAbovePinLaw", name := "le", desc := "(ZID)I" } : Jvm.MethodName) method_2_code (4 : Nat) (Option.some Jvm.ClassFile.FieldType.int), Jvm.Cond.code ({ cls := "com/example/graded_queue/gradedqueue/sim/Cumulative", name := "firstAbove", desc := "([DD)I" } : Jvm.MethodName) prog_56_method_2_code (6 : Nat) (Option.some Jvm.ClassFile.FieldType.int)]
set_option maxRecDepth 65536 in
theorem codes_eq : words1.filter isCode = codes1 := rfl
theorem w_codes : ∀ c ∈ words1.filter isCode, c.before args0 about1 = true := by
  rw [codes_eq]
  intro c hc
  simp only [codes1, List.mem_cons, List.not_mem_nil, or_false] at hc
  rcases hc with rfl | rfl | rfl
  · exact w_c0
  · exact w_c1
  · exact w_c2
set_option maxRecDepth 65536 in
theorem w_t1 : words1.all (fun c => isCode c || c.before args0 about1) = true := by decide +kernel
theorem w_tables : (allAtoms (Jvm.Cond.code x code maxLocals ret :: tables_1)).before args0 about1 = true := by
  rw [allAtoms_all]
  show words1.all (fun c => c.before args0 about1) = true
  refine all_split ?_ w_codes
  rw [w_t1]
set_option maxRecDepth 65536 in
theorem w_case : (Jvm.Cond.and given_1 narrow_1).before args0 about1 = true := by decide +kernel
theorem w_applies : (headSpec (Jvm.Cond.code x code maxLocals ret :: tables_1) room_1).applies x e0.platform about1 = true :=
  (Spec.applies_iff w_frames).mpr ⟨w_running, w_runnable, w_alone, w_named, w_hears, w_ripe, w_room, w_tables⟩
theorem atStart : AtStart classFile x code maxLocals ret World_1 tables_1 room_1 Calls_1 rest_1 Pre_1 launch0 p0 e0 about1 theMethod args0 below0 :=
  ⟨lists_1, trivial, launch0.admits_env _ _ _, launch0.least_env, fairChoices_fair.cas, fairChoices_fair.clock, w_frames, w_args, w_heap, w_applies, trivial, trivial, w_case⟩
end start1
theorem witness_1 : WitnessClaimed_1 := ⟨start1.p0, start1.e0, start1.about1, start1.theMethod, start1.args0, start1.below0, start1.atStart⟩
end Jvm.Pilot.@@N@@
