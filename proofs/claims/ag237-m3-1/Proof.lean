import JvmDerived
import JvmDerived.Pilot.@@N@@Statement
import JvmDerived.Pilot.@@N@@Code
set_option linter.unusedVariables false
set_option linter.unusedSimpArgs false
namespace Jvm.Pilot.@@N@@
open Jvm Jvm.ClassFile Sem Op Lib Jvm.Free Jvm.Stand Jvm.LawKit Jvm.RoadKit Bundle Jvm.Pilot.@@N@@.Jvm.D
/-! own words: where a body stands (own_C), how it ends (own_Ends), one step ahead of that (own_step), the returns -/
def own_C (cls : String) (code : ByteArray) (ml : Nat) (rt : Option FieldType) (nm : String) (p : Program) (s : State) (m : MethodId) (meth : Method) (c : Code) (Z : State) (a0 : Array Value) : Prop :=
  p.tables.exec = Jvm.exec ∧ Z.Warmed39 s.vm ∧ (∀ d ∈ tables_1, d.before a0 Z = true) ∧ c.code = code ∧ c.maxLocals = ml ∧ s.vm.findClass cls = some m.cls ∧ meth.sig.returnType = rt ∧ meth.locks = false ∧ meth.name = nm
def own_Q (n0 : Nat) (h0 : Heap) (w : Option Value) (v : Option Value) (h : Heap) (L : List Loc) : Prop := v = w ∧ Fr n0 L ∧ h = h0
def own_QL (n0 : Nat) (w : Option Value) (v : Option Value) (h : Heap) (L : List Loc) : Prop := v = w ∧ Fr n0 L ∧ True
def own_QR (n0 : Nat) (h0 : Heap) (v : Option Value) (h : Heap) (L : List Loc) : Prop := ∃ b : Addr, v = some (.ref b) ∧ Fr n0 L ∧ Keep h0 h []
def own_Ends (p : Program) (e : Env) (below : List Frame) (s : State) (kc ks : Nat) (Q : Option Value → Heap → List Loc → Prop) (T : State) (g : JFrame) : Prop :=
  ∃ s₂ o, Steps p.tables e below (T.setTop g) s₂ ∧ s₂.status = .running ∧ Ended s₂ below o ∧ ∃ v L, o = .returned v ∧ Q v s₂.heap L ∧ FrameEnd s o s₂ L kc ks
theorem own_step {p : Program} {e : Env} {below : List Frame} {s : State} {kc ks : Nat} {Q : Option Value → Heap → List Loc → Prop} {T T' : State} {g g' : JFrame}
    (st : ∀ target, Steps p.tables e below (T'.setTop g') target → Steps p.tables e below (T.setTop g) target) (h : own_Ends p e below s kc ks Q T' g') : own_Ends p e below s kc ks Q T g := by
  obtain ⟨s₂, o, h1, r⟩ := h
  exact ⟨s₂, o, st _ h1, r⟩
theorem own_mono {p : Program} {e : Env} {below : List Frame} {s : State} {kc ks : Nat} {Q Q' : Option Value → Heap → List Loc → Prop} {T : State} {g : JFrame} (h : own_Ends p e below s kc ks Q T g) (hq : ∀ v h L, Q v h L → Q' v h L) : own_Ends p e below s kc ks Q' T g := by
  obtain ⟨s₂, o, h1, h2, h3, v, L, h4, h5, h6⟩ := h
  exact ⟨s₂, o, h1, h2, h3, v, L, h4, hq _ _ _ h5, h6⟩
theorem own_nn {v : Value} (h : v.isRef = true) (q : ¬ v = .null) : ∃ y, v = .ref y := (ref_cases h).resolve_left q
theorem own_eqR {Z : State} {args : Array Value} {X F : Term} {idx : List Nat} {y : Addr} (hF : F.eval args Z none idx Z = some (.ref y)) (h : (Cond.eq X F).value args Z none Z idx = some true) : X.eval args Z none idx Z = some (.ref y) := by
  obtain ⟨x, y', e1, e2, k1, k2⟩ := cmp_v (Or.inl h)
  cases hF.symm.trans e2
  have hx : x.isRef = true := k2.2
  have := gotT (eq_R e1 hF hx rfl) h
  exact e1.trans (congrArg some this)
theorem own_lmod (x y : Int64) : x - (x / y) * y = x % y := by
  apply Int64.toInt_inj.mp
  have h1 := Int64.le_toInt (x % y)
  have h2 := Int64.toInt_lt (x % y)
  rw [Int64.toInt_sub, Int64.toInt_mul, Int64.toInt_div, Int.bmod_mul_bmod, Int.sub_bmod_bmod, Int.mul_comm (x.toInt.tdiv y.toInt), ← Int.tmod_def, ← Int64.toInt_mod]
  exact Int.bmod_eq_of_le_mul_two (by omega) (by omega)
theorem own_lremM {p : Program} {l : Launch} {e : Env} {R : Room} {s : State} {m : MethodId} {args : Array Value} {below : List Frame} {meth : Method} {c : Code} {T target : State} {locs : List Loc} {cells slots : Nat} {g : JFrame} (X : Stand p l e R s m args below meth c T locs cells slots) (hx : p.tables.exec = Jvm.exec) (hg : g.method = m) {x y : Int64} {rest : List Value} (hd : decode c.code g.pc = .ok (.lrem, 1)) (hs : g.stack = .long y :: .long x :: rest) (hy : y ≠ 0)
    (hr : Steps p.tables e below (T.setTop { g with pc := g.pc + 1, stack := .long (x % y) :: rest }) target) : Steps p.tables e below (T.setTop g) target :=
  XS.lrem X.here hx hg hd hs hy (by rw [own_lmod]; exact hr)
section OwnRet
variable {p : Program} {l : Launch} {e : Env} {R : Room} {s : State} {m : MethodId} {args : Array Value} {below : List Frame} {meth : Method} {c : Code} {T : State} {locs : List Loc} {cells slots : Nat} {kc ks : Nat} {Q : Option Value → Heap → List Loc → Prop}
theorem own_retO (X : Stand p l e R s m args below meth c T locs cells slots) (hx : p.tables.exec = Jvm.exec) {t : FieldType} (hret : meth.sig.returnType = some t) (hlk : meth.locks = false) {pc : Nat} {Ls : Array Slot} {w : Value} {i : Instr} {rest : List Value} (hn : narrow t w = w)
    (hi : (i = .ireturn ∧ (t = .int ∨ t = .boolean ∨ t = .byte ∨ t = .char ∨ t = .short) ∧ ∃ z, w = .int z) ∨ (i = .lreturn ∧ t = .long ∧ ∃ z, w = .long z) ∨ (i = .dreturn ∧ t = .double ∧ ∃ z, w = .double z) ∨ (i = .freturn ∧ t = .float ∧ ∃ z, w = .float z) ∨ (i = .areturn ∧ t.isReference = true ∧ w.isRef = true))
    (hd : decode c.code pc = .ok (i, 1)) (hc : cells ≤ kc) (hs : slots ≤ ks) (hQ : Q (some w) T.heap locs) : own_Ends p e below s kc ks Q T (mkF m pc Ls (w :: rest)) := by
  obtain ⟨fs, hr, hrun, hended, hW, hsame⟩ := X.leave (v := some w) (fun h => by rw [hret] at h; cases h) hlk
  exact ⟨_, _, retOut X hx hret hn hi hd hr, hrun, hended, _, _, rfl, hQ, ⟨_, rfl⟩, hW, hsame.mono hc hs⟩
theorem own_retI (X : Stand p l e R s m args below meth c T locs cells slots) (hx : p.tables.exec = Jvm.exec) (hret : meth.sig.returnType = some .int) (hlk : meth.locks = false) {pc : Nat} {Ls : Array Slot} {z : Int32} {rest : List Value}
    (hd : decode c.code pc = .ok (.ireturn, 1)) (hc : cells ≤ kc) (hs : slots ≤ ks) (hQ : Q (some (.int z)) T.heap locs) : own_Ends p e below s kc ks Q T (mkF m pc Ls (.int z :: rest)) :=
  own_retO X hx hret hlk rfl (Or.inl ⟨rfl, Or.inl rfl, z, rfl⟩) hd hc hs hQ
theorem own_retJ (X : Stand p l e R s m args below meth c T locs cells slots) (hx : p.tables.exec = Jvm.exec) (hret : meth.sig.returnType = some .long) (hlk : meth.locks = false) {pc : Nat} {Ls : Array Slot} {z : Int64} {rest : List Value}
    (hd : decode c.code pc = .ok (.lreturn, 1)) (hc : cells ≤ kc) (hs : slots ≤ ks) (hQ : Q (some (.long z)) T.heap locs) : own_Ends p e below s kc ks Q T (mkF m pc Ls (.long z :: rest)) :=
  own_retO X hx hret hlk rfl (Or.inr (Or.inl ⟨rfl, rfl, z, rfl⟩)) hd hc hs hQ
theorem own_retR (X : Stand p l e R s m args below meth c T locs cells slots) (hx : p.tables.exec = Jvm.exec) {t : FieldType} (hret : meth.sig.returnType = some t) (hlk : meth.locks = false) {pc : Nat} {Ls : Array Slot} {w : Value} {rest : List Value}
    (hd : decode c.code pc = .ok (.areturn, 1)) (hc : cells ≤ kc) (hs : slots ≤ ks) (ht : t.isReference = true) (hw : w.isRef = true) (hQ : Q (some w) T.heap locs) : own_Ends p e below s kc ks Q T (mkF m pc Ls (w :: rest)) :=
  own_retO X hx hret hlk (by cases t <;> first | rfl | cases ht) (Or.inr (Or.inr (Or.inr (Or.inr ⟨rfl, ht, hw⟩)))) hd hc hs hQ
theorem own_retN (X : Stand p l e R s m args below meth c T locs cells slots) {t : FieldType} (hx : p.tables.exec = Jvm.exec) (hret : meth.sig.returnType = some t) (hlk : meth.locks = false) {pc : Nat} {Ls : Array Slot} {z : Int32} {rest : List Value}
    (hd : decode c.code pc = .ok (.ireturn, 1)) (hc : cells ≤ kc) (hs : slots ≤ ks) (ht : t = .boolean ∨ t = .byte ∨ t = .char ∨ t = .short) (hQ : Q (some (.int (nar t z))) T.heap locs) : own_Ends p e below s kc ks Q T (mkF m pc Ls (.int z :: rest)) := by
  obtain ⟨fs, hr, hrun, hended, hW, hsame⟩ := X.leave (v := some (.int (nar t z))) (fun h => by rw [hret] at h; cases h) hlk
  exact ⟨_, _, retN X hx hret ht hd hr, hrun, hended, _, _, rfl, hQ, ⟨_, rfl⟩, hW, hsame.mono hc hs⟩
theorem own_retV (X : Stand p l e R s m args below meth c T locs cells slots) (hx : p.tables.exec = Jvm.exec) (hret : meth.sig.returnType = none) (hlk : meth.locks = false) {pc : Nat} {Ls : Array Slot}
    (hd : decode c.code pc = .ok (.return_, 1)) (hc : cells ≤ kc) (hs : slots ≤ ks) (hQ : Q none T.heap locs) : own_Ends p e below s kc ks Q T (mkF m pc Ls []) := by
  obtain ⟨fs, hr, hrun, hended, hW, hsame⟩ := X.leave (v := none) (fun _ => rfl) hlk
  exact ⟨_, _, X.returnOut hx hret hd hr, hrun, hended, _, _, rfl, hQ, ⟨_, rfl⟩, hW, hsame.mono hc hs⟩
end OwnRet
/-! the same for a body that may load String constants (the wide frame) -/
def own_EndsW (p : Program) (e : Env) (below : List Frame) (s : State) (kc ks : Nat) (Q : Option Value → Heap → List Loc → Prop) (T : State) (g : JFrame) : Prop :=
  ∃ s₂ o, Steps p.tables e below (T.setTop g) s₂ ∧ s₂.status = .running ∧ Ended s₂ below o ∧ ∃ v L, o = .returned v ∧ Q v s₂.heap L ∧ ReturnedEndW s o s₂ L kc ks
theorem own_stepW {p : Program} {e : Env} {below : List Frame} {s : State} {kc ks : Nat} {Q : Option Value → Heap → List Loc → Prop} {T T' : State} {g g' : JFrame}
    (st : ∀ target, Steps p.tables e below (T'.setTop g') target → Steps p.tables e below (T.setTop g) target) (h : own_EndsW p e below s kc ks Q T' g') : own_EndsW p e below s kc ks Q T g := by
  obtain ⟨s₂, o, h1, r⟩ := h
  exact ⟨s₂, o, st _ h1, r⟩
section OwnRetW
variable {p : Program} {l : Launch} {e : Env} {R : Room} {s : State} {vm0 : Vm} {k0 : Nat} {m : MethodId} {args : Array Value} {below : List Frame} {meth : Method} {c : Code} {T : State} {locs : List Loc} {cells slots : Nat} {kc ks : Nat} {Q : Option Value → Heap → List Loc → Prop}
theorem own_retOW (X : Stand p l e R (s.setVm vm0) m args below meth c T locs cells slots) (hS : s.Since vm0 k0) (hk : k0 ≤ T.heap.size) (hx : p.tables.exec = Jvm.exec) {t : FieldType} (hret : meth.sig.returnType = some t) (hlk : meth.locks = false) {pc : Nat} {Ls : Array Slot} {w : Value} {i : Instr} {rest : List Value} (hn : narrow t w = w)
    (hi : (i = .ireturn ∧ (t = .int ∨ t = .boolean ∨ t = .byte ∨ t = .char ∨ t = .short) ∧ ∃ z, w = .int z) ∨ (i = .lreturn ∧ t = .long ∧ ∃ z, w = .long z) ∨ (i = .dreturn ∧ t = .double ∧ ∃ z, w = .double z) ∨ (i = .freturn ∧ t = .float ∧ ∃ z, w = .float z) ∨ (i = .areturn ∧ t.isReference = true ∧ w.isRef = true))
    (hd : decode c.code pc = .ok (i, 1)) (hc : cells ≤ kc) (hs : slots ≤ ks) (hQ : Q (some w) T.heap locs) : own_EndsW p e below s kc ks Q T (mkF m pc Ls (w :: rest)) := by
  obtain ⟨fs, hr, hrun, hended, e1, e2, e3, e4⟩ := X.leaveW hS hk (v := some w) (fun h => by rw [hret] at h; cases h) hlk
  exact ⟨_, _, retOut X hx hret hn hi hd hr, hrun, hended, _, _, rfl, hQ, e1, e2, e3, e4.mono hc hs⟩
theorem own_retRW (X : Stand p l e R (s.setVm vm0) m args below meth c T locs cells slots) (hS : s.Since vm0 k0) (hk : k0 ≤ T.heap.size) (hx : p.tables.exec = Jvm.exec) {t : FieldType} (hret : meth.sig.returnType = some t) (hlk : meth.locks = false) {pc : Nat} {Ls : Array Slot} {w : Value} {rest : List Value}
    (hd : decode c.code pc = .ok (.areturn, 1)) (hc : cells ≤ kc) (hs : slots ≤ ks) (ht : t.isReference = true) (hw : w.isRef = true) (hQ : Q (some w) T.heap locs) : own_EndsW p e below s kc ks Q T (mkF m pc Ls (w :: rest)) :=
  own_retOW X hS hk hx hret hlk (by cases t <;> first | rfl | cases ht) (Or.inr (Or.inr (Or.inr (Or.inr ⟨rfl, ht, hw⟩)))) hd hc hs hQ
theorem own_retNW (X : Stand p l e R (s.setVm vm0) m args below meth c T locs cells slots) (hS : s.Since vm0 k0) (hk : k0 ≤ T.heap.size) {t : FieldType} (hx : p.tables.exec = Jvm.exec) (hret : meth.sig.returnType = some t) (hlk : meth.locks = false) {pc : Nat} {Ls : Array Slot} {z : Int32} {rest : List Value}
    (hd : decode c.code pc = .ok (.ireturn, 1)) (hc : cells ≤ kc) (hs : slots ≤ ks) (ht : t = .boolean ∨ t = .byte ∨ t = .char ∨ t = .short) (hQ : Q (some (.int (nar t z))) T.heap locs) : own_EndsW p e below s kc ks Q T (mkF m pc Ls (.int z :: rest)) := by
  obtain ⟨fs, hr, hrun, hended, e1, e2, e3, e4⟩ := X.leaveW hS hk (v := some (.int (nar t z))) (fun h => by rw [hret] at h; cases h) hlk
  exact ⟨_, _, retN X hx hret ht hd hr, hrun, hended, _, _, rfl, hQ, e1, e2, e3, e4.mono hc hs⟩
end OwnRetW

theorem own_mask31 (x : Int32) : 0 ≤ (x &&& (2147483647 : Int32)).toInt ∧ (x &&& (2147483647 : Int32)).toInt < 2147483648 := by
  have h1 : (x &&& (2147483647 : Int32)).toBitVec.toNat = x.toBitVec.toNat % 2 ^ 31 := by
    show (x.toBitVec &&& (2147483647 : Int32).toBitVec).toNat = _
    rw [BitVec.toNat_and, show (2147483647 : Int32).toBitVec.toNat = 2 ^ 31 - 1 from by decide, Nat.and_two_pow_sub_one_eq_mod]
  have h3 : x.toBitVec.toNat % 2 ^ 31 < 2 ^ 31 := Nat.mod_lt _ (Nat.two_pow_pos 31)
  show 0 ≤ (x &&& (2147483647 : Int32)).toBitVec.toInt ∧ (x &&& (2147483647 : Int32)).toBitVec.toInt < 2147483648
  rw [BitVec.toInt_eq_toNat_cond, h1, if_pos (by omega)]
  constructor <;> omega
theorem own_max (y : Int32) : ((1 : Int32) + ((y &&& (2147483647 : Int32)) % (2147483647 : Int32))).toInt = 1 + (y &&& (2147483647 : Int32)).toInt % 2147483647 ∧ 1 ≤ ((1 : Int32) + ((y &&& (2147483647 : Int32)) % (2147483647 : Int32))).toInt := by
  have h := own_mask31 y
  have e1 : (1 : Int32).toInt = 1 := rfl
  have e2 : (2147483647 : Int32).toInt = 2147483647 := rfl
  have hm : ((y &&& (2147483647 : Int32)) % (2147483647 : Int32)).toInt = (y &&& (2147483647 : Int32)).toInt % 2147483647 := by rw [Int32.toInt_mod, Int.tmod_eq_emod_of_nonneg h.1, e2]
  have h0 := Int.emod_nonneg (y &&& (2147483647 : Int32)).toInt (show (2147483647 : Int) ≠ 0 by decide)
  have h1 := Int.emod_lt_of_pos (y &&& (2147483647 : Int32)).toInt (show (0 : Int) < 2147483647 by decide)
  have ha : ((1 : Int32) + ((y &&& (2147483647 : Int32)) % (2147483647 : Int32))).toInt = 1 + (y &&& (2147483647 : Int32)).toInt % 2147483647 := by
    rw [Int32.toInt_add, hm, e1]; exact Int.bmod_eq_of_le (by simp; omega) (by simp; omega)
  omega
theorem own_mx (y : Int32) : ((1 : Int32) + ((y &&& (2147483647 : Int32)) % (2147483647 : Int32))) ≠ 0 := fun q => by
  have h := (own_max y).2
  rw [q] at h; exact absurd h (by decide)
theorem own_k1 (y : Int32) : ¬ (1 : Int32) < 1 ∧ ¬ ((1 : Int32) + ((y &&& (2147483647 : Int32)) % (2147483647 : Int32))) < (1 : Int32) := by
  have h := (own_max y).2
  have e1 : (1 : Int32).toInt = 1 := rfl
  refine ⟨by decide, ?_⟩
  rw [Int32.lt_iff_toInt_lt]; omega
theorem own_k2 (y : Int32) : ¬ ((1 : Int32) + ((y &&& (2147483647 : Int32)) % (2147483647 : Int32))) < 1 ∧ ¬ ((1 : Int32) + ((y &&& (2147483647 : Int32)) % (2147483647 : Int32))) < ((1 : Int32) + ((y &&& (2147483647 : Int32)) % (2147483647 : Int32))) := by
  have h := (own_max y).2
  have e1 : (1 : Int32).toInt = 1 := rfl
  rw [Int32.lt_iff_toInt_lt, Int32.lt_iff_toInt_lt]; omega
theorem own_k3 (x y : Int32) : ¬ ((1 : Int32) + ((x &&& (2147483647 : Int32)) % ((1 : Int32) + ((y &&& (2147483647 : Int32)) % (2147483647 : Int32))))) < 1 ∧ ¬ ((1 : Int32) + ((y &&& (2147483647 : Int32)) % (2147483647 : Int32))) < ((1 : Int32) + ((x &&& (2147483647 : Int32)) % ((1 : Int32) + ((y &&& (2147483647 : Int32)) % (2147483647 : Int32))))) := by
  have h := (own_max y).2
  generalize ((1 : Int32) + ((y &&& (2147483647 : Int32)) % (2147483647 : Int32))) = M at *
  have hx := own_mask31 x
  have hM := M.toInt_lt
  have e1 : (1 : Int32).toInt = 1 := rfl
  have hm : ((x &&& (2147483647 : Int32)) % M).toInt = (x &&& (2147483647 : Int32)).toInt % M.toInt := by rw [Int32.toInt_mod, Int.tmod_eq_emod_of_nonneg hx.1]
  have h0 := Int.emod_nonneg (x &&& (2147483647 : Int32)).toInt (show M.toInt ≠ 0 by omega)
  have h1 := Int.emod_lt_of_pos (x &&& (2147483647 : Int32)).toInt (show (0 : Int) < M.toInt by omega)
  have ha : ((1 : Int32) + ((x &&& (2147483647 : Int32)) % M)).toInt = 1 + (x &&& (2147483647 : Int32)).toInt % M.toInt := by
    rw [Int32.toInt_add, hm, e1]; exact Int.bmod_eq_of_le (by simp; omega) (by simp; omega)
  rw [Int32.lt_iff_toInt_lt, Int32.lt_iff_toInt_lt, ha]; omega
theorem own_chr8 (x : Int32) : ¬ (255 : Int32) < ((x &&& (255 : Int32)).toUInt32.toUInt16.toUInt32.toInt32) := by
  rw [i2c_mask]
  have h1 : (x &&& (255 : Int32)).toBitVec.toNat = x.toBitVec.toNat % 2 ^ 8 := by
    show (x.toBitVec &&& (255 : Int32).toBitVec).toNat = _
    rw [BitVec.toNat_and, show (255 : Int32).toBitVec.toNat = 2 ^ 8 - 1 from by decide, Nat.and_two_pow_sub_one_eq_mod]
  have h3 : x.toBitVec.toNat % 2 ^ 8 < 2 ^ 8 := Nat.mod_lt _ (Nat.two_pow_pos 8)
  rw [Int32.lt_iff_toInt_lt]
  show ¬ (255 : Int32).toInt < (x &&& (255 : Int32)).toBitVec.toInt
  rw [BitVec.toInt_eq_toNat_cond, h1, if_pos (by omega), show (255 : Int32).toInt = 255 from rfl]; omega
theorem own_compact {s : State} {args : Array Value} (hS : ∀ d ∈ jdkStatics_1, d.before args s = true) : ∃ cs : Int32, Sta s s.heap "java/lang/String" "COMPACT_STRINGS" "Z" (.int cs) ∧ ¬ cs = 0 := by
  have h1 := Cond.before_iff.mp (hS _ (List.mem_of_getElem? (i := 1) rfl))
  have h2 := Cond.before_iff.mp (hS _ (List.mem_of_getElem? (i := 2) rfl))
  obtain ⟨cs, ec⟩ := is_v h1
  exact ⟨cs, Sta.start ec (Or.inl (hS _ (List.mem_of_getElem? (i := 0) rfl))), gotF (Cond.eq_ints ec (Term.int_eval 0)) (not_v h2)⟩

theorem pn_0 : plainName "java/lang/StringLatin1" = true := by first | (simp [plainName, overriddenIn]; done) | decide +kernel
theorem pn_1 : plainName "java/lang/String" = true := by first | (simp [plainName, overriddenIn]; done) | decide +kernel
theorem pd_0 : parseMethodDescriptor "(C)Z" = some ⟨[.char], some .boolean⟩ := by decide +kernel
theorem pd_1 : parseMethodDescriptor "(C)[B" = some ⟨[.char], some (.array .byte)⟩ := by decide +kernel
theorem pd_2 : parseMethodDescriptor "([BB)V" = some ⟨[(.array .byte), .byte], none⟩ := by decide +kernel
theorem pn_2 : plainName "com/example/tideshift/tideshift/RunOptions" = true := by first | (simp [plainName, overriddenIn]; done) | decide +kernel
theorem pd_3 : parseMethodDescriptor "(C)Ljava/lang/String;" = some ⟨[.char], some (.object "java/lang/String")⟩ := by decide +kernel
theorem pd_4 : parseMethodDescriptor "(Ljava/lang/String;II)I" = some ⟨[(.object "java/lang/String"), .int, .int], some .int⟩ := by decide +kernel
theorem pn_3 : plainName "com/example/tideshift/tideshift/RunOptionsCheckCountPinLaw" = true := by first | (simp [plainName, overriddenIn]; done) | decide +kernel
theorem d2_0 : decode jdk_43_method_3_code 0 = .ok (.iload_n 0, 1) := by decide +kernel
theorem d2_1 : decode jdk_43_method_3_code 1 = .ok (.sipush 255, 3) := by decide +kernel
theorem d2_4 : decode jdk_43_method_3_code 4 = .ok (.if_icmp .gt 7, 3) := by decide +kernel
theorem d2_7 : decode jdk_43_method_3_code 7 = .ok (.iconst 1, 1) := by decide +kernel
theorem d2_8 : decode jdk_43_method_3_code 8 = .ok (.goto 4, 3) := by decide +kernel
theorem d2_11 : decode jdk_43_method_3_code 11 = .ok (.iconst 0, 1) := by decide +kernel
theorem d2_12 : decode jdk_43_method_3_code 12 = .ok (.ireturn, 1) := by decide +kernel
def f2_0 (i0 : Int32) : Int32 := (if (255 : Int32) < i0 then (0 : Int32) else (1 : Int32))
set_option maxRecDepth 65536 in
set_option maxHeartbeats 40000000 in
theorem b2_0 {p : Program} {l : Launch} {e : Env} {s : State} {m : MethodId} {args : Array Value} {below : List Frame} {meth : Method} {c : Code} {Z : State} {a0 : Array Value} {h0 : Heap} {n0 : Nat} (C : own_C "java/lang/StringLatin1" jdk_43_method_3_code 1 (some .boolean) "canEncode" p s m meth c Z a0) (Z0 : n0 ≤ h0.size) {T0 : State} {locs : List Loc} (X0 : Stand p l e ({ frames := 0, cells := 0, slots := 0, locals := 0 } : Room) s m args below meth c T0 locs 0 0) (e0 : T0.heap = h0) (N0 : Fr n0 locs) (i0 : Int32) (W : Int32) (hv : W = f2_0 i0) :
    own_Ends p e below s ({ frames := 0, cells := 0, slots := 0, locals := 0 } : Room).cells ({ frames := 0, cells := 0, slots := 0, locals := 0 } : Room).slots (own_Q n0 h0 (some (.int W))) T0 (mkF m 0 #[.val (.int i0)] []) := by
  obtain ⟨hx, hZ, hw, hby, hml, hown, hret, hlk, hnm⟩ := C
  have C : own_C "java/lang/StringLatin1" jdk_43_method_3_code 1 (some .boolean) "canEncode" p s m meth c Z a0 := ⟨hx, hZ, hw, hby, hml, hown, hret, hlk, hnm⟩
  unfold f2_0 at hv
  refine own_step (fun _ => XS.iloadN X0.here hx rfl (hb hby d2_0) rfl) ?_
  show own_Ends p e below s _ _ _ T0 (mkF m 1 #[.val (.int i0)] [(.int i0)])
  refine own_step (fun _ => XS.sipush X0.here hx rfl (hb hby d2_1)) ?_
  show own_Ends p e below s _ _ _ T0 (mkF m 4 #[.val (.int i0)] [(.int (255 : Int32)), (.int i0)])
  by_cases hc4 : (255 : Int32) < i0
  · have hv_t := hv.trans (if_pos hc4)
    refine own_step (fun _ => XS.icmpYes X0.here hx rfl (pc0 := 4) (pc' := 11) rfl (hb hby d2_4) rfl (tlt hc4).2.2.1 (by decide) (by decide)) ?_
    show own_Ends p e below s _ _ _ T0 (mkF m 11 #[.val (.int i0)] [])
    refine own_step (fun _ => XS.iconst X0.here hx rfl (hb hby d2_11)) ?_
    show own_Ends p e below s _ _ _ T0 (mkF m 12 #[.val (.int i0)] [(.int (0 : Int32))])
    exact own_retN X0 (t := .boolean) hx hret hlk (hb hby d2_12) (by decide) (by decide) (by simp) ⟨congrArg (fun z => some (Value.int z)) hv_t.symm, N0, e0⟩
  · have hv_f := hv.trans (if_neg hc4)
    refine own_step (fun _ => XS.icmpNo X0.here hx rfl (hb hby d2_4) rfl (flt hc4).2.2.1) ?_
    show own_Ends p e below s _ _ _ T0 (mkF m 7 #[.val (.int i0)] [])
    refine own_step (fun _ => XS.iconst X0.here hx rfl (hb hby d2_7)) ?_
    show own_Ends p e below s _ _ _ T0 (mkF m 8 #[.val (.int i0)] [(.int (1 : Int32))])
    refine own_step (fun _ => XS.goto X0.here hx rfl (pc0 := 8) (pc' := 12) rfl (hb hby d2_8) (by decide) (by decide)) ?_
    show own_Ends p e below s _ _ _ T0 (mkF m 12 #[.val (.int i0)] [(.int (1 : Int32))])
    exact own_retN X0 (t := .boolean) hx hret hlk (hb hby d2_12) (by decide) (by decide) (by simp) ⟨congrArg (fun z => some (Value.int z)) hv_f.symm, N0, e0⟩
theorem ef_rm2 (m : MethodId) (i0 : Int32) : entryFrame m #[(.int i0)] 1 = mkF m 0 #[.val (.int i0)] [] := by first | (simp [entryFrame, mkF, argsToLocals, Value.category]; done) | rfl
set_option maxRecDepth 65536 in
set_option maxHeartbeats 40000000 in
theorem rm2 (l : Launch) (Z : State) (a0 : Array Value) (hw : ∀ d ∈ tables_1, d.before a0 Z = true) (ws : List Jvm.Cond) (i0 : Int32) (h0 : Heap) (n0 : Nat) (Z0 : n0 ≤ h0.size) :
    MetFree l (⟨"java/lang/StringLatin1", "canEncode", "(C)Z"⟩ : MethodName) (head1 (Jvm.Cond.code (⟨"java/lang/StringLatin1", "canEncode", "(C)Z"⟩ : MethodName) jdk_43_method_3_code 1 (some .boolean) :: ws) ({ frames := 0, cells := 0, slots := 0, locals := 0 } : Room)) (fun a U => a = #[(.int i0)] ∧ Z.Warmed39 U.vm ∧ U.heap = h0) (fun _ _ _ _ _ => True) (fun _ U o U' => ∃ v L, o = .returned v ∧ (own_Q n0 h0 (some (.int (f2_0 i0)))) v U'.heap L ∧ FrameEnd U o U' L ({ frames := 0, cells := 0, slots := 0, locals := 0 } : Room).cells ({ frames := 0, cells := 0, slots := 0, locals := 0 } : Room).slots) := by
  refine MetFree.of_bodySF (plainFor_of_name pn_0) hisR ?_
  intro p e s m args below meth c s₁ Bd hml0 hP hK
  obtain ⟨rfl, hZ, hh⟩ := hP
  have X0 : Stand p l e ({ frames := 0, cells := 0, slots := 0, locals := 0 } : Room) s m #[(.int i0)] below meth c s₁ [] 0 0 := Stand.of_body Bd
  have e0 : s₁.heap = h0 := by rw [← hh, Bd.state]; rfl
  have C : own_C "java/lang/StringLatin1" jdk_43_method_3_code 1 (some .boolean) "canEncode" p s m meth c Z a0 := ⟨Bd.exec, hZ, hw, Bd.bytes, hml0, findClass_of_methodNamed Bd.named, Bd.returns, Bd.notSynchronized, (name_of_methodNamed Bd.named Bd.method).1⟩
  have r := b2_0 C Z0 X0 e0 (Fr.nil n0) i0 _ rfl
  rw [ef_rm2 m i0]
  exact r
theorem d3_0 : decode jdk_43_method_46_code 0 = .ok (.iconst 1, 1) := by decide +kernel
theorem d3_1 : decode jdk_43_method_46_code 1 = .ok (.newarray .byte, 2) := by decide +kernel
theorem d3_3 : decode jdk_43_method_46_code 3 = .ok (.dup, 1) := by decide +kernel
theorem d3_4 : decode jdk_43_method_46_code 4 = .ok (.iconst 0, 1) := by decide +kernel
theorem d3_5 : decode jdk_43_method_46_code 5 = .ok (.iload_n 0, 1) := by decide +kernel
theorem d3_6 : decode jdk_43_method_46_code 6 = .ok (.i2b, 1) := by decide +kernel
theorem d3_7 : decode jdk_43_method_46_code 7 = .ok (.bastore, 1) := by decide +kernel
theorem d3_8 : decode jdk_43_method_46_code 8 = .ok (.areturn, 1) := by decide +kernel
set_option maxRecDepth 65536 in
set_option maxHeartbeats 40000000 in
theorem b3_0 {p : Program} {l : Launch} {e : Env} {s : State} {m : MethodId} {args : Array Value} {below : List Frame} {meth : Method} {c : Code} {Z : State} {a0 : Array Value} {h0 : Heap} {n0 : Nat} (C : own_C "java/lang/StringLatin1" jdk_43_method_46_code 1 (some (.array .byte)) "toBytes" p s m meth c Z a0) (Z0 : n0 ≤ h0.size) {T0 : State} {locs : List Loc} (X0 : Stand p l e ({ frames := 0, cells := 1, slots := 1, locals := 0 } : Room) s m args below meth c T0 locs 0 0) (e0 : T0.heap = h0) (N0 : Fr n0 locs) (i0 : Int32) :
    own_Ends p e below s ({ frames := 0, cells := 1, slots := 1, locals := 0 } : Room).cells ({ frames := 0, cells := 1, slots := 1, locals := 0 } : Room).slots (own_QR n0 h0) T0 (mkF m 0 #[.val (.int i0)] []) := by
  obtain ⟨hx, hZ, hw, hby, hml, hown, hret, hlk, hnm⟩ := C
  have C : own_C "java/lang/StringLatin1" jdk_43_method_46_code 1 (some (.array .byte)) "toBytes" p s m meth c Z a0 := ⟨hx, hZ, hw, hby, hml, hown, hret, hlk, hnm⟩
  refine own_step (fun _ => XS.iconst X0.here hx rfl (hb hby d3_0)) ?_
  show own_Ends p e below s _ _ _ T0 (mkF m 1 #[.val (.int i0)] [(.int (1 : Int32))])
  obtain ⟨T3, h3, k3, X3, e3, E3, A3, st3⟩ := newP X0 hx hZ (hw _ (List.mem_of_getElem? (i := 14) rfl)) e0 (g := (mkF m 1 #[.val (.int i0)] [(.int (1 : Int32))])) rfl (hb hby d3_1) rfl (by decide) (cap := 1) (by decide) (by decide) (by decide) (by decide)
  obtain ⟨b3, g3⟩ : ∃ z, z = h0.size := ⟨_, rfl⟩
  rw [← g3] at A3 st3
  have V3 : Arv Z h3 b3 k3 .byte (1 : Int32) [(.int (0 : Int32))] (.int (0 : Int32)) := (Arv.new A3 (by decide)).pad (pad_rep [] (.int (0 : Int32)) 1)
  have g_b3 : n0 ≤ b3 := Nat.le_trans Z0 (Nat.le_of_eq g3.symm)
  have sz_b3 : h0.size ≤ b3 := Nat.le_trans (Keep.refl h0 []).1 (Nat.le_of_eq g3.symm)
  have K3 : Keep h0 h3 [] := (Keep.refl h0 []).ext E3
  have Zs3 : n0 ≤ h3.size := Nat.le_trans Z0 E3.1
  refine own_step st3 ?_
  show own_Ends p e below s _ _ _ T3 (mkF m 3 #[.val (.int i0)] [(.ref b3)])
  refine own_step (fun _ => XS.dup X3.here hx rfl (hb hby d3_3) rfl rfl) ?_
  show own_Ends p e below s _ _ _ T3 (mkF m 4 #[.val (.int i0)] [(.ref b3), (.ref b3)])
  refine own_step (fun _ => XS.iconst X3.here hx rfl (hb hby d3_4)) ?_
  show own_Ends p e below s _ _ _ T3 (mkF m 5 #[.val (.int i0)] [(.int (0 : Int32)), (.ref b3), (.ref b3)])
  refine own_step (fun _ => XS.iloadN X3.here hx rfl (hb hby d3_5) rfl) ?_
  show own_Ends p e below s _ _ _ T3 (mkF m 6 #[.val (.int i0)] [(.int i0), (.int (0 : Int32)), (.ref b3), (.ref b3)])
  refine own_step (fun _ => XS.i2b X3.here hx rfl (hb hby d3_6) rfl) ?_
  show own_Ends p e below s _ _ _ T3 (mkF m 7 #[.val (.int i0)] [(.int (i0.toInt8.toInt32)), (.int (0 : Int32)), (.ref b3), (.ref b3)])
  obtain ⟨cl4, Ar4, q4, S4, N4_, H4, G4⟩ := V3
  have hin4 : ¬ ((0 : Int32) < 0 ∨ cl4.slots.size ≤ ((0 : Int32)).toNatClampNeg) := inb_of S4 ⟨by decide, by decide⟩
  obtain ⟨T4, h4, X4, e4, W4, st4⟩ := stB X3 hx hZ e3 Ar4 (j := (0 : Int32)) hin4 (g := (mkF m 7 #[.val (.int i0)] [(.int (i0.toInt8.toInt32)), (.int (0 : Int32)), (.ref b3), (.ref b3)])) rfl rfl (hb hby d3_7)
  have V4 : Arv Z h4 b3 k3 .byte (1 : Int32) [(.int ((i0.toInt8.toInt32)).toInt8.toInt32)] (.int (0 : Int32)) := Arv.set Ar4 q4 S4 N4_ H4 G4 (fits_nar_byte _) W4 0 rfl (Nat.le_of_ble_eq_true rfl)
  have K4 : Keep h0 h4 [] := K3.wr W4 (Or.inr sz_b3)
  have Zs4 : n0 ≤ h4.size := (by rw [W4.size]; exact Zs3)
  have N4 := Fr.snoc X4 N0 g_b3
  refine own_step st4 ?_
  show own_Ends p e below s _ _ _ T4 (mkF m 8 #[.val (.int i0)] [(.ref b3)])
  exact own_retR X4 hx hret hlk (hb hby d3_8) (by decide) (by decide) rfl rfl ⟨b3, rfl, N4, (show _ from by rw [e4]; exact K4)⟩
theorem ef_rm3 (m : MethodId) (i0 : Int32) : entryFrame m #[(.int i0)] 1 = mkF m 0 #[.val (.int i0)] [] := by first | (simp [entryFrame, mkF, argsToLocals, Value.category]; done) | rfl
set_option maxRecDepth 65536 in
set_option maxHeartbeats 40000000 in
theorem rm3 (l : Launch) (Z : State) (a0 : Array Value) (hw : ∀ d ∈ tables_1, d.before a0 Z = true) (ws : List Jvm.Cond) (i0 : Int32) (h0 : Heap) (n0 : Nat) (Z0 : n0 ≤ h0.size) :
    MetFree l (⟨"java/lang/StringLatin1", "toBytes", "(C)[B"⟩ : MethodName) (head1 (Jvm.Cond.code (⟨"java/lang/StringLatin1", "toBytes", "(C)[B"⟩ : MethodName) jdk_43_method_46_code 1 (some (.array .byte)) :: ws) ({ frames := 0, cells := 1, slots := 1, locals := 0 } : Room)) (fun a U => a = #[(.int i0)] ∧ Z.Warmed39 U.vm ∧ U.heap = h0) (fun _ _ _ _ _ => True) (fun _ U o U' => ∃ v L, o = .returned v ∧ (own_QR n0 h0) v U'.heap L ∧ FrameEnd U o U' L ({ frames := 0, cells := 1, slots := 1, locals := 0 } : Room).cells ({ frames := 0, cells := 1, slots := 1, locals := 0 } : Room).slots) := by
  refine MetFree.of_bodySF (plainFor_of_name pn_0) hisR ?_
  intro p e s m args below meth c s₁ Bd hml0 hP hK
  obtain ⟨rfl, hZ, hh⟩ := hP
  have X0 : Stand p l e ({ frames := 0, cells := 1, slots := 1, locals := 0 } : Room) s m #[(.int i0)] below meth c s₁ [] 0 0 := Stand.of_body Bd
  have e0 : s₁.heap = h0 := by rw [← hh, Bd.state]; rfl
  have C : own_C "java/lang/StringLatin1" jdk_43_method_46_code 1 (some (.array .byte)) "toBytes" p s m meth c Z a0 := ⟨Bd.exec, hZ, hw, Bd.bytes, hml0, findClass_of_methodNamed Bd.named, Bd.returns, Bd.notSynchronized, (name_of_methodNamed Bd.named Bd.method).1⟩
  have r := b3_0 C Z0 X0 e0 (Fr.nil n0) i0
  rw [ef_rm3 m i0]
  exact r
def own_QC (n0 : Nat) (h0 : Heap) (o0 : Addr) (v : Option Value) (h : Heap) (L : List Loc) : Prop := v = none ∧ Fr n0 L ∧ Keep h0 h [o0]
theorem d4_0 : decode jdk_42_method_151_code 0 = .ok (.aload_n 0, 1) := by decide +kernel
theorem d4_1 : decode jdk_42_method_151_code 1 = .ok (.invokespecial 1, 3) := by decide +kernel
theorem d4_4 : decode jdk_42_method_151_code 4 = .ok (.aload_n 0, 1) := by decide +kernel
theorem d4_5 : decode jdk_42_method_151_code 5 = .ok (.aload_n 1, 1) := by decide +kernel
theorem d4_6 : decode jdk_42_method_151_code 6 = .ok (.putfield 9, 3) := by decide +kernel
theorem d4_9 : decode jdk_42_method_151_code 9 = .ok (.aload_n 0, 1) := by decide +kernel
theorem d4_10 : decode jdk_42_method_151_code 10 = .ok (.iload_n 2, 1) := by decide +kernel
theorem d4_11 : decode jdk_42_method_151_code 11 = .ok (.putfield 15, 3) := by decide +kernel
theorem d4_14 : decode jdk_42_method_151_code 14 = .ok (.return_, 1) := by decide +kernel
set_option maxRecDepth 65536 in
set_option maxHeartbeats 40000000 in
theorem b4_0 {p : Program} {l : Launch} {e : Env} {s : State} {m : MethodId} {args : Array Value} {below : List Frame} {meth : Method} {c : Code} {Z : State} {a0 : Array Value} {h0 : Heap} {n0 : Nat} (C : own_C "java/lang/String" jdk_42_method_151_code 3 none "<init>" p s m meth c Z a0) (Z0 : n0 ≤ h0.size) {T0 : State} {locs : List Loc} (X0 : Stand p l e ({ frames := 1, cells := 0, slots := 0, locals := 12 } : Room) s m args below meth c T0 locs 0 0) (e0 : T0.heap = h0) (N0 : Fr n0 locs) (o0 : Addr) (o1 : Addr) (i2 : Int32) (Eo : Exa Z h0 o0 "java/lang/String") (Fv : Fld Z h0 o0 "java/lang/String" "value" "[B" .null) (Fc : Fld Z h0 o0 "java/lang/String" "coder" "B" (.int 0)) (g_o0 : n0 ≤ o0) :
    own_Ends p e below s ({ frames := 1, cells := 0, slots := 0, locals := 12 } : Room).cells ({ frames := 1, cells := 0, slots := 0, locals := 12 } : Room).slots (own_QC n0 h0 o0) T0 (mkF m 0 #[.val (.ref o0), .val (.ref o1), .val (.int i2)] []) := by
  obtain ⟨hx, hZ, hw, hby, hml, hown, hret, hlk, hnm⟩ := C
  have C : own_C "java/lang/String" jdk_42_method_151_code 3 none "<init>" p s m meth c Z a0 := ⟨hx, hZ, hw, hby, hml, hown, hret, hlk, hnm⟩
  refine own_step (fun _ => XS.aloadN X0.here hx rfl (hb hby d4_0) rfl rfl) ?_
  show own_Ends p e below s _ _ _ T0 (mkF m 1 #[.val (.ref o0), .val (.ref o1), .val (.int i2)] [(.ref o0)])
  obtain ⟨T4, X4, e4, st4⟩ := initO X0 hx hZ hown (hw _ (List.mem_of_getElem? (i := 19) rfl)) (hw _ (List.mem_of_getElem? (i := 20) rfl)) (hw _ (List.mem_of_getElem? (i := 21) rfl)) e0 (g := (mkF m 1 #[.val (.ref o0), .val (.ref o1), .val (.int i2)] [(.ref o0)])) rfl (by rw [hml]; rfl) rfl (hb hby d4_1) (by decide) (W := 0) (by show 2 * 0 + _ ≤ _; exact Nat.le_of_eq rfl) (by decide)
  refine own_step st4 ?_
  show own_Ends p e below s _ _ _ T4 (mkF m 4 #[.val (.ref o0), .val (.ref o1), .val (.int i2)] [])
  refine own_step (fun _ => XS.aloadN X4.here hx rfl (hb hby d4_4) rfl rfl) ?_
  show own_Ends p e below s _ _ _ T4 (mkF m 5 #[.val (.ref o0), .val (.ref o1), .val (.int i2)] [(.ref o0)])
  refine own_step (fun _ => XS.aloadN X4.here hx rfl (hb hby d4_5) rfl rfl) ?_
  show own_Ends p e below s _ _ _ T4 (mkF m 6 #[.val (.ref o0), .val (.ref o1), .val (.int i2)] [(.ref o1), (.ref o0)])
  obtain ⟨T5, h5, X5, e5, W5, st5⟩ := putF X4 hx hZ hown (host := "") (Or.inl (hw _ (List.mem_of_getElem? (i := 22) rfl))) Via.refl e4 Fv Eo (Or.inr ⟨(hw _ (List.mem_of_getElem? (i := 23) rfl)), rfl, hnm⟩) (hw _ (List.mem_of_getElem? (i := 10) rfl)) (ty := (.array .byte)) (by decide) rfl rfl (g := (mkF m 6 #[.val (.ref o0), .val (.ref o1), .val (.int i2)] [(.ref o1), (.ref o0)])) rfl rfl (hb hby d4_6)
  have Fw5 := Fv.same W5
  have K5 : Keep h0 h5 [o0] := (Keep.refl h0 [o0]).wr W5 (Or.inl (List.mem_of_getElem? (i := 0) rfl))
  have Zs5 : n0 ≤ h5.size := (by rw [W5.size]; exact Z0)
  have N5 := Fr.snoc X5 N0 g_o0
  refine own_step st5 ?_
  show own_Ends p e below s _ _ _ T5 (mkF m 9 #[.val (.ref o0), .val (.ref o1), .val (.int i2)] [])
  refine own_step (fun _ => XS.aloadN X5.here hx rfl (hb hby d4_9) rfl rfl) ?_
  show own_Ends p e below s _ _ _ T5 (mkF m 10 #[.val (.ref o0), .val (.ref o1), .val (.int i2)] [(.ref o0)])
  refine own_step (fun _ => XS.iloadN X5.here hx rfl (hb hby d4_10) rfl) ?_
  show own_Ends p e below s _ _ _ T5 (mkF m 11 #[.val (.ref o0), .val (.ref o1), .val (.int i2)] [(.int i2), (.ref o0)])
  obtain ⟨T6, h6, X6, e6, W6, st6⟩ := putFN X5 hx hZ hown (hw _ (List.mem_of_getElem? (i := 24) rfl)) Via.refl e5 (Fc.other W5 (Or.inr (slot_ne (Or.inr (hw _ (List.mem_of_getElem? (i := 25) rfl))) (Or.inr (hw _ (List.mem_of_getElem? (i := 23) rfl))) (by decide) (t := .byte) (t' := (.array .byte)) (by decide) (by decide)))) (Eo.wr W5) (Or.inr ⟨(hw _ (List.mem_of_getElem? (i := 25) rfl)), rfl, hnm⟩) (hw _ (List.mem_of_getElem? (i := 10) rfl)) (ty := .byte) (v' := (.int (nar .byte i2))) (by decide) rfl (fits_nar_byte _) (g := (mkF m 11 #[.val (.ref o0), .val (.ref o1), .val (.int i2)] [(.int i2), (.ref o0)])) rfl rfl (hb hby d4_11)
  have Fw6 := (Fc.other W5 (Or.inr (slot_ne (Or.inr (hw _ (List.mem_of_getElem? (i := 25) rfl))) (Or.inr (hw _ (List.mem_of_getElem? (i := 23) rfl))) (by decide) (t := .byte) (t' := (.array .byte)) (by decide) (by decide)))).same W6
  have K6 : Keep h0 h6 [o0] := K5.wr W6 (Or.inl (List.mem_of_getElem? (i := 0) rfl))
  have Zs6 : n0 ≤ h6.size := (by rw [W6.size]; exact Zs5)
  have N6 := Fr.snoc X6 N5 g_o0
  refine own_step st6 ?_
  show own_Ends p e below s _ _ _ T6 (mkF m 14 #[.val (.ref o0), .val (.ref o1), .val (.int i2)] [])
  exact own_retV X6 hx hret hlk (hb hby d4_14) (by decide) (by decide) ⟨rfl, N6, (show _ from by rw [e6]; exact K6)⟩
theorem ef_rm4 (m : MethodId) (o0 : Addr) (o1 : Addr) (i2 : Int32) : entryFrame m #[(.ref o0), (.ref o1), (.int i2)] 3 = mkF m 0 #[.val (.ref o0), .val (.ref o1), .val (.int i2)] [] := by first | (simp [entryFrame, mkF, argsToLocals, Value.category]; done) | rfl
set_option maxRecDepth 65536 in
set_option maxHeartbeats 40000000 in
theorem rm4 (l : Launch) (Z : State) (a0 : Array Value) (hw : ∀ d ∈ tables_1, d.before a0 Z = true) (ws : List Jvm.Cond) (o0 : Addr) (o1 : Addr) (i2 : Int32) (h0 : Heap) (n0 : Nat) (Z0 : n0 ≤ h0.size) (Eo : Exa Z h0 o0 "java/lang/String") (Fv : Fld Z h0 o0 "java/lang/String" "value" "[B" .null) (Fc : Fld Z h0 o0 "java/lang/String" "coder" "B" (.int 0)) (g_o0 : n0 ≤ o0) :
    MetFree l (⟨"java/lang/String", "<init>", "([BB)V"⟩ : MethodName) (head1 (Jvm.Cond.code (⟨"java/lang/String", "<init>", "([BB)V"⟩ : MethodName) jdk_42_method_151_code 3 none :: ws) ({ frames := 1, cells := 0, slots := 0, locals := 12 } : Room)) (fun a U => a = #[(.ref o0), (.ref o1), (.int i2)] ∧ Z.Warmed39 U.vm ∧ U.heap = h0) (fun _ _ _ _ _ => True) (fun _ U o U' => ∃ v L, o = .returned v ∧ (own_QC n0 h0 o0) v U'.heap L ∧ FrameEnd U o U' L ({ frames := 1, cells := 0, slots := 0, locals := 12 } : Room).cells ({ frames := 1, cells := 0, slots := 0, locals := 12 } : Room).slots) := by
  refine MetFree.of_bodySF (plainFor_of_name pn_1) hisR ?_
  intro p e s m args below meth c s₁ Bd hml0 hP hK
  obtain ⟨rfl, hZ, hh⟩ := hP
  have X0 : Stand p l e ({ frames := 1, cells := 0, slots := 0, locals := 12 } : Room) s m #[(.ref o0), (.ref o1), (.int i2)] below meth c s₁ [] 0 0 := Stand.of_body Bd
  have e0 : s₁.heap = h0 := by rw [← hh, Bd.state]; rfl
  have C : own_C "java/lang/String" jdk_42_method_151_code 3 none "<init>" p s m meth c Z a0 := ⟨Bd.exec, hZ, hw, Bd.bytes, hml0, findClass_of_methodNamed Bd.named, Bd.returns, Bd.notSynchronized, (name_of_methodNamed Bd.named Bd.method).1⟩
  have r := b4_0 C Z0 X0 e0 (Fr.nil n0) o0 o1 i2 Eo Fv Fc g_o0
  rw [ef_rm4 m o0 o1 i2]
  exact r
theorem d1_0 : decode jdk_42_method_139_code 0 = .ok (.getstatic 38, 3) := by decide +kernel
theorem d1_3 : decode jdk_42_method_139_code 3 = .ok (.ifCond .eq 23, 3) := by decide +kernel
theorem d1_6 : decode jdk_42_method_139_code 6 = .ok (.iload_n 0, 1) := by decide +kernel
theorem d1_7 : decode jdk_42_method_139_code 7 = .ok (.invokestatic 1015, 3) := by decide +kernel
theorem d1_10 : decode jdk_42_method_139_code 10 = .ok (.ifCond .eq 16, 3) := by decide +kernel
theorem d1_13 : decode jdk_42_method_139_code 13 = .ok (.new 10, 3) := by decide +kernel
theorem d1_16 : decode jdk_42_method_139_code 16 = .ok (.dup, 1) := by decide +kernel
theorem d1_17 : decode jdk_42_method_139_code 17 = .ok (.iload_n 0, 1) := by decide +kernel
theorem d1_18 : decode jdk_42_method_139_code 18 = .ok (.invokestatic 1018, 3) := by decide +kernel
theorem d1_21 : decode jdk_42_method_139_code 21 = .ok (.iconst 0, 1) := by decide +kernel
theorem d1_22 : decode jdk_42_method_139_code 22 = .ok (.invokespecial 209, 3) := by decide +kernel
theorem d1_25 : decode jdk_42_method_139_code 25 = .ok (.areturn, 1) := by decide +kernel
set_option maxRecDepth 65536 in
set_option maxHeartbeats 40000000 in
theorem b1_0 {p : Program} {l : Launch} {e : Env} {s : State} {m : MethodId} {args : Array Value} {below : List Frame} {meth : Method} {c : Code} {Z : State} {a0 : Array Value} {h0 : Heap} {n0 : Nat} (C : own_C "java/lang/String" jdk_42_method_139_code 1 (some (.object "java/lang/String")) "valueOf" p s m meth c Z a0) (Z0 : n0 ≤ h0.size) {T0 : State} {locs : List Loc} (X0 : Stand p l e ({ frames := 2, cells := 2, slots := 5, locals := 27 } : Room) s m args below meth c T0 locs 0 0) (e0 : T0.heap = h0) (N0 : Fr n0 locs) (i0 : Int32) (cs : Int32) (Sc : Sta Z h0 "java/lang/String" "COMPACT_STRINGS" "Z" (.int cs)) (hcs : ¬ cs = 0) (hi : ¬ (255 : Int32) < i0) :
    own_Ends p e below s ({ frames := 2, cells := 2, slots := 5, locals := 27 } : Room).cells ({ frames := 2, cells := 2, slots := 5, locals := 27 } : Room).slots (own_QR n0 h0) T0 (mkF m 0 #[.val (.int i0)] []) := by
  obtain ⟨hx, hZ, hw, hby, hml, hown, hret, hlk, hnm⟩ := C
  have C : own_C "java/lang/String" jdk_42_method_139_code 1 (some (.object "java/lang/String")) "valueOf" p s m meth c Z a0 := ⟨hx, hZ, hw, hby, hml, hown, hret, hlk, hnm⟩
  obtain ⟨T6, X6, e6, st6⟩ := getS2 X0 hx hZ hown (host := "") (Or.inl (hw _ (List.mem_of_getElem? (i := 4) rfl))) Via.refl e0 Sc (g := (mkF m 0 #[.val (.int i0)] [])) rfl (hb hby d1_0)
  refine own_step st6 ?_
  show own_Ends p e below s _ _ _ T6 (mkF m 3 #[.val (.int i0)] [(.int cs)])
  refine own_step (fun _ => XS.ifNo X6.here hx rfl (hb hby d1_3) rfl ((if0 _ _).trans (feq (show ¬ (cs = (0 : Int32)) from hcs)).1)) ?_
  show own_Ends p e below s _ _ _ T6 (mkF m 6 #[.val (.int i0)] [])
  refine own_step (fun _ => XS.iloadN X6.here hx rfl (hb hby d1_6) rfl) ?_
  show own_Ends p e below s _ _ _ T6 (mkF m 7 #[.val (.int i0)] [(.int i0)])
  obtain ⟨_, _, ⟨T7, L7, k7, n7⟩, -, X7, ⟨Lc7, hQ7, l7, y7, z7⟩, st7⟩ := Jvm.LawKit.callS X6 hx (y := (⟨"java/lang/StringLatin1", "canEncode", "(C)Z"⟩ : MethodName)) hown (mvT hZ (hw _ (List.mem_of_getElem? (i := 5) rfl))) (mvT hZ (hw _ (List.mem_of_getElem? (i := 6) rfl))) (mvT hZ (hw _ (List.mem_of_getElem? (i := 7) rfl))) (mvT hZ (hw _ (List.mem_of_getElem? (i := 8) rfl))) (by decide) (backOf (W := 0) (rm2 l Z a0 hw [] i0 h0 n0 Z0) hZ (hw _ (List.mem_of_getElem? (i := 8) rfl)) (hw _ (List.mem_of_getElem? (i := 7) rfl)) (by decide) (by decide)) (g := (mkF m 7 #[.val (.int i0)] [(.int i0)])) rfl (by rw [hml]; rfl) (argsL := [(.int i0)]) (rest := []) (lenOf pd_0 rfl) rfl (by show 2 * 0 + _ ≤ _; exact Nat.le_of_eq rfl) (hb hby d1_7) (fun _ _ => ⟨rfl, e6, (by decide : 0 + 0 ≤ _), (by decide : 0 + 0 ≤ _)⟩)
  dsimp only [Pt.U, Pt.locs, Pt.cells, Pt.slots] at X7 l7 y7 z7 st7 hQ7
  subst l7 y7 z7
  obtain ⟨rfl, N7q, hh7⟩ := hQ7
  have N7 := Fr.app N0 N7q
  refine own_step st7 ?_
  show own_Ends p e below s _ _ _ T7 (mkF m 10 #[.val (.int i0)] [(.int (f2_0 i0))])
  refine own_step (fun _ => XS.ifNo X7.here hx rfl (hb hby d1_10) rfl ((if0 _ _).trans (feq (show ¬ ((f2_0 i0) = (0 : Int32)) from (by unfold f2_0; rw [if_neg hi]; decide))).1)) ?_
  show own_Ends p e below s _ _ _ T7 (mkF m 13 #[.val (.int i0)] [])
  obtain ⟨T8, h8, X8, e8, E8, A8, D8, U8, st8⟩ := newO X7 hx hZ hown (hw _ (List.mem_of_getElem? (i := 9) rfl)) (hw _ (List.mem_of_getElem? (i := 10) rfl)) (hw _ (List.mem_of_getElem? (i := 2) rfl)) hh7 (g := (mkF m 13 #[.val (.int i0)] [])) rfl (hb hby d1_13) (by decide) (by decide)
  obtain ⟨b8, g8⟩ : ∃ z, z = h0.size := ⟨_, rfl⟩
  rw [← g8] at A8 D8 U8 st8
  have g_b8 : n0 ≤ b8 := Nat.le_trans Z0 (Nat.le_of_eq g8.symm)
  have sz_b8 : h0.size ≤ b8 := Nat.le_trans (Keep.refl h0 []).1 (Nat.le_of_eq g8.symm)
  have K8 : Keep h0 h8 [] := (Keep.refl h0 []).ext E8
  have Zs8 : n0 ≤ h8.size := Nat.le_trans Z0 E8.1
  have F8_value : Fld Z h8 b8 "java/lang/String" "value" "[B" .null := D8 (Or.inr (hw _ (List.mem_of_getElem? (i := 23) rfl))) (ty := (.array .byte)) (by decide)
  have F8_coder : Fld Z h8 b8 "java/lang/String" "coder" "B" (.int (0 : Int32)) := D8 (Or.inr (hw _ (List.mem_of_getElem? (i := 25) rfl))) (ty := .byte) (by decide)
  refine own_step st8 ?_
  show own_Ends p e below s _ _ _ T8 (mkF m 16 #[.val (.int i0)] [(.ref b8)])
  refine own_step (fun _ => XS.dup X8.here hx rfl (hb hby d1_16) rfl rfl) ?_
  show own_Ends p e below s _ _ _ T8 (mkF m 17 #[.val (.int i0)] [(.ref b8), (.ref b8)])
  refine own_step (fun _ => XS.iloadN X8.here hx rfl (hb hby d1_17) rfl) ?_
  show own_Ends p e below s _ _ _ T8 (mkF m 18 #[.val (.int i0)] [(.int i0), (.ref b8), (.ref b8)])
  obtain ⟨_, _, ⟨T9, L9, k9, n9⟩, -, X9, ⟨Lc9, hQ9, l9, y9, z9⟩, st9⟩ := Jvm.LawKit.callS X8 hx (y := (⟨"java/lang/StringLatin1", "toBytes", "(C)[B"⟩ : MethodName)) hown (mvT hZ (hw _ (List.mem_of_getElem? (i := 11) rfl))) (mvT hZ (hw _ (List.mem_of_getElem? (i := 12) rfl))) (mvT hZ (hw _ (List.mem_of_getElem? (i := 7) rfl))) (mvT hZ (hw _ (List.mem_of_getElem? (i := 13) rfl))) (by decide) (backOf (W := 2) (rm3 l Z a0 hw [] i0 h8 n0 Zs8) hZ (hw _ (List.mem_of_getElem? (i := 13) rfl)) (hw _ (List.mem_of_getElem? (i := 7) rfl)) (by decide) (by decide)) (g := (mkF m 18 #[.val (.int i0)] [(.int i0), (.ref b8), (.ref b8)])) rfl (by rw [hml]; rfl) (argsL := [(.int i0)]) (rest := [(.ref b8), (.ref b8)]) (lenOf pd_1 rfl) rfl (by show 2 * 0 + _ ≤ _; exact Nat.le_of_eq rfl) (hb hby d1_18) (fun _ _ => ⟨rfl, e8, (by decide : 1 + 1 ≤ _), (by decide : 4 + 1 ≤ _)⟩)
  dsimp only [Pt.U, Pt.locs, Pt.cells, Pt.slots] at X9 l9 y9 z9 st9 hQ9
  subst l9 y9 z9
  obtain ⟨b9, rfl, N9q, K9⟩ := hQ9
  have N9 := Fr.app N7 N9q
  have KK9 : Keep h0 T9.heap [] := K8.trans K9 all0
  have Zs9 : n0 ≤ T9.heap.size := Nat.le_trans Zs8 K9.1
  refine own_step st9 ?_
  show own_Ends p e below s _ _ _ T9 (mkF m 21 #[.val (.int i0)] [(.ref b9), (.ref b8), (.ref b8)])
  refine own_step (fun _ => XS.iconst X9.here hx rfl (hb hby d1_21)) ?_
  show own_Ends p e below s _ _ _ T9 (mkF m 22 #[.val (.int i0)] [(.int (0 : Int32)), (.ref b9), (.ref b8), (.ref b8)])
  obtain ⟨_, _, ⟨T10, L10, k10, n10⟩, -, X10, ⟨Lc10, hQ10, l10, y10, z10⟩, st10⟩ := X9.specialBack hx (y := (⟨"java/lang/String", "<init>", "([BB)V"⟩ : MethodName)) rfl hown (mvT hZ (hw _ (List.mem_of_getElem? (i := 15) rfl))) (mvT hZ (hw _ (List.mem_of_getElem? (i := 16) rfl))) (mvT hZ (hw _ (List.mem_of_getElem? (i := 18) rfl))) (by decide) (backOf (W := 1) (rm4 l Z a0 hw [] b8 b9 (0 : Int32) T9.heap n0 Zs9 (A8.keep K9) (F8_value.keep K9 nin0) (F8_coder.keep K9 nin0) g_b8) hZ (hw _ (List.mem_of_getElem? (i := 18) rfl)) (hw _ (List.mem_of_getElem? (i := 2) rfl)) (by decide) (by decide)) (g := (mkF m 22 #[.val (.int i0)] [(.int (0 : Int32)), (.ref b9), (.ref b8), (.ref b8)])) rfl (by rw [hml]; rfl) (Steps.refl _) (a := b8) (argsL := [(.ref b9), (.int (0 : Int32))]) (rest := [(.ref b8)]) (lenOf pd_2 rfl) rfl (by show 2 * 0 + _ ≤ _; exact Nat.le_of_eq rfl) (hb hby d1_22) (fun _ _ => ⟨rfl, rfl, (by decide : 2 + 0 ≤ _), (by decide : 5 + 0 ≤ _)⟩)
  dsimp only [Pt.U, Pt.locs, Pt.cells, Pt.slots] at X10 l10 y10 z10 st10 hQ10
  subst l10 y10 z10
  obtain ⟨rfl, N10q, K10⟩ := hQ10
  have N10 := Fr.app N9 N10q
  have KK10 : Keep h0 T10.heap [] := KK9.trans K10 (allS (Or.inr sz_b8) all0)
  have Zs10 : n0 ≤ T10.heap.size := Nat.le_trans Zs9 K10.1
  refine own_step (fun _ => st10.trans) ?_
  show own_Ends p e below s _ _ _ T10 (mkF m 25 #[.val (.int i0)] [(.ref b8)])
  exact own_retR X10 hx hret hlk (hb hby d1_25) (by decide) (by decide) rfl rfl ⟨b8, rfl, N10, KK10⟩
theorem ef_rm1 (m : MethodId) (i0 : Int32) : entryFrame m #[(.int i0)] 1 = mkF m 0 #[.val (.int i0)] [] := by first | (simp [entryFrame, mkF, argsToLocals, Value.category]; done) | rfl
set_option maxRecDepth 65536 in
set_option maxHeartbeats 40000000 in
theorem rm1 (l : Launch) (Z : State) (a0 : Array Value) (hw : ∀ d ∈ tables_1, d.before a0 Z = true) (ws : List Jvm.Cond) (i0 : Int32) (cs : Int32) (h0 : Heap) (n0 : Nat) (Z0 : n0 ≤ h0.size) (Sc : Sta Z h0 "java/lang/String" "COMPACT_STRINGS" "Z" (.int cs)) (hcs : ¬ cs = 0) (hi : ¬ (255 : Int32) < i0) :
    MetFree l (⟨"java/lang/String", "valueOf", "(C)Ljava/lang/String;"⟩ : MethodName) (head1 (Jvm.Cond.code (⟨"java/lang/String", "valueOf", "(C)Ljava/lang/String;"⟩ : MethodName) jdk_42_method_139_code 1 (some (.object "java/lang/String")) :: ws) ({ frames := 2, cells := 2, slots := 5, locals := 27 } : Room)) (fun a U => a = #[(.int i0)] ∧ Z.Warmed39 U.vm ∧ U.heap = h0) (fun _ _ _ _ _ => True) (fun _ U o U' => ∃ v L, o = .returned v ∧ (own_QR n0 h0) v U'.heap L ∧ FrameEnd U o U' L ({ frames := 2, cells := 2, slots := 5, locals := 27 } : Room).cells ({ frames := 2, cells := 2, slots := 5, locals := 27 } : Room).slots) := by
  refine MetFree.of_bodySF (plainFor_of_name pn_1) hisR ?_
  intro p e s m args below meth c s₁ Bd hml0 hP hK
  obtain ⟨rfl, hZ, hh⟩ := hP
  have X0 : Stand p l e ({ frames := 2, cells := 2, slots := 5, locals := 27 } : Room) s m #[(.int i0)] below meth c s₁ [] 0 0 := Stand.of_body Bd
  have e0 : s₁.heap = h0 := by rw [← hh, Bd.state]; rfl
  have C : own_C "java/lang/String" jdk_42_method_139_code 1 (some (.object "java/lang/String")) "valueOf" p s m meth c Z a0 := ⟨Bd.exec, hZ, hw, Bd.bytes, hml0, findClass_of_methodNamed Bd.named, Bd.returns, Bd.notSynchronized, (name_of_methodNamed Bd.named Bd.method).1⟩
  have r := b1_0 C Z0 X0 e0 (Fr.nil n0) i0 cs Sc hcs hi
  rw [ef_rm1 m i0]
  exact r
theorem d6_0 : decode prog_74_method_19_code 0 = .ok (.iload_n 1, 1) := by decide +kernel
theorem d6_1 : decode prog_74_method_19_code 1 = .ok (.iconst 1, 1) := by decide +kernel
theorem d6_2 : decode prog_74_method_19_code 2 = .ok (.if_icmp .lt 8, 3) := by decide +kernel
theorem d6_5 : decode prog_74_method_19_code 5 = .ok (.iload_n 1, 1) := by decide +kernel
theorem d6_6 : decode prog_74_method_19_code 6 = .ok (.iload_n 2, 1) := by decide +kernel
theorem d6_7 : decode prog_74_method_19_code 7 = .ok (.if_icmp .le 19, 3) := by decide +kernel
theorem d6_26 : decode prog_74_method_19_code 26 = .ok (.iload_n 1, 1) := by decide +kernel
theorem d6_27 : decode prog_74_method_19_code 27 = .ok (.ireturn, 1) := by decide +kernel
def f6_0 (o0 : Addr) (i1 : Int32) (i2 : Int32) : Int32 := i1
set_option maxRecDepth 65536 in
set_option maxHeartbeats 40000000 in
theorem b6_0 {p : Program} {l : Launch} {e : Env} {s : State} {m : MethodId} {args : Array Value} {below : List Frame} {meth : Method} {c : Code} {Z : State} {a0 : Array Value} {h0 : Heap} {n0 : Nat} (C : own_C "com/example/tideshift/tideshift/RunOptions" prog_74_method_19_code 3 (some .int) "checkCount" p s m meth c Z a0) (Z0 : n0 ≤ h0.size) {T0 : State} {locs : List Loc} (X0 : Stand p l e ({ frames := 0, cells := 0, slots := 0, locals := 0 } : Room) s m args below meth c T0 locs 0 0) (e0 : T0.heap = h0) (N0 : Fr n0 locs) (o0 : Addr) (i1 : Int32) (i2 : Int32) (h1 : ¬ i1 < 1) (h2 : ¬ i2 < i1) (W : Int32) (hv : W = f6_0 o0 i1 i2) :
    own_Ends p e below s ({ frames := 0, cells := 0, slots := 0, locals := 0 } : Room).cells ({ frames := 0, cells := 0, slots := 0, locals := 0 } : Room).slots (own_Q n0 h0 (some (.int W))) T0 (mkF m 0 #[.val (.ref o0), .val (.int i1), .val (.int i2)] []) := by
  obtain ⟨hx, hZ, hw, hby, hml, hown, hret, hlk, hnm⟩ := C
  have C : own_C "com/example/tideshift/tideshift/RunOptions" prog_74_method_19_code 3 (some .int) "checkCount" p s m meth c Z a0 := ⟨hx, hZ, hw, hby, hml, hown, hret, hlk, hnm⟩
  unfold f6_0 at hv
  refine own_step (fun _ => XS.iloadN X0.here hx rfl (hb hby d6_0) rfl) ?_
  show own_Ends p e below s _ _ _ T0 (mkF m 1 #[.val (.ref o0), .val (.int i1), .val (.int i2)] [(.int i1)])
  refine own_step (fun _ => XS.iconst X0.here hx rfl (hb hby d6_1)) ?_
  show own_Ends p e below s _ _ _ T0 (mkF m 2 #[.val (.ref o0), .val (.int i1), .val (.int i2)] [(.int (1 : Int32)), (.int i1)])
  refine own_step (fun _ => XS.icmpNo X0.here hx rfl (hb hby d6_2) rfl (flt (show ¬ (i1 < (1 : Int32)) from h1)).1) ?_
  show own_Ends p e below s _ _ _ T0 (mkF m 5 #[.val (.ref o0), .val (.int i1), .val (.int i2)] [])
  refine own_step (fun _ => XS.iloadN X0.here hx rfl (hb hby d6_5) rfl) ?_
  show own_Ends p e below s _ _ _ T0 (mkF m 6 #[.val (.ref o0), .val (.int i1), .val (.int i2)] [(.int i1)])
  refine own_step (fun _ => XS.iloadN X0.here hx rfl (hb hby d6_6) rfl) ?_
  show own_Ends p e below s _ _ _ T0 (mkF m 7 #[.val (.ref o0), .val (.int i1), .val (.int i2)] [(.int i2), (.int i1)])
  refine own_step (fun _ => XS.icmpYes X0.here hx rfl (pc0 := 7) (pc' := 26) rfl (hb hby d6_7) rfl (flt (show ¬ (i2 < i1) from h2)).2.2.2 (by decide) (by decide)) ?_
  show own_Ends p e below s _ _ _ T0 (mkF m 26 #[.val (.ref o0), .val (.int i1), .val (.int i2)] [])
  refine own_step (fun _ => XS.iloadN X0.here hx rfl (hb hby d6_26) rfl) ?_
  show own_Ends p e below s _ _ _ T0 (mkF m 27 #[.val (.ref o0), .val (.int i1), .val (.int i2)] [(.int i1)])
  exact own_retI X0 hx hret hlk (hb hby d6_27) (by decide) (by decide) ⟨congrArg (fun z => some (Value.int z)) hv.symm, N0, e0⟩
theorem ef_rm6 (m : MethodId) (o0 : Addr) (i1 : Int32) (i2 : Int32) : entryFrame m #[(.ref o0), (.int i1), (.int i2)] 3 = mkF m 0 #[.val (.ref o0), .val (.int i1), .val (.int i2)] [] := by first | (simp [entryFrame, mkF, argsToLocals, Value.category]; done) | rfl
set_option maxRecDepth 65536 in
set_option maxHeartbeats 40000000 in
theorem rm6 (l : Launch) (Z : State) (a0 : Array Value) (hw : ∀ d ∈ tables_1, d.before a0 Z = true) (ws : List Jvm.Cond) (o0 : Addr) (i1 : Int32) (i2 : Int32) (h0 : Heap) (n0 : Nat) (Z0 : n0 ≤ h0.size) (h1 : ¬ i1 < 1) (h2 : ¬ i2 < i1) :
    MetFree l (⟨"com/example/tideshift/tideshift/RunOptions", "checkCount", "(Ljava/lang/String;II)I"⟩ : MethodName) (head1 (Jvm.Cond.code (⟨"com/example/tideshift/tideshift/RunOptions", "checkCount", "(Ljava/lang/String;II)I"⟩ : MethodName) prog_74_method_19_code 3 (some .int) :: ws) ({ frames := 0, cells := 0, slots := 0, locals := 0 } : Room)) (fun a U => a = #[(.ref o0), (.int i1), (.int i2)] ∧ Z.Warmed39 U.vm ∧ U.heap = h0) (fun _ _ _ _ _ => True) (fun _ U o U' => ∃ v L, o = .returned v ∧ (own_Q n0 h0 (some (.int (f6_0 o0 i1 i2)))) v U'.heap L ∧ FrameEnd U o U' L ({ frames := 0, cells := 0, slots := 0, locals := 0 } : Room).cells ({ frames := 0, cells := 0, slots := 0, locals := 0 } : Room).slots) := by
  refine MetFree.of_bodySF (plainFor_of_name pn_2) hisR ?_
  intro p e s m args below meth c s₁ Bd hml0 hP hK
  obtain ⟨rfl, hZ, hh⟩ := hP
  have X0 : Stand p l e ({ frames := 0, cells := 0, slots := 0, locals := 0 } : Room) s m #[(.ref o0), (.int i1), (.int i2)] below meth c s₁ [] 0 0 := Stand.of_body Bd
  have e0 : s₁.heap = h0 := by rw [← hh, Bd.state]; rfl
  have C : own_C "com/example/tideshift/tideshift/RunOptions" prog_74_method_19_code 3 (some .int) "checkCount" p s m meth c Z a0 := ⟨Bd.exec, hZ, hw, Bd.bytes, hml0, findClass_of_methodNamed Bd.named, Bd.returns, Bd.notSynchronized, (name_of_methodNamed Bd.named Bd.method).1⟩
  have r := b6_0 C Z0 X0 e0 (Fr.nil n0) o0 i1 i2 h1 h2 _ rfl
  rw [ef_rm6 m o0 i1 i2]
  exact r
def f0_62 (i0 : Int32) (i1 : Int32) (i2 : Int32) (i3 : Int32) (cs : Int32) (il7_62 : Int32) : Int32 := (if il7_62 = il7_62 then (1 : Int32) else (0 : Int32))
set_option maxRecDepth 65536 in
set_option maxHeartbeats 40000000 in
theorem b0_62 {p : Program} {l : Launch} {e : Env} {s : State} {m : MethodId} {args : Array Value} {below : List Frame} {meth : Method} {c : Code} {Z : State} {a0 : Array Value} {h0 : Heap} {n0 : Nat} (C : own_C "com/example/tideshift/tideshift/RunOptionsCheckCountPinLaw" code maxLocals ret x.name p s m meth c Z a0) (Z0 : n0 ≤ h0.size) {T0 : State} {locs : List Loc} (X0 : Stand p l e room_1 s m args below meth c T0 locs 2 5) (e0 : T0.heap = h0) (N0 : Fr n0 locs) (i0 : Int32) (i1 : Int32) (i2 : Int32) (i3 : Int32) (cs : Int32) (hcs : ¬ cs = 0) (al4_62 : Addr) (il7_62 : Int32) (hk : ¬ il7_62 < 1 ∧ ¬ ((1 : Int32) + ((i2 &&& (2147483647 : Int32)) % (2147483647 : Int32))) < il7_62) (W : Int32) (hv : W = f0_62 i0 i1 i2 i3 cs il7_62) :
    own_Ends p e below s room_1.cells room_1.slots (own_QL n0 (some (.int W))) T0 (mkF m 62 #[.val (.int i0), .val (.int i1), .val (.int i2), .val (.int i3), .val (.ref al4_62), .val (.int ((1 : Int32) + ((i2 &&& (2147483647 : Int32)) % (2147483647 : Int32)))), .val (.int (i3 &&& (3 : Int32))), .val (.int il7_62), .unset] []) := by
  obtain ⟨hx, hZ, hw, hby, hml, hown, hret, hlk, hnm⟩ := C
  have C : own_C "com/example/tideshift/tideshift/RunOptionsCheckCountPinLaw" code maxLocals ret x.name p s m meth c Z a0 := ⟨hx, hZ, hw, hby, hml, hown, hret, hlk, hnm⟩
  unfold f0_62 at hv
  refine own_step (fun _ => XS.aload X0.here hx rfl (hb hby at_62) rfl rfl) ?_
  show own_Ends p e below s _ _ _ T0 (mkF m 64 #[.val (.int i0), .val (.int i1), .val (.int i2), .val (.int i3), .val (.ref al4_62), .val (.int ((1 : Int32) + ((i2 &&& (2147483647 : Int32)) % (2147483647 : Int32)))), .val (.int (i3 &&& (3 : Int32))), .val (.int il7_62), .unset] [(.ref al4_62)])
  refine own_step (fun _ => XS.iload X0.here hx rfl (hb hby at_64) rfl) ?_
  show own_Ends p e below s _ _ _ T0 (mkF m 66 #[.val (.int i0), .val (.int i1), .val (.int i2), .val (.int i3), .val (.ref al4_62), .val (.int ((1 : Int32) + ((i2 &&& (2147483647 : Int32)) % (2147483647 : Int32)))), .val (.int (i3 &&& (3 : Int32))), .val (.int il7_62), .unset] [(.int il7_62), (.ref al4_62)])
  refine own_step (fun _ => XS.iload X0.here hx rfl (hb hby at_66) rfl) ?_
  show own_Ends p e below s _ _ _ T0 (mkF m 68 #[.val (.int i0), .val (.int i1), .val (.int i2), .val (.int i3), .val (.ref al4_62), .val (.int ((1 : Int32) + ((i2 &&& (2147483647 : Int32)) % (2147483647 : Int32)))), .val (.int (i3 &&& (3 : Int32))), .val (.int il7_62), .unset] [(.int ((1 : Int32) + ((i2 &&& (2147483647 : Int32)) % (2147483647 : Int32)))), (.int il7_62), (.ref al4_62)])
  obtain ⟨_, _, ⟨T4, L4, k4, n4⟩, -, X4, ⟨Lc4, hQ4, l4, y4, z4⟩, st4⟩ := Jvm.LawKit.callS X0 hx (y := (⟨"com/example/tideshift/tideshift/RunOptions", "checkCount", "(Ljava/lang/String;II)I"⟩ : MethodName)) hown (mvT hZ (hw _ (List.mem_of_getElem? (i := 27) rfl))) (mvT hZ (hw _ (List.mem_of_getElem? (i := 28) rfl))) (mvT hZ (hw _ (List.mem_of_getElem? (i := 29) rfl))) (mvT hZ (hw _ (List.mem_of_getElem? (i := 30) rfl))) (by decide) (backOf (W := 0) (rm6 l Z a0 hw [] al4_62 il7_62 ((1 : Int32) + ((i2 &&& (2147483647 : Int32)) % (2147483647 : Int32))) h0 n0 Z0 hk.1 hk.2) hZ (hw _ (List.mem_of_getElem? (i := 30) rfl)) (hw _ (List.mem_of_getElem? (i := 29) rfl)) (by decide) (by decide)) (g := (mkF m 68 #[.val (.int i0), .val (.int i1), .val (.int i2), .val (.int i3), .val (.ref al4_62), .val (.int ((1 : Int32) + ((i2 &&& (2147483647 : Int32)) % (2147483647 : Int32)))), .val (.int (i3 &&& (3 : Int32))), .val (.int il7_62), .unset] [(.int ((1 : Int32) + ((i2 &&& (2147483647 : Int32)) % (2147483647 : Int32)))), (.int il7_62), (.ref al4_62)])) rfl (by rw [hml]; rfl) (argsL := [(.ref al4_62), (.int il7_62), (.int ((1 : Int32) + ((i2 &&& (2147483647 : Int32)) % (2147483647 : Int32))))]) (rest := []) (lenOf pd_4 rfl) rfl (by show 2 * 0 + _ ≤ _; exact Nat.le_of_eq rfl) (hb hby at_68) (fun _ _ => ⟨rfl, e0, (by decide : 2 + 0 ≤ _), (by decide : 5 + 0 ≤ _)⟩)
  dsimp only [Pt.U, Pt.locs, Pt.cells, Pt.slots] at X4 l4 y4 z4 st4 hQ4
  subst l4 y4 z4
  obtain ⟨rfl, N4q, hh4⟩ := hQ4
  have N4 := Fr.app N0 N4q
  refine own_step st4 ?_
  show own_Ends p e below s _ _ _ T4 (mkF m 71 #[.val (.int i0), .val (.int i1), .val (.int i2), .val (.int i3), .val (.ref al4_62), .val (.int ((1 : Int32) + ((i2 &&& (2147483647 : Int32)) % (2147483647 : Int32)))), .val (.int (i3 &&& (3 : Int32))), .val (.int il7_62), .unset] [(.int il7_62)])
  refine own_step (fun _ => XS.istore X4.here hx rfl (hb hby at_71) rfl (l' := #[.val (.int i0), .val (.int i1), .val (.int i2), .val (.int i3), .val (.ref al4_62), .val (.int ((1 : Int32) + ((i2 &&& (2147483647 : Int32)) % (2147483647 : Int32)))), .val (.int (i3 &&& (3 : Int32))), .val (.int il7_62), .val (.int il7_62)]) rfl) ?_
  show own_Ends p e below s _ _ _ T4 (mkF m 73 #[.val (.int i0), .val (.int i1), .val (.int i2), .val (.int i3), .val (.ref al4_62), .val (.int ((1 : Int32) + ((i2 &&& (2147483647 : Int32)) % (2147483647 : Int32)))), .val (.int (i3 &&& (3 : Int32))), .val (.int il7_62), .val (.int il7_62)] [])
  refine own_step (fun _ => XS.iload X4.here hx rfl (hb hby at_73) rfl) ?_
  show own_Ends p e below s _ _ _ T4 (mkF m 75 #[.val (.int i0), .val (.int i1), .val (.int i2), .val (.int i3), .val (.ref al4_62), .val (.int ((1 : Int32) + ((i2 &&& (2147483647 : Int32)) % (2147483647 : Int32)))), .val (.int (i3 &&& (3 : Int32))), .val (.int il7_62), .val (.int il7_62)] [(.int il7_62)])
  refine own_step (fun _ => XS.iload X4.here hx rfl (hb hby at_75) rfl) ?_
  show own_Ends p e below s _ _ _ T4 (mkF m 77 #[.val (.int i0), .val (.int i1), .val (.int i2), .val (.int i3), .val (.ref al4_62), .val (.int ((1 : Int32) + ((i2 &&& (2147483647 : Int32)) % (2147483647 : Int32)))), .val (.int (i3 &&& (3 : Int32))), .val (.int il7_62), .val (.int il7_62)] [(.int il7_62), (.int il7_62)])
  by_cases hc77 : il7_62 = il7_62
  · have hv_t := hv.trans (if_pos hc77)
    refine own_step (fun _ => XS.icmpNo X4.here hx rfl (hb hby at_77) rfl (teq hc77).2) ?_
    show own_Ends p e below s _ _ _ T4 (mkF m 80 #[.val (.int i0), .val (.int i1), .val (.int i2), .val (.int i3), .val (.ref al4_62), .val (.int ((1 : Int32) + ((i2 &&& (2147483647 : Int32)) % (2147483647 : Int32)))), .val (.int (i3 &&& (3 : Int32))), .val (.int il7_62), .val (.int il7_62)] [])
    refine own_step (fun _ => XS.iconst X4.here hx rfl (hb hby at_80)) ?_
    show own_Ends p e below s _ _ _ T4 (mkF m 81 #[.val (.int i0), .val (.int i1), .val (.int i2), .val (.int i3), .val (.ref al4_62), .val (.int ((1 : Int32) + ((i2 &&& (2147483647 : Int32)) % (2147483647 : Int32)))), .val (.int (i3 &&& (3 : Int32))), .val (.int il7_62), .val (.int il7_62)] [(.int (1 : Int32))])
    refine own_step (fun _ => XS.goto X4.here hx rfl (pc0 := 81) (pc' := 85) rfl (hb hby at_81) (by decide) (by decide)) ?_
    show own_Ends p e below s _ _ _ T4 (mkF m 85 #[.val (.int i0), .val (.int i1), .val (.int i2), .val (.int i3), .val (.ref al4_62), .val (.int ((1 : Int32) + ((i2 &&& (2147483647 : Int32)) % (2147483647 : Int32)))), .val (.int (i3 &&& (3 : Int32))), .val (.int il7_62), .val (.int il7_62)] [(.int (1 : Int32))])
    exact own_retN X4 (t := .boolean) hx hret hlk (hb hby at_85) (by decide) (by decide) (by simp) ⟨congrArg (fun z => some (Value.int z)) hv_t.symm, N4, trivial⟩
  · have hv_f := hv.trans (if_neg hc77)
    refine own_step (fun _ => XS.icmpYes X4.here hx rfl (pc0 := 77) (pc' := 84) rfl (hb hby at_77) rfl (feq hc77).2 (by decide) (by decide)) ?_
    show own_Ends p e below s _ _ _ T4 (mkF m 84 #[.val (.int i0), .val (.int i1), .val (.int i2), .val (.int i3), .val (.ref al4_62), .val (.int ((1 : Int32) + ((i2 &&& (2147483647 : Int32)) % (2147483647 : Int32)))), .val (.int (i3 &&& (3 : Int32))), .val (.int il7_62), .val (.int il7_62)] [])
    refine own_step (fun _ => XS.iconst X4.here hx rfl (hb hby at_84)) ?_
    show own_Ends p e below s _ _ _ T4 (mkF m 85 #[.val (.int i0), .val (.int i1), .val (.int i2), .val (.int i3), .val (.ref al4_62), .val (.int ((1 : Int32) + ((i2 &&& (2147483647 : Int32)) % (2147483647 : Int32)))), .val (.int (i3 &&& (3 : Int32))), .val (.int il7_62), .val (.int il7_62)] [(.int (0 : Int32))])
    exact own_retN X4 (t := .boolean) hx hret hlk (hb hby at_85) (by decide) (by decide) (by simp) ⟨congrArg (fun z => some (Value.int z)) hv_f.symm, N4, trivial⟩
def f0_0 (i0 : Int32) (i1 : Int32) (i2 : Int32) (i3 : Int32) (cs : Int32) : Int32 := (if (i3 &&& (3 : Int32)) = (0 : Int32) then (f0_62 i0 i1 i2 i3 cs (1 : Int32)) else (if (i3 &&& (3 : Int32)) = (1 : Int32) then (f0_62 i0 i1 i2 i3 cs ((1 : Int32) + ((i2 &&& (2147483647 : Int32)) % (2147483647 : Int32)))) else (f0_62 i0 i1 i2 i3 cs ((1 : Int32) + ((i1 &&& (2147483647 : Int32)) % ((1 : Int32) + ((i2 &&& (2147483647 : Int32)) % (2147483647 : Int32))))))))
set_option maxRecDepth 65536 in
set_option maxHeartbeats 40000000 in
theorem b0_0 {p : Program} {l : Launch} {e : Env} {s : State} {m : MethodId} {args : Array Value} {below : List Frame} {meth : Method} {c : Code} {Z : State} {a0 : Array Value} {h0 : Heap} {n0 : Nat} (C : own_C "com/example/tideshift/tideshift/RunOptionsCheckCountPinLaw" code maxLocals ret x.name p s m meth c Z a0) (Z0 : n0 ≤ h0.size) {T0 : State} {locs : List Loc} (X0 : Stand p l e room_1 s m args below meth c T0 locs 0 0) (e0 : T0.heap = h0) (N0 : Fr n0 locs) (i0 : Int32) (i1 : Int32) (i2 : Int32) (i3 : Int32) (cs : Int32) (Sc : Sta Z h0 "java/lang/String" "COMPACT_STRINGS" "Z" (.int cs)) (hcs : ¬ cs = 0) (W : Int32) (hv : W = f0_0 i0 i1 i2 i3 cs) :
    own_Ends p e below s room_1.cells room_1.slots (own_QL n0 (some (.int W))) T0 (mkF m 0 #[.val (.int i0), .val (.int i1), .val (.int i2), .val (.int i3), .unset, .unset, .unset, .unset, .unset] []) := by
  obtain ⟨hx, hZ, hw, hby, hml, hown, hret, hlk, hnm⟩ := C
  have C : own_C "com/example/tideshift/tideshift/RunOptionsCheckCountPinLaw" code maxLocals ret x.name p s m meth c Z a0 := ⟨hx, hZ, hw, hby, hml, hown, hret, hlk, hnm⟩
  unfold f0_0 at hv
  refine own_step (fun _ => XS.iloadN X0.here hx rfl (hb hby at_0) rfl) ?_
  show own_Ends p e below s _ _ _ T0 (mkF m 1 #[.val (.int i0), .val (.int i1), .val (.int i2), .val (.int i3), .unset, .unset, .unset, .unset, .unset] [(.int i0)])
  refine own_step (fun _ => XS.sipush X0.here hx rfl (hb hby at_1)) ?_
  show own_Ends p e below s _ _ _ T0 (mkF m 4 #[.val (.int i0), .val (.int i1), .val (.int i2), .val (.int i3), .unset, .unset, .unset, .unset, .unset] [(.int (255 : Int32)), (.int i0)])
  refine own_step (fun _ => XS.iand X0.here hx rfl (hb hby at_4) rfl) ?_
  show own_Ends p e below s _ _ _ T0 (mkF m 5 #[.val (.int i0), .val (.int i1), .val (.int i2), .val (.int i3), .unset, .unset, .unset, .unset, .unset] [(.int (i0 &&& (255 : Int32)))])
  refine own_step (fun _ => XS.i2c X0.here hx rfl (hb hby at_5) rfl) ?_
  show own_Ends p e below s _ _ _ T0 (mkF m 6 #[.val (.int i0), .val (.int i1), .val (.int i2), .val (.int i3), .unset, .unset, .unset, .unset, .unset] [(.int ((i0 &&& (255 : Int32)).toUInt32.toUInt16.toUInt32.toInt32))])
  obtain ⟨_, _, ⟨T5, L5, k5, n5⟩, -, X5, ⟨Lc5, hQ5, l5, y5, z5⟩, st5⟩ := Jvm.LawKit.callS X0 hx (y := (⟨"java/lang/String", "valueOf", "(C)Ljava/lang/String;"⟩ : MethodName)) hown (mvT hZ (hw _ (List.mem_of_getElem? (i := 0) rfl))) (mvT hZ (hw _ (List.mem_of_getElem? (i := 1) rfl))) (mvT hZ (hw _ (List.mem_of_getElem? (i := 2) rfl))) (mvT hZ (hw _ (List.mem_of_getElem? (i := 3) rfl))) (by decide) (backOf (W := 0) (rm1 l Z a0 hw [] ((i0 &&& (255 : Int32)).toUInt32.toUInt16.toUInt32.toInt32) cs h0 n0 Z0 Sc hcs (own_chr8 _)) hZ (hw _ (List.mem_of_getElem? (i := 3) rfl)) (hw _ (List.mem_of_getElem? (i := 2) rfl)) (by decide) (by decide)) (g := (mkF m 6 #[.val (.int i0), .val (.int i1), .val (.int i2), .val (.int i3), .unset, .unset, .unset, .unset, .unset] [(.int ((i0 &&& (255 : Int32)).toUInt32.toUInt16.toUInt32.toInt32))])) rfl (by rw [hml]; rfl) (argsL := [(.int ((i0 &&& (255 : Int32)).toUInt32.toUInt16.toUInt32.toInt32))]) (rest := []) (lenOf pd_3 rfl) rfl (by show 2 * 0 + _ ≤ _; exact Nat.le_of_eq rfl) (hb hby at_6) (fun _ _ => ⟨rfl, e0, (by decide : 0 + 2 ≤ _), (by decide : 0 + 5 ≤ _)⟩)
  dsimp only [Pt.U, Pt.locs, Pt.cells, Pt.slots] at X5 l5 y5 z5 st5 hQ5
  subst l5 y5 z5
  obtain ⟨b5, rfl, N5q, K5⟩ := hQ5
  have N5 := Fr.app N0 N5q
  have Zs5 : n0 ≤ T5.heap.size := Nat.le_trans Z0 K5.1
  refine own_step st5 ?_
  show own_Ends p e below s _ _ _ T5 (mkF m 9 #[.val (.int i0), .val (.int i1), .val (.int i2), .val (.int i3), .unset, .unset, .unset, .unset, .unset] [(.ref b5)])
  refine own_step (fun _ => XS.astore X5.here hx rfl (hb hby at_9) rfl rfl (l' := #[.val (.int i0), .val (.int i1), .val (.int i2), .val (.int i3), .val (.ref b5), .unset, .unset, .unset, .unset]) rfl) ?_
  show own_Ends p e below s _ _ _ T5 (mkF m 11 #[.val (.int i0), .val (.int i1), .val (.int i2), .val (.int i3), .val (.ref b5), .unset, .unset, .unset, .unset] [])
  refine own_step (fun _ => XS.iconst X5.here hx rfl (hb hby at_11)) ?_
  show own_Ends p e below s _ _ _ T5 (mkF m 12 #[.val (.int i0), .val (.int i1), .val (.int i2), .val (.int i3), .val (.ref b5), .unset, .unset, .unset, .unset] [(.int (1 : Int32))])
  refine own_step (fun _ => XS.iloadN X5.here hx rfl (hb hby at_12) rfl) ?_
  show own_Ends p e below s _ _ _ T5 (mkF m 13 #[.val (.int i0), .val (.int i1), .val (.int i2), .val (.int i3), .val (.ref b5), .unset, .unset, .unset, .unset] [(.int i2), (.int (1 : Int32))])
  refine own_step (fun _ => X5.ldcInt hx hown (mvT hZ (hw _ (List.mem_of_getElem? (i := 26) rfl))) (g := (mkF m 13 #[.val (.int i0), .val (.int i1), .val (.int i2), .val (.int i3), .val (.ref b5), .unset, .unset, .unset, .unset] [(.int i2), (.int (1 : Int32))])) rfl (hb hby at_13) _) ?_
  show own_Ends p e below s _ _ _ T5 (mkF m 15 #[.val (.int i0), .val (.int i1), .val (.int i2), .val (.int i3), .val (.ref b5), .unset, .unset, .unset, .unset] [(.int (2147483647 : Int32)), (.int i2), (.int (1 : Int32))])
  refine own_step (fun _ => XS.iand X5.here hx rfl (hb hby at_15) rfl) ?_
  show own_Ends p e below s _ _ _ T5 (mkF m 16 #[.val (.int i0), .val (.int i1), .val (.int i2), .val (.int i3), .val (.ref b5), .unset, .unset, .unset, .unset] [(.int (i2 &&& (2147483647 : Int32))), (.int (1 : Int32))])
  refine own_step (fun _ => X5.ldcInt hx hown (mvT hZ (hw _ (List.mem_of_getElem? (i := 26) rfl))) (g := (mkF m 16 #[.val (.int i0), .val (.int i1), .val (.int i2), .val (.int i3), .val (.ref b5), .unset, .unset, .unset, .unset] [(.int (i2 &&& (2147483647 : Int32))), (.int (1 : Int32))])) rfl (hb hby at_16) _) ?_
  show own_Ends p e below s _ _ _ T5 (mkF m 18 #[.val (.int i0), .val (.int i1), .val (.int i2), .val (.int i3), .val (.ref b5), .unset, .unset, .unset, .unset] [(.int (2147483647 : Int32)), (.int (i2 &&& (2147483647 : Int32))), (.int (1 : Int32))])
  refine own_step (fun _ => iremM X5 hx rfl (hb hby at_18) rfl (by decide)) ?_
  show own_Ends p e below s _ _ _ T5 (mkF m 19 #[.val (.int i0), .val (.int i1), .val (.int i2), .val (.int i3), .val (.ref b5), .unset, .unset, .unset, .unset] [(.int ((i2 &&& (2147483647 : Int32)) % (2147483647 : Int32))), (.int (1 : Int32))])
  refine own_step (fun _ => XS.iadd X5.here hx rfl (hb hby at_19) rfl) ?_
  show own_Ends p e below s _ _ _ T5 (mkF m 20 #[.val (.int i0), .val (.int i1), .val (.int i2), .val (.int i3), .val (.ref b5), .unset, .unset, .unset, .unset] [(.int ((1 : Int32) + ((i2 &&& (2147483647 : Int32)) % (2147483647 : Int32))))])
  refine own_step (fun _ => XS.istore X5.here hx rfl (hb hby at_20) rfl (l' := #[.val (.int i0), .val (.int i1), .val (.int i2), .val (.int i3), .val (.ref b5), .val (.int ((1 : Int32) + ((i2 &&& (2147483647 : Int32)) % (2147483647 : Int32)))), .unset, .unset, .unset]) rfl) ?_
  show own_Ends p e below s _ _ _ T5 (mkF m 22 #[.val (.int i0), .val (.int i1), .val (.int i2), .val (.int i3), .val (.ref b5), .val (.int ((1 : Int32) + ((i2 &&& (2147483647 : Int32)) % (2147483647 : Int32)))), .unset, .unset, .unset] [])
  refine own_step (fun _ => XS.iloadN X5.here hx rfl (hb hby at_22) rfl) ?_
  show own_Ends p e below s _ _ _ T5 (mkF m 23 #[.val (.int i0), .val (.int i1), .val (.int i2), .val (.int i3), .val (.ref b5), .val (.int ((1 : Int32) + ((i2 &&& (2147483647 : Int32)) % (2147483647 : Int32)))), .unset, .unset, .unset] [(.int i3)])
  refine own_step (fun _ => XS.iconst X5.here hx rfl (hb hby at_23)) ?_
  show own_Ends p e below s _ _ _ T5 (mkF m 24 #[.val (.int i0), .val (.int i1), .val (.int i2), .val (.int i3), .val (.ref b5), .val (.int ((1 : Int32) + ((i2 &&& (2147483647 : Int32)) % (2147483647 : Int32)))), .unset, .unset, .unset] [(.int (3 : Int32)), (.int i3)])
  refine own_step (fun _ => XS.iand X5.here hx rfl (hb hby at_24) rfl) ?_
  show own_Ends p e below s _ _ _ T5 (mkF m 25 #[.val (.int i0), .val (.int i1), .val (.int i2), .val (.int i3), .val (.ref b5), .val (.int ((1 : Int32) + ((i2 &&& (2147483647 : Int32)) % (2147483647 : Int32)))), .unset, .unset, .unset] [(.int (i3 &&& (3 : Int32)))])
  refine own_step (fun _ => XS.istore X5.here hx rfl (hb hby at_25) rfl (l' := #[.val (.int i0), .val (.int i1), .val (.int i2), .val (.int i3), .val (.ref b5), .val (.int ((1 : Int32) + ((i2 &&& (2147483647 : Int32)) % (2147483647 : Int32)))), .val (.int (i3 &&& (3 : Int32))), .unset, .unset]) rfl) ?_
  show own_Ends p e below s _ _ _ T5 (mkF m 27 #[.val (.int i0), .val (.int i1), .val (.int i2), .val (.int i3), .val (.ref b5), .val (.int ((1 : Int32) + ((i2 &&& (2147483647 : Int32)) % (2147483647 : Int32)))), .val (.int (i3 &&& (3 : Int32))), .unset, .unset] [])
  refine own_step (fun _ => XS.iload X5.here hx rfl (hb hby at_27) rfl) ?_
  show own_Ends p e below s _ _ _ T5 (mkF m 29 #[.val (.int i0), .val (.int i1), .val (.int i2), .val (.int i3), .val (.ref b5), .val (.int ((1 : Int32) + ((i2 &&& (2147483647 : Int32)) % (2147483647 : Int32)))), .val (.int (i3 &&& (3 : Int32))), .unset, .unset] [(.int (i3 &&& (3 : Int32)))])
  by_cases hc29 : (i3 &&& (3 : Int32)) = (0 : Int32)
  · have hv_t := hv.trans (if_pos hc29)
    refine own_step (fun _ => XS.ifNo X5.here hx rfl (hb hby at_29) rfl ((if0 _ _).trans (teq hc29).2)) ?_
    show own_Ends p e below s _ _ _ T5 (mkF m 32 #[.val (.int i0), .val (.int i1), .val (.int i2), .val (.int i3), .val (.ref b5), .val (.int ((1 : Int32) + ((i2 &&& (2147483647 : Int32)) % (2147483647 : Int32)))), .val (.int (i3 &&& (3 : Int32))), .unset, .unset] [])
    refine own_step (fun _ => XS.iconst X5.here hx rfl (hb hby at_32)) ?_
    show own_Ends p e below s _ _ _ T5 (mkF m 33 #[.val (.int i0), .val (.int i1), .val (.int i2), .val (.int i3), .val (.ref b5), .val (.int ((1 : Int32) + ((i2 &&& (2147483647 : Int32)) % (2147483647 : Int32)))), .val (.int (i3 &&& (3 : Int32))), .unset, .unset] [(.int (1 : Int32))])
    refine own_step (fun _ => XS.istore X5.here hx rfl (hb hby at_33) rfl (l' := #[.val (.int i0), .val (.int i1), .val (.int i2), .val (.int i3), .val (.ref b5), .val (.int ((1 : Int32) + ((i2 &&& (2147483647 : Int32)) % (2147483647 : Int32)))), .val (.int (i3 &&& (3 : Int32))), .val (.int (1 : Int32)), .unset]) rfl) ?_
    show own_Ends p e below s _ _ _ T5 (mkF m 35 #[.val (.int i0), .val (.int i1), .val (.int i2), .val (.int i3), .val (.ref b5), .val (.int ((1 : Int32) + ((i2 &&& (2147483647 : Int32)) % (2147483647 : Int32)))), .val (.int (i3 &&& (3 : Int32))), .val (.int (1 : Int32)), .unset] [])
    refine own_step (fun _ => XS.goto X5.here hx rfl (pc0 := 35) (pc' := 62) rfl (hb hby at_35) (by decide) (by decide)) ?_
    show own_Ends p e below s _ _ _ T5 (mkF m 62 #[.val (.int i0), .val (.int i1), .val (.int i2), .val (.int i3), .val (.ref b5), .val (.int ((1 : Int32) + ((i2 &&& (2147483647 : Int32)) % (2147483647 : Int32)))), .val (.int (i3 &&& (3 : Int32))), .val (.int (1 : Int32)), .unset] [])
    exact b0_62 C Zs5 X5 rfl N5 i0 i1 i2 i3 cs hcs b5 (1 : Int32) (own_k1 i2) _ hv_t
  · have hv_f := hv.trans (if_neg hc29)
    refine own_step (fun _ => XS.ifYes X5.here hx rfl (pc0 := 29) (pc' := 38) rfl (hb hby at_29) rfl ((if0 _ _).trans (feq hc29).2) (by decide) (by decide)) ?_
    show own_Ends p e below s _ _ _ T5 (mkF m 38 #[.val (.int i0), .val (.int i1), .val (.int i2), .val (.int i3), .val (.ref b5), .val (.int ((1 : Int32) + ((i2 &&& (2147483647 : Int32)) % (2147483647 : Int32)))), .val (.int (i3 &&& (3 : Int32))), .unset, .unset] [])
    refine own_step (fun _ => XS.iload X5.here hx rfl (hb hby at_38) rfl) ?_
    show own_Ends p e below s _ _ _ T5 (mkF m 40 #[.val (.int i0), .val (.int i1), .val (.int i2), .val (.int i3), .val (.ref b5), .val (.int ((1 : Int32) + ((i2 &&& (2147483647 : Int32)) % (2147483647 : Int32)))), .val (.int (i3 &&& (3 : Int32))), .unset, .unset] [(.int (i3 &&& (3 : Int32)))])
    refine own_step (fun _ => XS.iconst X5.here hx rfl (hb hby at_40)) ?_
    show own_Ends p e below s _ _ _ T5 (mkF m 41 #[.val (.int i0), .val (.int i1), .val (.int i2), .val (.int i3), .val (.ref b5), .val (.int ((1 : Int32) + ((i2 &&& (2147483647 : Int32)) % (2147483647 : Int32)))), .val (.int (i3 &&& (3 : Int32))), .unset, .unset] [(.int (1 : Int32)), (.int (i3 &&& (3 : Int32)))])
    by_cases hc41 : (i3 &&& (3 : Int32)) = (1 : Int32)
    · have hv_f_t := hv_f.trans (if_pos hc41)
      refine own_step (fun _ => XS.icmpNo X5.here hx rfl (hb hby at_41) rfl (teq hc41).2) ?_
      show own_Ends p e below s _ _ _ T5 (mkF m 44 #[.val (.int i0), .val (.int i1), .val (.int i2), .val (.int i3), .val (.ref b5), .val (.int ((1 : Int32) + ((i2 &&& (2147483647 : Int32)) % (2147483647 : Int32)))), .val (.int (i3 &&& (3 : Int32))), .unset, .unset] [])
      refine own_step (fun _ => XS.iload X5.here hx rfl (hb hby at_44) rfl) ?_
      show own_Ends p e below s _ _ _ T5 (mkF m 46 #[.val (.int i0), .val (.int i1), .val (.int i2), .val (.int i3), .val (.ref b5), .val (.int ((1 : Int32) + ((i2 &&& (2147483647 : Int32)) % (2147483647 : Int32)))), .val (.int (i3 &&& (3 : Int32))), .unset, .unset] [(.int ((1 : Int32) + ((i2 &&& (2147483647 : Int32)) % (2147483647 : Int32))))])
      refine own_step (fun _ => XS.istore X5.here hx rfl (hb hby at_46) rfl (l' := #[.val (.int i0), .val (.int i1), .val (.int i2), .val (.int i3), .val (.ref b5), .val (.int ((1 : Int32) + ((i2 &&& (2147483647 : Int32)) % (2147483647 : Int32)))), .val (.int (i3 &&& (3 : Int32))), .val (.int ((1 : Int32) + ((i2 &&& (2147483647 : Int32)) % (2147483647 : Int32)))), .unset]) rfl) ?_
      show own_Ends p e below s _ _ _ T5 (mkF m 48 #[.val (.int i0), .val (.int i1), .val (.int i2), .val (.int i3), .val (.ref b5), .val (.int ((1 : Int32) + ((i2 &&& (2147483647 : Int32)) % (2147483647 : Int32)))), .val (.int (i3 &&& (3 : Int32))), .val (.int ((1 : Int32) + ((i2 &&& (2147483647 : Int32)) % (2147483647 : Int32)))), .unset] [])
      refine own_step (fun _ => XS.goto X5.here hx rfl (pc0 := 48) (pc' := 62) rfl (hb hby at_48) (by decide) (by decide)) ?_
      show own_Ends p e below s _ _ _ T5 (mkF m 62 #[.val (.int i0), .val (.int i1), .val (.int i2), .val (.int i3), .val (.ref b5), .val (.int ((1 : Int32) + ((i2 &&& (2147483647 : Int32)) % (2147483647 : Int32)))), .val (.int (i3 &&& (3 : Int32))), .val (.int ((1 : Int32) + ((i2 &&& (2147483647 : Int32)) % (2147483647 : Int32)))), .unset] [])
      exact b0_62 C Zs5 X5 rfl N5 i0 i1 i2 i3 cs hcs b5 ((1 : Int32) + ((i2 &&& (2147483647 : Int32)) % (2147483647 : Int32))) (own_k2 i2) _ hv_f_t
    · have hv_f_f := hv_f.trans (if_neg hc41)
      refine own_step (fun _ => XS.icmpYes X5.here hx rfl (pc0 := 41) (pc' := 51) rfl (hb hby at_41) rfl (feq hc41).2 (by decide) (by decide)) ?_
      show own_Ends p e below s _ _ _ T5 (mkF m 51 #[.val (.int i0), .val (.int i1), .val (.int i2), .val (.int i3), .val (.ref b5), .val (.int ((1 : Int32) + ((i2 &&& (2147483647 : Int32)) % (2147483647 : Int32)))), .val (.int (i3 &&& (3 : Int32))), .unset, .unset] [])
      refine own_step (fun _ => XS.iconst X5.here hx rfl (hb hby at_51)) ?_
      show own_Ends p e below s _ _ _ T5 (mkF m 52 #[.val (.int i0), .val (.int i1), .val (.int i2), .val (.int i3), .val (.ref b5), .val (.int ((1 : Int32) + ((i2 &&& (2147483647 : Int32)) % (2147483647 : Int32)))), .val (.int (i3 &&& (3 : Int32))), .unset, .unset] [(.int (1 : Int32))])
      refine own_step (fun _ => XS.iloadN X5.here hx rfl (hb hby at_52) rfl) ?_
      show own_Ends p e below s _ _ _ T5 (mkF m 53 #[.val (.int i0), .val (.int i1), .val (.int i2), .val (.int i3), .val (.ref b5), .val (.int ((1 : Int32) + ((i2 &&& (2147483647 : Int32)) % (2147483647 : Int32)))), .val (.int (i3 &&& (3 : Int32))), .unset, .unset] [(.int i1), (.int (1 : Int32))])
      refine own_step (fun _ => X5.ldcInt hx hown (mvT hZ (hw _ (List.mem_of_getElem? (i := 26) rfl))) (g := (mkF m 53 #[.val (.int i0), .val (.int i1), .val (.int i2), .val (.int i3), .val (.ref b5), .val (.int ((1 : Int32) + ((i2 &&& (2147483647 : Int32)) % (2147483647 : Int32)))), .val (.int (i3 &&& (3 : Int32))), .unset, .unset] [(.int i1), (.int (1 : Int32))])) rfl (hb hby at_53) _) ?_
      show own_Ends p e below s _ _ _ T5 (mkF m 55 #[.val (.int i0), .val (.int i1), .val (.int i2), .val (.int i3), .val (.ref b5), .val (.int ((1 : Int32) + ((i2 &&& (2147483647 : Int32)) % (2147483647 : Int32)))), .val (.int (i3 &&& (3 : Int32))), .unset, .unset] [(.int (2147483647 : Int32)), (.int i1), (.int (1 : Int32))])
      refine own_step (fun _ => XS.iand X5.here hx rfl (hb hby at_55) rfl) ?_
      show own_Ends p e below s _ _ _ T5 (mkF m 56 #[.val (.int i0), .val (.int i1), .val (.int i2), .val (.int i3), .val (.ref b5), .val (.int ((1 : Int32) + ((i2 &&& (2147483647 : Int32)) % (2147483647 : Int32)))), .val (.int (i3 &&& (3 : Int32))), .unset, .unset] [(.int (i1 &&& (2147483647 : Int32))), (.int (1 : Int32))])
      refine own_step (fun _ => XS.iload X5.here hx rfl (hb hby at_56) rfl) ?_
      show own_Ends p e below s _ _ _ T5 (mkF m 58 #[.val (.int i0), .val (.int i1), .val (.int i2), .val (.int i3), .val (.ref b5), .val (.int ((1 : Int32) + ((i2 &&& (2147483647 : Int32)) % (2147483647 : Int32)))), .val (.int (i3 &&& (3 : Int32))), .unset, .unset] [(.int ((1 : Int32) + ((i2 &&& (2147483647 : Int32)) % (2147483647 : Int32)))), (.int (i1 &&& (2147483647 : Int32))), (.int (1 : Int32))])
      refine own_step (fun _ => iremM X5 hx rfl (hb hby at_58) rfl (own_mx _)) ?_
      show own_Ends p e below s _ _ _ T5 (mkF m 59 #[.val (.int i0), .val (.int i1), .val (.int i2), .val (.int i3), .val (.ref b5), .val (.int ((1 : Int32) + ((i2 &&& (2147483647 : Int32)) % (2147483647 : Int32)))), .val (.int (i3 &&& (3 : Int32))), .unset, .unset] [(.int ((i1 &&& (2147483647 : Int32)) % ((1 : Int32) + ((i2 &&& (2147483647 : Int32)) % (2147483647 : Int32))))), (.int (1 : Int32))])
      refine own_step (fun _ => XS.iadd X5.here hx rfl (hb hby at_59) rfl) ?_
      show own_Ends p e below s _ _ _ T5 (mkF m 60 #[.val (.int i0), .val (.int i1), .val (.int i2), .val (.int i3), .val (.ref b5), .val (.int ((1 : Int32) + ((i2 &&& (2147483647 : Int32)) % (2147483647 : Int32)))), .val (.int (i3 &&& (3 : Int32))), .unset, .unset] [(.int ((1 : Int32) + ((i1 &&& (2147483647 : Int32)) % ((1 : Int32) + ((i2 &&& (2147483647 : Int32)) % (2147483647 : Int32))))))])
      refine own_step (fun _ => XS.istore X5.here hx rfl (hb hby at_60) rfl (l' := #[.val (.int i0), .val (.int i1), .val (.int i2), .val (.int i3), .val (.ref b5), .val (.int ((1 : Int32) + ((i2 &&& (2147483647 : Int32)) % (2147483647 : Int32)))), .val (.int (i3 &&& (3 : Int32))), .val (.int ((1 : Int32) + ((i1 &&& (2147483647 : Int32)) % ((1 : Int32) + ((i2 &&& (2147483647 : Int32)) % (2147483647 : Int32)))))), .unset]) rfl) ?_
      show own_Ends p e below s _ _ _ T5 (mkF m 62 #[.val (.int i0), .val (.int i1), .val (.int i2), .val (.int i3), .val (.ref b5), .val (.int ((1 : Int32) + ((i2 &&& (2147483647 : Int32)) % (2147483647 : Int32)))), .val (.int (i3 &&& (3 : Int32))), .val (.int ((1 : Int32) + ((i1 &&& (2147483647 : Int32)) % ((1 : Int32) + ((i2 &&& (2147483647 : Int32)) % (2147483647 : Int32)))))), .unset] [])
      exact b0_62 C Zs5 X5 rfl N5 i0 i1 i2 i3 cs hcs b5 ((1 : Int32) + ((i1 &&& (2147483647 : Int32)) % ((1 : Int32) + ((i2 &&& (2147483647 : Int32)) % (2147483647 : Int32))))) (own_k3 i1 i2) _ hv_f_f
theorem ef_rm0 (m : MethodId) (i0 : Int32) (i1 : Int32) (i2 : Int32) (i3 : Int32) : entryFrame m #[(.int i0), (.int i1), (.int i2), (.int i3)] maxLocals = mkF m 0 #[.val (.int i0), .val (.int i1), .val (.int i2), .val (.int i3), .unset, .unset, .unset, .unset, .unset] [] := by first | (simp [entryFrame, mkF, argsToLocals, Value.category, maxLocals]; done) | rfl
set_option maxRecDepth 65536 in
set_option maxHeartbeats 40000000 in
theorem rm0 (l : Launch) (Z : State) (a0 : Array Value) (hw : ∀ d ∈ tables_1, d.before a0 Z = true) (ws : List Jvm.Cond) (i0 : Int32) (i1 : Int32) (i2 : Int32) (i3 : Int32) (cs : Int32) (h0 : Heap) (n0 : Nat) (Z0 : n0 ≤ h0.size) (Sc : Sta Z h0 "java/lang/String" "COMPACT_STRINGS" "Z" (.int cs)) (hcs : ¬ cs = 0) :
    MetFree l x (head1 (Jvm.Cond.code x code maxLocals ret :: ws) room_1) (fun a U => a = #[(.int i0), (.int i1), (.int i2), (.int i3)] ∧ Z.Warmed39 U.vm ∧ U.heap = h0) (fun _ _ _ _ _ => True) (fun _ U o U' => ∃ v L, o = .returned v ∧ (own_QL n0 (some (.int (f0_0 i0 i1 i2 i3 cs)))) v U'.heap L ∧ FrameEnd U o U' L room_1.cells room_1.slots) := by
  refine MetFree.of_bodySF (plainFor_of_name pn_3) hisR ?_
  intro p e s m args below meth c s₁ Bd hml0 hP hK
  obtain ⟨rfl, hZ, hh⟩ := hP
  have X0 : Stand p l e room_1 s m #[(.int i0), (.int i1), (.int i2), (.int i3)] below meth c s₁ [] 0 0 := Stand.of_body Bd
  have e0 : s₁.heap = h0 := by rw [← hh, Bd.state]; rfl
  have C : own_C "com/example/tideshift/tideshift/RunOptionsCheckCountPinLaw" code maxLocals ret x.name p s m meth c Z a0 := ⟨Bd.exec, hZ, hw, Bd.bytes, hml0, findClass_of_methodNamed Bd.named, Bd.returns, Bd.notSynchronized, (name_of_methodNamed Bd.named Bd.method).1⟩
  have r := b0_0 C Z0 X0 e0 (Fr.nil n0) i0 i1 i2 i3 cs Sc hcs _ rfl
  rw [ef_rm0 m i0 i1 i2 i3]
  exact r
theorem own_law (i0 i1 i2 i3 cs : Int32) : f0_0 i0 i1 i2 i3 cs = 1 := by
  unfold f0_0
  split
  · unfold f0_62; exact if_pos rfl
  · split <;> (unfold f0_62; exact if_pos rfl)

set_option maxRecDepth 65536 in
set_option maxHeartbeats 40000000 in
theorem comes_1 {Post : Tables → Env → Array Value → State → Outcome → State → Prop} (hpost : ∀ tb e args s v u, (limb_1_1.after args s (.returned v) u = true ∧ limb_1_2.after args s (.returned v) u = true ∧ True) → FrameEnd s (.returned v) u (Jvm.fieldLocs frame_1_writes args s ++ Jvm.arrayLocs frame_1_arrays args s ++ Jvm.staticLocs frame_1_statics s) 16 128 → Post tb e args s (.returned v) u) :
    ArmFor flags0 classFile x code maxLocals ret World_1 tables_1 room_1 Calls_1 rest_1 Pre_1 Post := by
  intro l hfl _ _ p e ha hc hk s m args below hf hA hF happ hP
  obtain ⟨hcalls, hrest, hpre⟩ := hP
  obtain ⟨-, -, -, hnamed, -, -, -, hat⟩ := (Spec.applies_iff hf).mp happ
  obtain ⟨hg, hn⟩ := and_e (Cond.before_iff.mp (show (Jvm.Cond.and given_1 narrow_1).before args s = true from hpre))
  obtain ⟨g1, g2⟩ := and_e hg
  obtain ⟨g3, g4⟩ := and_e g2
  obtain ⟨g5, g6⟩ := and_e g4
  obtain ⟨g7, g8⟩ := and_e g6
  obtain ⟨w0, w1, w2, w3, rfl⟩ : ∃ w0 w1 w2 w3 : Value, args = #[w0, w1, w2, w3] := by
    have hs : args.size = 4 := by simpa [Cond.value, given_1] using g1
    obtain ⟨L⟩ := args
    match L, hs with
    | [w0, w1, w2, w3], _ => exact ⟨w0, w1, w2, w3, rfl⟩
  have hw := fun d (hd : d ∈ tables_1) => atoms_spec (ws := Jvm.Cond.code x code maxLocals ret :: tables_1) hat d (List.mem_cons_of_mem _ hd)
  have hfit : Fit s := fun {y c} hc i hi => by
    obtain ⟨ha, rfl⟩ := Array.getElem?_eq_some_iff.mp hc
    have q := List.all_eq_true.mp ((Array.all_eq_true_iff_forall_mem.mp hF) _ (Array.getElem_mem ha)) i (List.mem_range.mpr hi)
    simpa [Array.getElem?_eq_getElem hi] using q
  obtain ⟨hS, hown0⟩ := atoms_of _ (rest_1_c_eq ▸ (show rest_1_c.before _ s = true from hrest))
  obtain ⟨i0, ei0⟩ := is_v g3
  obtain rfl : w0 = (.int i0) := Option.some.inj ei0
  obtain ⟨i1, ei1⟩ := is_v g5
  obtain rfl : w1 = (.int i1) := Option.some.inj ei1
  obtain ⟨i2, ei2⟩ := is_v g7
  obtain rfl : w2 = (.int i2) := Option.some.inj ei2
  obtain ⟨i3, ei3⟩ := is_v g8
  obtain rfl : w3 = (.int i3) := Option.some.inj ei3
  obtain ⟨cs, Sc, hcs⟩ := own_compact hS
  obtain ⟨n, o, h1, h2, h3, _, L, rfl, ⟨rfl, N, -⟩, hq⟩ := rm0 l s _ hw tables_1 i0 i1 i2 i3 cs s.heap s.heap.size (Nat.le_refl _) Sc hcs p e ha hc hk s m _ below hf ((Spec.applies_iff_loose hf).mp happ).1 ⟨rfl, State.Warmed39.refl s, rfl⟩ trivial
  refine ⟨n, _, h1, h2, h3, hpost _ _ _ _ _ _ ⟨Cond.after_iff.mpr rfl, Cond.after_iff.mpr (eq_i res_at (Term.int_eval (1)) (congrArg Value.int (own_law i0 i1 i2 i3 cs))), trivial⟩ ⟨hq.1, hq.2.1, (hq.2.2.sift fun y hy => Or.inr (N y hy)).mono (by decide) (by decide)⟩⟩
theorem main_1_1 : Claimed_1_1 := comes_1 fun _ _ _ _ _ _ h hF => ⟨h.1, hF⟩
theorem main_1_2 : Claimed_1_2 := comes_1 fun _ _ _ _ _ _ h hF => ⟨h.2.1, hF⟩
end Jvm.Pilot.@@N@@
namespace Jvm.Pilot.@@N@@
open Jvm Jvm.ClassFile Sem Op Lib Jvm.Free Jvm.Stand Jvm.Pilot.@@N@@.Jvm.D
/-! MADE BY PROGRAM (witnessworld.py) out of the Statement's table words and the real class files: 17 classes; the members and pool entries that the words name. The judged class is class 1, her method 1. -/
namespace start1
open Jvm.ClassFile
def u (s : String) : CpInfo := .utf8 (stringToUtf16 s)
/-- a pool by its gaps: so many unusable entries, then the entry; so many at the end -/
def gap : Nat → List CpInfo → List CpInfo
  | 0, r => r
  | n + 1, r => .unusable :: gap n r
def poolList (es : List (Nat × CpInfo)) (last : Nat) : List CpInfo := es.foldr (fun e r => gap e.1 (e.2 :: r)) (gap last [])
def pool (es : List (Nat × CpInfo)) (last : Nat) : Array CpInfo := ⟨poolList es last⟩
def fileOf (pool : Array CpInfo) (this : Nat) (attrs : Array Attribute := #[]) (ms : Array MethodInfo := #[]) (fl : Nat := 33) (sup : Nat := 0) (ifs : Array Nat := #[]) (fds : Array FieldInfo := #[]) : ClassFile where
  minorVersion := 0
  majorVersion := 65
  constantPool := pool
  accessFlags := fl
  thisClass := this
  superClass := sup
  interfaces := ifs
  fields := fds
  methods := ms
  attributes := attrs
def plain (name : String) (sup : Option ClassId) : Class where
  name := name
  kind := .ordinary
  loader := none
  accessFlags := 33
  super := sup
  interfaces := #[]
  cf := none
  fields := #[]
  methods := #[]
  instanceTypes := #[]
  staticTypes := #[]
  resolved := #[]
  callSites := []
  init := .initialized
  statics := none
  mirror := none

def pool0 : Array CpInfo := pool [(5, u "<init>"), (0, u "()V"), (1, .class_ 10), (1, u "java/lang/Object")] 113

def k0c0 : Code := { maxStack := 0, maxLocals := 1, code := object_method_1_code, exceptionTable := #[], attributes := #[] }
def k0m0 : Method := { name := "<init>", desc := "()V", sig := { parameters := [], returnType := none }, accessFlags := 1, code := some k0c0 }
/-- java/lang/Object -/
def k0 : Class := { plain "java/lang/Object" none with
  accessFlags := 33
  interfaces := #[]
  cf := some (fileOf pool0 8 #[] #[{ accessFlags := 1, nameIndex := 5, descriptorIndex := 6, attributes := #[] }] 33 0 #[] #[])
  fields := #[]
  methods := #[k0m0]
  instanceTypes := #[]
  staticTypes := #[]
  resolved := Array.replicate 124 none
  statics := none }

def pool1 : Array CpInfo := pool [(2, .class_ 4), (1, u "java/lang/Object"), (0, u "<init>"), (0, u "()V"), (0, .methodref 8 9), (0, .class_ 10), (0, .nameAndType 11 12), (0, u "java/lang/String"), (0, u "valueOf"), (0, u "(C)Ljava/lang/String;"), (0, .integer 2147483647), (0, .methodref 15 16), (0, .class_ 17), (0, .nameAndType 18 19), (0, u "com/example/tideshift/tideshift/RunOptions"), (0, u "checkCount"), (0, u "(Ljava/lang/String;II)I"), (0, .class_ 21), (0, u "com/example/tideshift/tideshift/RunOptionsCheckCountPinLaw"), (2, u "law"), (0, u "(IIII)Z")] 3

def k1m0 : Method := { name := "<init>", desc := "()V", sig := { parameters := [], returnType := none }, accessFlags := 2, code := none }
def k1c1 : Code := { maxStack := 3, maxLocals := 9, code := code, exceptionTable := #[], attributes := #[] }
def k1m1 : Method := { name := "law", desc := "(IIII)Z", sig := { parameters := [.int, .int, .int, .int], returnType := some .boolean }, accessFlags := 9, code := some k1c1 }
/-- com/example/tideshift/tideshift/RunOptionsCheckCountPinLaw -/
def k1 : Class := { plain "com/example/tideshift/tideshift/RunOptionsCheckCountPinLaw" (some 0) with
  accessFlags := 49
  interfaces := #[]
  cf := some (fileOf pool1 20 #[] #[{ accessFlags := 2, nameIndex := 5, descriptorIndex := 6, attributes := #[] }, { accessFlags := 9, nameIndex := 24, descriptorIndex := 25, attributes := #[] }] 49 2 #[] #[])
  fields := #[]
  methods := #[k1m0, k1m1]
  instanceTypes := #[]
  staticTypes := #[]
  resolved := Array.replicate 29 none
  statics := none }

def pool2 : Array CpInfo := pool [(1, .class_ 2), (0, u "java/io/Serializable"), (0, .class_ 4), (0, u "java/lang/Object")] 2

/-- java/io/Serializable -/
def k2 : Class := { plain "java/io/Serializable" (some 0) with
  accessFlags := 1537
  interfaces := #[]
  cf := some (fileOf pool2 1 #[] #[] 1537 3 #[] #[])
  fields := #[]
  methods := #[]
  instanceTypes := #[]
  staticTypes := #[]
  resolved := Array.replicate 7 none
  statics := none }

def pool3 : Array CpInfo := pool [(1, .class_ 2), (0, u "java/lang/Comparable"), (0, .class_ 4), (0, u "java/lang/Object")] 7

/-- java/lang/Comparable -/
def k3 : Class := { plain "java/lang/Comparable" (some 0) with
  accessFlags := 1537
  interfaces := #[]
  cf := some (fileOf pool3 1 #[] #[] 1537 3 #[] #[])
  fields := #[]
  methods := #[]
  instanceTypes := #[]
  staticTypes := #[]
  resolved := Array.replicate 12 none
  statics := none }

def pool4 : Array CpInfo := pool [(2, .class_ 4), (1, u "java/lang/CharSequence"), (42, .class_ 48), (0, u "java/lang/CharSequence$1CodePointIterator"), (10, .class_ 60), (0, u "java/lang/CharSequence$1CharIterator"), (5, .class_ 67), (0, u "java/lang/Object")] 63

/-- java/lang/CharSequence -/
def k4 : Class := { plain "java/lang/CharSequence" (some 0) with
  accessFlags := 1537
  interfaces := #[]
  cf := some (fileOf pool4 2 #[.nestMembers #[47, 59]] #[] 1537 66 #[] #[])
  fields := #[]
  methods := #[]
  instanceTypes := #[]
  staticTypes := #[]
  resolved := Array.replicate 131 none
  statics := none }

def pool5 : Array CpInfo := pool [(1, .class_ 2), (0, u "java/lang/constant/Constable"), (0, .class_ 4), (0, u "java/lang/Object")] 6

/-- java/lang/constant/Constable -/
def k5 : Class := { plain "java/lang/constant/Constable" (some 0) with
  accessFlags := 1537
  interfaces := #[]
  cf := some (fileOf pool5 1 #[] #[] 1537 3 #[] #[])
  fields := #[]
  methods := #[]
  instanceTypes := #[]
  staticTypes := #[]
  resolved := Array.replicate 11 none
  statics := none }

def pool6 : Array CpInfo := pool [(1, .class_ 2), (0, u "java/lang/constant/ConstantDesc"), (0, .class_ 4), (0, u "java/lang/Object")] 32

/-- java/lang/constant/ConstantDesc -/
def k6 : Class := { plain "java/lang/constant/ConstantDesc" (some 0) with
  accessFlags := 1537
  interfaces := #[]
  cf := some (fileOf pool6 1 #[] #[] 1537 3 #[] #[])
  fields := #[]
  methods := #[]
  instanceTypes := #[]
  staticTypes := #[]
  resolved := Array.replicate 37 none
  statics := none }

def pool7 : Array CpInfo := pool [(1, .methodref 2 3), (0, .class_ 4), (0, .nameAndType 5 6), (0, u "java/lang/Object"), (0, u "<init>"), (0, u "()V"), (2, .fieldref 10 11), (0, .class_ 12), (0, .nameAndType 13 14), (0, u "java/lang/String"), (0, u "value"), (0, u "[B"), (0, .fieldref 10 16), (0, .nameAndType 17 18), (0, u "coder"), (0, u "B"), (2, u "hash"), (0, u "I"), (2, u "hashIsZero"), (0, u "Z"), (11, .fieldref 10 39), (0, .nameAndType 40 26), (0, u "COMPACT_STRINGS"), (12, u "toBytes"), (53, .class_ 109), (1, u "java/lang/StringLatin1"), (99, .methodref 10 210), (0, .nameAndType 5 211), (0, u "([BB)V"), (157, u "(C)Z"), (205, .class_ 576), (0, u "java/lang/CharSequence"), (22, u "CASE_INSENSITIVE_ORDER"), (0, u "Ljava/util/Comparator;"), (181, u "valueOf"), (0, u "(C)Ljava/lang/String;"), (231, .methodref 107 1016), (0, .nameAndType 1017 369), (0, u "canEncode"), (0, .methodref 107 1019), (0, .nameAndType 53 1020), (0, u "(C)[B"), (80, u "serialPersistentFields"), (0, u "[Ljava/io/ObjectStreamField;"), (0, .class_ 1104), (0, u "java/lang/String$CaseInsensitiveComparator"), (1, .class_ 1107), (0, u "java/io/Serializable"), (0, .class_ 1109), (0, u "java/lang/Comparable"), (0, .class_ 1111), (0, u "java/lang/constant/Constable"), (0, .class_ 1113), (0, u "java/lang/constant/ConstantDesc"), (2, u "serialVersionUID"), (0, u "J"), (3, u "REPL"), (0, u "C"), (2, u "LATIN1"), (1, u "UTF16")] 323

def k7m0 : Method := { name := "<init>", desc := "()V", sig := { parameters := [], returnType := none }, accessFlags := 1, code := none }
def k7c1 : Code := { maxStack := 4, maxLocals := 1, code := jdk_42_method_139_code, exceptionTable := #[], attributes := #[] }
def k7m1 : Method := { name := "valueOf", desc := "(C)Ljava/lang/String;", sig := { parameters := [.char], returnType := some (.object "java/lang/String") }, accessFlags := 9, code := some k7c1 }
def k7c2 : Code := { maxStack := 2, maxLocals := 3, code := jdk_42_method_151_code, exceptionTable := #[], attributes := #[] }
def k7m2 : Method := { name := "<init>", desc := "([BB)V", sig := { parameters := [(.array .byte), .byte], returnType := none }, accessFlags := 0, code := some k7c2 }
/-- java/lang/String -/
def k7 : Class := { plain "java/lang/String" (some 0) with
  accessFlags := 49
  interfaces := #[2, 3, 4, 5, 6]
  cf := some (fileOf pool7 10 #[.nestMembers #[1103]] #[{ accessFlags := 1, nameIndex := 5, descriptorIndex := 6, attributes := #[] }, { accessFlags := 9, nameIndex := 782, descriptorIndex := 783, attributes := #[] }, { accessFlags := 0, nameIndex := 5, descriptorIndex := 211, attributes := #[] }] 49 2 #[1106, 1108, 575, 1110, 1112] #[{ accessFlags := 18, nameIndex := 13, descriptorIndex := 14, attributes := #[] }, { accessFlags := 18, nameIndex := 17, descriptorIndex := 18, attributes := #[] }, { accessFlags := 2, nameIndex := 21, descriptorIndex := 22, attributes := #[] }, { accessFlags := 2, nameIndex := 25, descriptorIndex := 26, attributes := #[] }, { accessFlags := 26, nameIndex := 1116, descriptorIndex := 1117, attributes := #[] }, { accessFlags := 24, nameIndex := 40, descriptorIndex := 26, attributes := #[] }, { accessFlags := 26, nameIndex := 1101, descriptorIndex := 1102, attributes := #[] }, { accessFlags := 26, nameIndex := 1121, descriptorIndex := 1122, attributes := #[] }, { accessFlags := 25, nameIndex := 599, descriptorIndex := 600, attributes := #[] }, { accessFlags := 24, nameIndex := 1125, descriptorIndex := 18, attributes := #[] }, { accessFlags := 24, nameIndex := 1127, descriptorIndex := 18, attributes := #[] }])
  fields := #[{ name := "value", type := (.array .byte), accessFlags := 18, slot := 0, constantValue := 0 }, { name := "coder", type := .byte, accessFlags := 18, slot := 1, constantValue := 0 }, { name := "hash", type := .int, accessFlags := 2, slot := 2, constantValue := 0 }, { name := "hashIsZero", type := .boolean, accessFlags := 2, slot := 3, constantValue := 0 }, { name := "serialVersionUID", type := .long, accessFlags := 26, slot := 0, constantValue := 0 }, { name := "COMPACT_STRINGS", type := .boolean, accessFlags := 24, slot := 1, constantValue := 0 }, { name := "serialPersistentFields", type := (.array (.object "java/io/ObjectStreamField")), accessFlags := 26, slot := 2, constantValue := 0 }, { name := "REPL", type := .char, accessFlags := 26, slot := 3, constantValue := 0 }, { name := "CASE_INSENSITIVE_ORDER", type := (.object "java/util/Comparator"), accessFlags := 25, slot := 4, constantValue := 0 }, { name := "LATIN1", type := .byte, accessFlags := 24, slot := 5, constantValue := 0 }, { name := "UTF16", type := .byte, accessFlags := 24, slot := 6, constantValue := 0 }]
  methods := #[k7m0, k7m1, k7m2]
  instanceTypes := #[(.array .byte), .byte, .int, .boolean]
  staticTypes := #[.long, .boolean, (.array (.object "java/io/ObjectStreamField")), .char, (.object "java/util/Comparator"), .byte, .byte]
  resolved := Array.replicate 1451 none
  statics := some 0 }

def pool8 : Array CpInfo := pool [(4, .class_ 6), (1, u "java/lang/Object"), (0, u "<init>"), (0, u "()V"), (5, .class_ 16), (1, u "java/lang/StringLatin1"), (73, u "canEncode"), (14, u "(C)Z"), (15, u "$assertionsDisabled"), (0, u "Z"), (98, .class_ 223), (1, u "java/lang/StringLatin1$LinesSpliterator"), (156, u "toBytes"), (1, u "(C)[B"), (7, .class_ 391), (0, u "java/lang/StringLatin1$CharsSpliterator")] 3

def k8m0 : Method := { name := "<init>", desc := "()V", sig := { parameters := [], returnType := none }, accessFlags := 0, code := none }
def k8c1 : Code := { maxStack := 2, maxLocals := 1, code := jdk_43_method_3_code, exceptionTable := #[], attributes := #[] }
def k8m1 : Method := { name := "canEncode", desc := "(C)Z", sig := { parameters := [.char], returnType := some .boolean }, accessFlags := 9, code := some k8c1 }
def k8c2 : Code := { maxStack := 4, maxLocals := 1, code := jdk_43_method_46_code, exceptionTable := #[], attributes := #[] }
def k8m2 : Method := { name := "toBytes", desc := "(C)[B", sig := { parameters := [.char], returnType := some (.array .byte) }, accessFlags := 9, code := some k8c2 }
/-- java/lang/StringLatin1 -/
def k8 : Class := { plain "java/lang/StringLatin1" (some 0) with
  accessFlags := 48
  interfaces := #[]
  cf := some (fileOf pool8 14 #[.nestMembers #[390, 221]] #[{ accessFlags := 0, nameIndex := 7, descriptorIndex := 8, attributes := #[] }, { accessFlags := 9, nameIndex := 90, descriptorIndex := 105, attributes := #[] }, { accessFlags := 9, nameIndex := 380, descriptorIndex := 382, attributes := #[] }] 48 4 #[] #[{ accessFlags := 4120, nameIndex := 121, descriptorIndex := 122, attributes := #[] }])
  fields := #[{ name := "$assertionsDisabled", type := .boolean, accessFlags := 4120, slot := 0, constantValue := 0 }]
  methods := #[k8m0, k8m1, k8m2]
  instanceTypes := #[]
  staticTypes := #[.boolean]
  resolved := Array.replicate 395 none
  statics := none }

def pool9 : Array CpInfo := pool [(2, .class_ 4), (1, u "java/lang/Object"), (3, .class_ 10), (1, u "com/example/tideshift/tideshift/RunOptions"), (0, u "scale"), (0, u "Lcom/example/tideshift/tideshift/Scale;"), (2, u "keyGroups"), (0, u "I"), (2, u "rebalance"), (0, u "Lcom/example/tideshift/tideshift/Rebalance;"), (2, u "extras"), (0, u "Ljava/util/Set;"), (2, u "DEFAULTS"), (0, u "Lcom/example/tideshift/tideshift/RunOptions;"), (4, u "checkCount"), (0, u "(Ljava/lang/String;II)I"), (75, .class_ 112), (1, u "com/example/tideshift/tideshift/RunOptions$Extra"), (46, u "DEFAULT_WORKERS"), (2, u "MAX_WORKERS")] 51

def k9c0 : Code := { maxStack := 5, maxLocals := 3, code := prog_74_method_19_code, exceptionTable := #[], attributes := #[] }
def k9m0 : Method := { name := "checkCount", desc := "(Ljava/lang/String;II)I", sig := { parameters := [(.object "java/lang/String"), .int, .int], returnType := some .int }, accessFlags := 8, code := some k9c0 }
/-- com/example/tideshift/tideshift/RunOptions -/
def k9 : Class := { plain "com/example/tideshift/tideshift/RunOptions" (some 0) with
  accessFlags := 49
  interfaces := #[]
  cf := some (fileOf pool9 8 #[.nestMembers #[110]] #[{ accessFlags := 8, nameIndex := 33, descriptorIndex := 34, attributes := #[] }] 49 2 #[] #[{ accessFlags := 24, nameIndex := 159, descriptorIndex := 16, attributes := #[] }, { accessFlags := 24, nameIndex := 162, descriptorIndex := 16, attributes := #[] }, { accessFlags := 26, nameIndex := 27, descriptorIndex := 28, attributes := #[] }, { accessFlags := 18, nameIndex := 11, descriptorIndex := 12, attributes := #[] }, { accessFlags := 18, nameIndex := 15, descriptorIndex := 16, attributes := #[] }, { accessFlags := 18, nameIndex := 19, descriptorIndex := 20, attributes := #[] }, { accessFlags := 18, nameIndex := 23, descriptorIndex := 24, attributes := #[] }])
  fields := #[{ name := "DEFAULT_WORKERS", type := .int, accessFlags := 24, slot := 0, constantValue := 0 }, { name := "MAX_WORKERS", type := .int, accessFlags := 24, slot := 1, constantValue := 0 }, { name := "DEFAULTS", type := (.object "com/example/tideshift/tideshift/RunOptions"), accessFlags := 26, slot := 2, constantValue := 0 }, { name := "scale", type := (.object "com/example/tideshift/tideshift/Scale"), accessFlags := 18, slot := 0, constantValue := 0 }, { name := "keyGroups", type := .int, accessFlags := 18, slot := 1, constantValue := 0 }, { name := "rebalance", type := (.object "com/example/tideshift/tideshift/Rebalance"), accessFlags := 18, slot := 2, constantValue := 0 }, { name := "extras", type := (.object "java/util/Set"), accessFlags := 18, slot := 3, constantValue := 0 }]
  methods := #[k9m0]
  instanceTypes := #[(.object "com/example/tideshift/tideshift/Scale"), .int, (.object "com/example/tideshift/tideshift/Rebalance"), (.object "java/util/Set")]
  staticTypes := #[.int, .int, (.object "com/example/tideshift/tideshift/RunOptions")]
  resolved := Array.replicate 214 none
  statics := none }

def pool10 : Array CpInfo := pool [(2, .class_ 4), (1, u "java/lang/Object"), (0, u "<init>"), (0, u "()V"), (17, .class_ 26), (1, u "jdk/internal/util/Preconditions"), (28, .class_ 56), (0, u "jdk/internal/util/Preconditions$4"), (57, .class_ 115), (0, u "jdk/internal/util/Preconditions$1"), (7, u "SIOOBE_FORMATTER"), (0, u "Ljava/util/function/BiFunction;"), (0, .class_ 126), (0, u "jdk/internal/util/Preconditions$2"), (3, u "AIOOBE_FORMATTER"), (0, .class_ 132), (0, u "jdk/internal/util/Preconditions$3"), (3, u "IOOBE_FORMATTER")] 57

def k10m0 : Method := { name := "<init>", desc := "()V", sig := { parameters := [], returnType := none }, accessFlags := 1, code := none }
/-- jdk/internal/util/Preconditions -/
def k10 : Class := { plain "jdk/internal/util/Preconditions" (some 0) with
  accessFlags := 33
  interfaces := #[]
  cf := some (fileOf pool10 24 #[.nestMembers #[55, 131, 125, 114]] #[{ accessFlags := 1, nameIndex := 5, descriptorIndex := 6, attributes := #[] }] 33 2 #[] #[{ accessFlags := 25, nameIndex := 123, descriptorIndex := 124, attributes := #[] }, { accessFlags := 25, nameIndex := 130, descriptorIndex := 124, attributes := #[] }, { accessFlags := 25, nameIndex := 136, descriptorIndex := 124, attributes := #[] }])
  fields := #[{ name := "SIOOBE_FORMATTER", type := (.object "java/util/function/BiFunction"), accessFlags := 25, slot := 0, constantValue := 0 }, { name := "AIOOBE_FORMATTER", type := (.object "java/util/function/BiFunction"), accessFlags := 25, slot := 1, constantValue := 0 }, { name := "IOOBE_FORMATTER", type := (.object "java/util/function/BiFunction"), accessFlags := 25, slot := 2, constantValue := 0 }]
  methods := #[k10m0]
  instanceTypes := #[]
  staticTypes := #[(.object "java/util/function/BiFunction"), (.object "java/util/function/BiFunction"), (.object "java/util/function/BiFunction")]
  resolved := Array.replicate 194 none
  statics := some 1 }

def pool11 : Array CpInfo := pool [(9, u "<init>"), (6, .class_ 18), (1, u "java/lang/Object"), (0, u "()V"), (1, .class_ 23), (1, u "jdk/internal/util/ArraysSupport"), (0, u "LOG2_ARRAY_LONG_INDEX_SCALE"), (0, u "I"), (2, u "U"), (0, u "Ljdk/internal/misc/Unsafe;"), (8, u "BIG_ENDIAN"), (0, u "Z"), (8, u "LOG2_BYTE_BIT_SIZE"), (4, u "LOG2_ARRAY_INT_INDEX_SCALE"), (54, u "JLA"), (0, u "Ljdk/internal/access/JavaLangAccess;"), (11, u "LOG2_ARRAY_BOOLEAN_INDEX_SCALE"), (9, u "LOG2_ARRAY_BYTE_INDEX_SCALE"), (5, u "LOG2_ARRAY_CHAR_INDEX_SCALE"), (5, u "LOG2_ARRAY_SHORT_INDEX_SCALE"), (18, u "LOG2_ARRAY_FLOAT_INDEX_SCALE"), (24, u "LOG2_ARRAY_DOUBLE_INDEX_SCALE"), (89, u "T_BOOLEAN"), (2, u "T_CHAR"), (1, u "T_FLOAT"), (1, u "T_DOUBLE"), (1, u "T_BYTE"), (1, u "T_SHORT"), (1, u "T_INT"), (1, u "T_LONG"), (1, u "SOFT_MAX_ARRAY_LENGTH")] 83

def k11m0 : Method := { name := "<init>", desc := "()V", sig := { parameters := [], returnType := none }, accessFlags := 2, code := none }
/-- jdk/internal/util/ArraysSupport -/
def k11 : Class := { plain "jdk/internal/util/ArraysSupport" (some 0) with
  accessFlags := 33
  interfaces := #[]
  cf := some (fileOf pool11 21 #[] #[{ accessFlags := 2, nameIndex := 9, descriptorIndex := 19, attributes := #[] }] 33 16 #[] #[{ accessFlags := 24, nameIndex := 28, descriptorIndex := 29, attributes := #[] }, { accessFlags := 26, nameIndex := 38, descriptorIndex := 39, attributes := #[] }, { accessFlags := 25, nameIndex := 121, descriptorIndex := 25, attributes := #[] }, { accessFlags := 25, nameIndex := 131, descriptorIndex := 25, attributes := #[] }, { accessFlags := 25, nameIndex := 137, descriptorIndex := 25, attributes := #[] }, { accessFlags := 25, nameIndex := 143, descriptorIndex := 25, attributes := #[] }, { accessFlags := 25, nameIndex := 53, descriptorIndex := 25, attributes := #[] }, { accessFlags := 25, nameIndex := 24, descriptorIndex := 25, attributes := #[] }, { accessFlags := 25, nameIndex := 162, descriptorIndex := 25, attributes := #[] }, { accessFlags := 25, nameIndex := 187, descriptorIndex := 25, attributes := #[] }, { accessFlags := 26, nameIndex := 48, descriptorIndex := 25, attributes := #[] }, { accessFlags := 25, nameIndex := 277, descriptorIndex := 25, attributes := #[] }, { accessFlags := 25, nameIndex := 280, descriptorIndex := 25, attributes := #[] }, { accessFlags := 25, nameIndex := 282, descriptorIndex := 25, attributes := #[] }, { accessFlags := 25, nameIndex := 284, descriptorIndex := 25, attributes := #[] }, { accessFlags := 25, nameIndex := 286, descriptorIndex := 25, attributes := #[] }, { accessFlags := 25, nameIndex := 288, descriptorIndex := 25, attributes := #[] }, { accessFlags := 25, nameIndex := 290, descriptorIndex := 25, attributes := #[] }, { accessFlags := 25, nameIndex := 292, descriptorIndex := 25, attributes := #[] }, { accessFlags := 26, nameIndex := 108, descriptorIndex := 109, attributes := #[] }, { accessFlags := 25, nameIndex := 294, descriptorIndex := 25, attributes := #[] }])
  fields := #[{ name := "U", type := (.object "jdk/internal/misc/Unsafe"), accessFlags := 24, slot := 0, constantValue := 0 }, { name := "BIG_ENDIAN", type := .boolean, accessFlags := 26, slot := 1, constantValue := 0 }, { name := "LOG2_ARRAY_BOOLEAN_INDEX_SCALE", type := .int, accessFlags := 25, slot := 2, constantValue := 0 }, { name := "LOG2_ARRAY_BYTE_INDEX_SCALE", type := .int, accessFlags := 25, slot := 3, constantValue := 0 }, { name := "LOG2_ARRAY_CHAR_INDEX_SCALE", type := .int, accessFlags := 25, slot := 4, constantValue := 0 }, { name := "LOG2_ARRAY_SHORT_INDEX_SCALE", type := .int, accessFlags := 25, slot := 5, constantValue := 0 }, { name := "LOG2_ARRAY_INT_INDEX_SCALE", type := .int, accessFlags := 25, slot := 6, constantValue := 0 }, { name := "LOG2_ARRAY_LONG_INDEX_SCALE", type := .int, accessFlags := 25, slot := 7, constantValue := 0 }, { name := "LOG2_ARRAY_FLOAT_INDEX_SCALE", type := .int, accessFlags := 25, slot := 8, constantValue := 0 }, { name := "LOG2_ARRAY_DOUBLE_INDEX_SCALE", type := .int, accessFlags := 25, slot := 9, constantValue := 0 }, { name := "LOG2_BYTE_BIT_SIZE", type := .int, accessFlags := 26, slot := 10, constantValue := 0 }, { name := "T_BOOLEAN", type := .int, accessFlags := 25, slot := 11, constantValue := 0 }, { name := "T_CHAR", type := .int, accessFlags := 25, slot := 12, constantValue := 0 }, { name := "T_FLOAT", type := .int, accessFlags := 25, slot := 13, constantValue := 0 }, { name := "T_DOUBLE", type := .int, accessFlags := 25, slot := 14, constantValue := 0 }, { name := "T_BYTE", type := .int, accessFlags := 25, slot := 15, constantValue := 0 }, { name := "T_SHORT", type := .int, accessFlags := 25, slot := 16, constantValue := 0 }, { name := "T_INT", type := .int, accessFlags := 25, slot := 17, constantValue := 0 }, { name := "T_LONG", type := .int, accessFlags := 25, slot := 18, constantValue := 0 }, { name := "JLA", type := (.object "jdk/internal/access/JavaLangAccess"), accessFlags := 26, slot := 19, constantValue := 0 }, { name := "SOFT_MAX_ARRAY_LENGTH", type := .int, accessFlags := 25, slot := 20, constantValue := 0 }]
  methods := #[k11m0]
  instanceTypes := #[]
  staticTypes := #[(.object "jdk/internal/misc/Unsafe"), .boolean, .int, .int, .int, .int, .int, .int, .int, .int, .int, .int, .int, .int, .int, .int, .int, .int, .int, (.object "jdk/internal/access/JavaLangAccess"), .int]
  resolved := Array.replicate 378 none
  statics := none }

def pool12 : Array CpInfo := pool [(1, u "java/lang/Cloneable"), (0, .class_ 1), (0, u "java/lang/Object"), (0, .class_ 3)] 3

/-- java/lang/Cloneable -/
def k12 : Class := { plain "java/lang/Cloneable" (some 0) with
  accessFlags := 1537
  interfaces := #[]
  cf := some (fileOf pool12 2 #[] #[] 1537 4 #[] #[])
  fields := #[]
  methods := #[]
  instanceTypes := #[]
  staticTypes := #[]
  resolved := Array.replicate 8 none
  statics := none }

/-- the primitive byte -/
def k13 : Class := { plain "byte" none with kind := .primitive 'B', accessFlags := 0x411 }
/-- [B -/
def k14 : Class := { plain "[B" (some 0) with kind := .array 13 .byte, interfaces := #[12, 2], accessFlags := 1041 }

/-- the primitive int -/
def k15 : Class := { plain "int" none with kind := .primitive 'I', accessFlags := 0x411 }
/-- [I -/
def k16 : Class := { plain "[I" (some 0) with kind := .array 15 .int, interfaces := #[12, 2], accessFlags := 1041 }

def heap : Heap := #[{ cls := 7, slots := #[.long 0, .int 1, .null, .int 0, .null, .int 0, .int 0], vm := .statics 7 },
  { cls := 10, slots := #[.null, .null, .null], vm := .statics 10 }]
def classes : Array Class := #[k0, k1, k2, k3, k4, k5, k6, k7, k8, k9, k10, k11, k12, k13, k14, k15, k16]
def interned : List (Array UInt16 × Addr) := []
def slotsUsed : Nat := 10
def theMethod : MethodId := ⟨1, 1⟩
def args0 : Array Value := #[.int 5, .int 3, .int 7, .int 2]
def aboutOver (below : List Frame) : State where
  vm := { classes := classes, interned := interned.toArray }
  heap := heap
  slotsUsed := slotsUsed
  threads := #[{ frames := .invoking theMethod args0 :: below }]
def below0 : List Frame := [.native { method := ⟨0, 0⟩, args := #[] }]
def about1 : State := aboutOver below0
def p0 : Program := .bare "" "" ""
def e0 : Env := launch0.env 0 0 0
theorem w_frames : about1.frames = Frame.invoking theMethod args0 :: below0 := rfl
set_option maxRecDepth 65536 in
theorem w_args : argsFit about1.vm theMethod args0 = true := by decide +kernel
set_option maxRecDepth 65536 in
theorem w_heap : heapFits about1 = true := by decide +kernel
set_option maxRecDepth 65536 in
theorem w_runnable : about1.curStatus? = some .runnable := by decide +kernel
set_option maxRecDepth 65536 in
theorem w_alone : about1.alone = true := by decide +kernel
set_option maxRecDepth 65536 in
theorem w_named : about1.methodNamed? x = some theMethod := by decide +kernel
set_option maxRecDepth 65536 in
theorem w_hears : about1.hears theMethod below0 = true := by decide +kernel
set_option maxRecDepth 65536 in
theorem w_ripe : about1.ripe theMethod args0 below0 = true := by decide +kernel
theorem w_running : about1.status = .running := rfl
set_option maxRecDepth 65536 in
theorem w_room : about1.hasRoom e0.platform room_1 = true :=
  launch0.hasRoom_least _ room_1 (by decide +kernel) (by decide +kernel) (by decide +kernel) (by decide +kernel) (by decide +kernel) (by decide +kernel)
theorem allAtoms_all (ts : List Jvm.Cond) (a : Array Jvm.Value) (st : Jvm.State) : (allAtoms ts).before a st = ts.all (fun c => c.before a st) := by
  induction ts with
  | nil => rfl
  | cons c t ih =>
    show (Jvm.Cond.and c (allAtoms t)).before a st = _
    rw [Jvm.Cond.before_and, ih, List.all_cons]
def words1 : List Jvm.Cond := Jvm.Cond.code x code maxLocals ret :: tables_1
/-- a 'code' word, met by the world's own term for the bytes: nothing is compared byte by byte -/
theorem code_word {y : MethodName} {bytes : ByteArray} {mx : Nat} {rt : Option FieldType} {a : Array Value} {s : State} {m : MethodId} {meth : Method} {c : Code} (h1 : s.methodNamed? y = some m) (h2 : s.vm.method? m = some meth) (h3 : meth.code = some c) (h4 : c.code = bytes)
    (h5 : (c.maxLocals == mx && c.exceptionTable.isEmpty && decide (c.maxStack ≤ mostOperands) && decide (meth.sig.returnType = rt) && !meth.locks && decide (parseMethodDescriptor y.desc = some meth.sig)) = true) : (Jvm.Cond.code y bytes mx rt).before a s = true := by
  simp only [Bool.and_eq_true, beq_iff_eq, Bool.not_eq_true', decide_eq_true_eq] at h5
  obtain ⟨⟨⟨⟨⟨g1, g2⟩, g3⟩, g4⟩, g5⟩, g6⟩ := h5
  simp [Cond.before, Cond.holds, Cond.value, h1, h2, h3, h4, g1, g2, g3, g4, g5, g6]
def isCode : Jvm.Cond → Bool
  | .code _ _ _ _ => true
  | _ => false
theorem all_split {L : List Jvm.Cond} {P : Jvm.Cond → Bool} (h1 : L.all (fun c => isCode c || P c) = true) (h2 : ∀ c ∈ L.filter isCode, P c = true) : L.all P = true := by
  refine List.all_eq_true.mpr fun c hc => ?_
  have h := List.all_eq_true.mp h1 c hc
  rcases Bool.eq_false_or_eq_true (isCode c) with hi | hi
  · exact h2 c (List.mem_filter.mpr ⟨hc, hi⟩)
  · simpa [hi] using h
set_option maxRecDepth 65536 in
theorem w_c0 : (Jvm.Cond.code x code maxLocals ret).before args0 about1 = true := code_word (m := ⟨1, 1⟩) (meth := k1m1) (c := k1c1) (by decide +kernel) rfl rfl rfl (by decide +kernel)
set_option maxRecDepth 65536 in
theorem w_c1 : (Jvm.Cond.code ({ cls := "java/lang/String", name := "valueOf", desc := "(C)Ljava/lang/String;" } : Jvm.MethodName) jdk_42_method_139_code (1 : Nat) (Option.some (Jvm.ClassFile.FieldType.object "java/lang/String"))).before args0 about1 = true := code_word (m := ⟨7, 1⟩) (meth := k7m1) (c := k7c1) (by decide +kernel) rfl rfl rfl (by decide +kernel)
set_option maxRecDepth 65536 in
theorem w_c2 : (Jvm.Cond.code ({ cls := "java/lang/StringLatin1", name := "canEncode", desc := "(C)Z" } : Jvm.MethodName) jdk_43_method_3_code (1 : Nat) (Option.some Jvm.ClassFile.FieldType.boolean)).before args0 about1 = true := code_word (m := ⟨8, 1⟩) (meth := k8m1) (c := k8c1) (by decide +kernel) rfl rfl rfl (by decide +kernel)
set_option maxRecDepth 65536 in
theorem w_c3 : (Jvm.Cond.code ({ cls := "java/lang/StringLatin1", name := "toBytes", desc := "(C)[B" } : Jvm.MethodName) jdk_43_method_46_code (1 : Nat) (Option.some (Jvm.ClassFile.FieldType.array Jvm.ClassFile.FieldType.byte))).before args0 about1 = true := code_word (m := ⟨8, 2⟩) (meth := k8m2) (c := k8c2) (by decide +kernel) rfl rfl rfl (by decide +kernel)
set_option maxRecDepth 65536 in
theorem w_c4 : (Jvm.Cond.code ({ cls := "java/lang/String", name := "<init>", desc := "([BB)V" } : Jvm.MethodName) jdk_42_method_151_code (3 : Nat) (Option.none : Option Jvm.ClassFile.FieldType)).before args0 about1 = true := code_word (m := ⟨7, 2⟩) (meth := k7m2) (c := k7c2) (by decide +kernel) rfl rfl rfl (by decide +kernel)
set_option maxRecDepth 65536 in
theorem w_c5 : (Jvm.Cond.code ({ cls := "java/lang/Object", name := "<init>", desc := "()V" } : Jvm.MethodName) object_method_1_code (1 : Nat) (Option.none : Option Jvm.ClassFile.FieldType)).before args0 about1 = true := code_word (m := ⟨0, 0⟩) (meth := k0m0) (c := k0c0) (by decide +kernel) rfl rfl rfl (by decide +kernel)
set_option maxRecDepth 65536 in
theorem w_c6 : (Jvm.Cond.code ({ cls := "com/example/tideshift/tideshift/RunOptions", name := "checkCount", desc := "(Ljava/lang/String;II)I" } : Jvm.MethodName) prog_74_method_19_code (3 : Nat) (Option.some Jvm.ClassFile.FieldType.int)).before args0 about1 = true := code_word (m := ⟨9, 0⟩) (meth := k9m0) (c := k9c0) (by decide +kernel) rfl rfl rfl (by decide +kernel)
def codes1 : List Jvm.Cond := [Jvm.Cond.code x code maxLocals ret, Jvm.Cond.code ({ cls := "java/lang/String", name := "valueOf", desc := "(C)Ljava/lang/String;" } : Jvm.MethodName) jdk_42_method_139_code (1 : Nat) (Option.some (Jvm.ClassFile.FieldType.object "java/lang/String")), Jvm.Cond.code ({ cls := "java/lang/StringLatin1", name := "canEncode", desc := "(C)Z" } : Jvm.MethodName) jdk_43_method_3_code (1 : Nat) (Option.some Jvm.ClassFile.FieldType.boolean), Jvm.Cond.code ({ cls := "java/lang/StringLatin1", name := "toBytes", desc := "(C)[B" } : Jvm.MethodName) jdk_43_method_46_code (1 : Nat) (Option.some (Jvm.ClassFile.FieldType.array Jvm.ClassFile.FieldType.byte)), Jvm.Cond.code ({ cls := "java/lang/String", name := "<init>", desc := "([BB)V" } : Jvm.MethodName) jdk_42_method_151_code (3 : Nat) (Option.none : Option Jvm.ClassFile.FieldType), Jvm.Cond.code ({ cls := "java/lang/Object", name := "<init>", desc := "()V" } : Jvm.MethodName) object_method_1_code (1 : Nat) (Option.none : Option Jvm.ClassFile.FieldType), Jvm.Cond.code ({ cls := "com/example/tideshift/tideshift/RunOptions", name := "checkCount", desc := "(Ljava/lang/String;II)I" } : Jvm.MethodName) prog_74_method_19_code (3 : Nat) (Option.some Jvm.ClassFile.FieldType.int)]
set_option maxRecDepth 65536 in
theorem codes_eq : words1.filter isCode = codes1 := rfl
theorem w_codes : ∀ c ∈ words1.filter isCode, c.before args0 about1 = true := by
  rw [codes_eq]
  intro c hc
  simp only [codes1, List.mem_cons, List.not_mem_nil, or_false] at hc
  rcases hc with rfl | rfl | rfl | rfl | rfl | rfl | rfl
  · exact w_c0
  · exact w_c1
  · exact w_c2
  · exact w_c3
  · exact w_c4
  · exact w_c5
  · exact w_c6
set_option maxRecDepth 65536 in
theorem w_t1 : (words1.take 24).all (fun c => isCode c || c.before args0 about1) = true := by decide +kernel
set_option maxRecDepth 65536 in
theorem w_t2 : (words1.drop 24).all (fun c => isCode c || c.before args0 about1) = true := by decide +kernel
theorem w_tables : (allAtoms (Jvm.Cond.code x code maxLocals ret :: tables_1)).before args0 about1 = true := by
  rw [allAtoms_all]
  show words1.all (fun c => c.before args0 about1) = true
  refine all_split ?_ w_codes
  rw [← List.take_append_drop 24 words1, List.all_append, w_t1, w_t2]
  rfl
set_option maxRecDepth 65536 in
theorem w_rest : rest_1_c.before args0 about1 = true := by decide +kernel
set_option maxRecDepth 65536 in
theorem w_case : (Jvm.Cond.and given_1 narrow_1).before args0 about1 = true := by decide +kernel
theorem w_applies : (headSpec (Jvm.Cond.code x code maxLocals ret :: tables_1) room_1).applies x e0.platform about1 = true :=
  (Spec.applies_iff w_frames).mpr ⟨w_running, w_runnable, w_alone, w_named, w_hears, w_ripe, w_room, w_tables⟩
theorem atStart : AtStart classFile x code maxLocals ret World_1 tables_1 room_1 Calls_1 rest_1 Pre_1 launch0 p0 e0 about1 theMethod args0 below0 :=
  ⟨lists_1, trivial, launch0.admits_env _ _ _, launch0.least_env, fairChoices_fair.cas, fairChoices_fair.clock, w_frames, w_args, w_heap, w_applies, trivial, w_rest, w_case⟩
end start1
theorem witness_1 : WitnessClaimed_1 := ⟨start1.p0, start1.e0, start1.about1, start1.theMethod, start1.args0, start1.below0, start1.atStart⟩
end Jvm.Pilot.@@N@@
