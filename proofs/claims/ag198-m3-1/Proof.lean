import JvmDerived
import JvmDerived.Pilot.@@N@@Statement
import JvmDerived.Pilot.@@N@@Code
set_option linter.unusedVariables false
set_option linter.unusedSimpArgs false
namespace Jvm.Pilot.@@N@@
open Jvm Jvm.ClassFile Sem Op Lib Jvm.Free Jvm.Stand Jvm.LawKit Jvm.RoadKit Bundle Jvm.Pilot.@@N@@.Jvm.D
/-! own words: where a body stands (own_C), how it ends (own_Ends), one step ahead of that (own_step), the returns -/
def own_C (cls : String) (code : ByteArray) (ml : Nat) (rt : Option FieldType) (nm : String) (p : Program) (s : State) (m : MethodId) (meth : Method) (c : Code) (Z : State) (a0 : Array Value) : Prop :=
  p.tables.exec = Jvm.exec ∧ Z.Warmed39 s.vm ∧ (∀ d ∈ tables_1, d.before a0 Z = true) ∧ c.code = code ∧ c.maxLocals = ml ∧ s.vm.findClass cls = some m.cls ∧ meth.sig.returnType = rt ∧ meth.locks = false ∧ meth.name = nm
def own_Q (n0 : Nat) (h0 : Heap) (w : Option Value) (v : Option Value) (h : Heap) (L : List Loc) : Prop := v = w ∧ Fr n0 L ∧ h = h0
def own_QL (n0 : Nat) (w : Option Value) (v : Option Value) (h : Heap) (L : List Loc) : Prop := v = w ∧ Fr n0 L ∧ True
def own_QR (n0 : Nat) (h0 : Heap) (v : Option Value) (h : Heap) (L : List Loc) : Prop := ∃ b : Addr, v = some (.ref b) ∧ Fr n0 L ∧ Keep h0 h []
def own_Ends (p : Program) (e : Env) (below : List Frame) (s : State) (kc ks : Nat) (Q : Option Value → Heap → List Loc → Prop) (T : State) (g : JFrame) : Prop :=
  ∃ s₂ o, Steps p.tables e below (T.setTop g) s₂ ∧ s₂.status = .running ∧ Ended s₂ below o ∧ ∃ v L, o = .returned v ∧ Q v s₂.heap L ∧ FrameEnd s o s₂ L kc ks
theorem own_step {p : Program} {e : Env} {below : List Frame} {s : State} {kc ks : Nat} {Q : Option Value → Heap → List Loc → Prop} {T T' : State} {g g' : JFrame}
    (st : ∀ target, Steps p.tables e below (T'.setTop g') target → Steps p.tables e below (T.setTop g) target) (h : own_Ends p e below s kc ks Q T' g') : own_Ends p e below s kc ks Q T g := by
  obtain ⟨s₂, o, h1, r⟩ := h
  exact ⟨s₂, o, st _ h1, r⟩
theorem own_mono {p : Program} {e : Env} {below : List Frame} {s : State} {kc ks : Nat} {Q Q' : Option Value → Heap → List Loc → Prop} {T : State} {g : JFrame} (h : own_Ends p e below s kc ks Q T g) (hq : ∀ v h L, Q v h L → Q' v h L) : own_Ends p e below s kc ks Q' T g := by
  obtain ⟨s₂, o, h1, h2, h3, v, L, h4, h5, h6⟩ := h
  exact ⟨s₂, o, h1, h2, h3, v, L, h4, hq _ _ _ h5, h6⟩
theorem own_nn {v : Value} (h : v.isRef = true) (q : ¬ v = .null) : ∃ y, v = .ref y := (ref_cases h).resolve_left q
theorem own_eqR {Z : State} {args : Array Value} {X F : Term} {idx : List Nat} {y : Addr} (hF : F.eval args Z none idx Z = some (.ref y)) (h : (Cond.eq X F).value args Z none Z idx = some true) : X.eval args Z none idx Z = some (.ref y) := by
  obtain ⟨x, y', e1, e2, k1, k2⟩ := cmp_v (Or.inl h)
  cases hF.symm.trans e2
  have hx : x.isRef = true := k2.2
  have := gotT (eq_R e1 hF hx rfl) h
  exact e1.trans (congrArg some this)
theorem own_lmod (x y : Int64) : x - (x / y) * y = x % y := by
  apply Int64.toInt_inj.mp
  have h1 := Int64.le_toInt (x % y)
  have h2 := Int64.toInt_lt (x % y)
  rw [Int64.toInt_sub, Int64.toInt_mul, Int64.toInt_div, Int.bmod_mul_bmod, Int.sub_bmod_bmod, Int.mul_comm (x.toInt.tdiv y.toInt), ← Int.tmod_def, ← Int64.toInt_mod]
  exact Int.bmod_eq_of_le_mul_two (by omega) (by omega)
theorem own_lremM {p : Program} {l : Launch} {e : Env} {R : Room} {s : State} {m : MethodId} {args : Array Value} {below : List Frame} {meth : Method} {c : Code} {T target : State} {locs : List Loc} {cells slots : Nat} {g : JFrame} (X : Stand p l e R s m args below meth c T locs cells slots) (hx : p.tables.exec = Jvm.exec) (hg : g.method = m) {x y : Int64} {rest : List Value} (hd : decode c.code g.pc = .ok (.lrem, 1)) (hs : g.stack = .long y :: .long x :: rest) (hy : y ≠ 0)
    (hr : Steps p.tables e below (T.setTop { g with pc := g.pc + 1, stack := .long (x % y) :: rest }) target) : Steps p.tables e below (T.setTop g) target :=
  XS.lrem X.here hx hg hd hs hy (by rw [own_lmod]; exact hr)
section OwnRet
variable {p : Program} {l : Launch} {e : Env} {R : Room} {s : State} {m : MethodId} {args : Array Value} {below : List Frame} {meth : Method} {c : Code} {T : State} {locs : List Loc} {cells slots : Nat} {kc ks : Nat} {Q : Option Value → Heap → List Loc → Prop}
theorem own_retO (X : Stand p l e R s m args below meth c T locs cells slots) (hx : p.tables.exec = Jvm.exec) {t : FieldType} (hret : meth.sig.returnType = some t) (hlk : meth.locks = false) {pc : Nat} {Ls : Array Slot} {w : Value} {i : Instr} {rest : List Value} (hn : narrow t w = w)
    (hi : (i = .ireturn ∧ (t = .int ∨ t = .boolean ∨ t = .byte ∨ t = .char ∨ t = .short) ∧ ∃ z, w = .int z) ∨ (i = .lreturn ∧ t = .long ∧ ∃ z, w = .long z) ∨ (i = .dreturn ∧ t = .double ∧ ∃ z, w = .double z) ∨ (i = .freturn ∧ t = .float ∧ ∃ z, w = .float z) ∨ (i = .areturn ∧ t.isReference = true ∧ w.isRef = true))
    (hd : decode c.code pc = .ok (i, 1)) (hc : cells ≤ kc) (hs : slots ≤ ks) (hQ : Q (some w) T.heap locs) : own_Ends p e below s kc ks Q T (mkF m pc Ls (w :: rest)) := by
  obtain ⟨fs, hr, hrun, hended, hW, hsame⟩ := X.leave (v := some w) (fun h => by rw [hret] at h; cases h) hlk
  exact ⟨_, _, retOut X hx hret hn hi hd hr, hrun, hended, _, _, rfl, hQ, ⟨_, rfl⟩, hW, hsame.mono hc hs⟩
theorem own_retI (X : Stand p l e R s m args below meth c T locs cells slots) (hx : p.tables.exec = Jvm.exec) (hret : meth.sig.returnType = some .int) (hlk : meth.locks = false) {pc : Nat} {Ls : Array Slot} {z : Int32} {rest : List Value}
    (hd : decode c.code pc = .ok (.ireturn, 1)) (hc : cells ≤ kc) (hs : slots ≤ ks) (hQ : Q (some (.int z)) T.heap locs) : own_Ends p e below s kc ks Q T (mkF m pc Ls (.int z :: rest)) :=
  own_retO X hx hret hlk rfl (Or.inl ⟨rfl, Or.inl rfl, z, rfl⟩) hd hc hs hQ
theorem own_retJ (X : Stand p l e R s m args below meth c T locs cells slots) (hx : p.tables.exec = Jvm.exec) (hret : meth.sig.returnType = some .long) (hlk : meth.locks = false) {pc : Nat} {Ls : Array Slot} {z : Int64} {rest : List Value}
    (hd : decode c.code pc = .ok (.lreturn, 1)) (hc : cells ≤ kc) (hs : slots ≤ ks) (hQ : Q (some (.long z)) T.heap locs) : own_Ends p e below s kc ks Q T (mkF m pc Ls (.long z :: rest)) :=
  own_retO X hx hret hlk rfl (Or.inr (Or.inl ⟨rfl, rfl, z, rfl⟩)) hd hc hs hQ
theorem own_retR (X : Stand p l e R s m args below meth c T locs cells slots) (hx : p.tables.exec = Jvm.exec) {t : FieldType} (hret : meth.sig.returnType = some t) (hlk : meth.locks = false) {pc : Nat} {Ls : Array Slot} {w : Value} {rest : List Value}
    (hd : decode c.code pc = .ok (.areturn, 1)) (hc : cells ≤ kc) (hs : slots ≤ ks) (ht : t.isReference = true) (hw : w.isRef = true) (hQ : Q (some w) T.heap locs) : own_Ends p e below s kc ks Q T (mkF m pc Ls (w :: rest)) :=
  own_retO X hx hret hlk (by cases t <;> first | rfl | cases ht) (Or.inr (Or.inr (Or.inr (Or.inr ⟨rfl, ht, hw⟩)))) hd hc hs hQ
theorem own_retN (X : Stand p l e R s m args below meth c T locs cells slots) {t : FieldType} (hx : p.tables.exec = Jvm.exec) (hret : meth.sig.returnType = some t) (hlk : meth.locks = false) {pc : Nat} {Ls : Array Slot} {z : Int32} {rest : List Value}
    (hd : decode c.code pc = .ok (.ireturn, 1)) (hc : cells ≤ kc) (hs : slots ≤ ks) (ht : t = .boolean ∨ t = .byte ∨ t = .char ∨ t = .short) (hQ : Q (some (.int (nar t z))) T.heap locs) : own_Ends p e below s kc ks Q T (mkF m pc Ls (.int z :: rest)) := by
  obtain ⟨fs, hr, hrun, hended, hW, hsame⟩ := X.leave (v := some (.int (nar t z))) (fun h => by rw [hret] at h; cases h) hlk
  exact ⟨_, _, retN X hx hret ht hd hr, hrun, hended, _, _, rfl, hQ, ⟨_, rfl⟩, hW, hsame.mono hc hs⟩
theorem own_retV (X : Stand p l e R s m args below meth c T locs cells slots) (hx : p.tables.exec = Jvm.exec) (hret : meth.sig.returnType = none) (hlk : meth.locks = false) {pc : Nat} {Ls : Array Slot}
    (hd : decode c.code pc = .ok (.return_, 1)) (hc : cells ≤ kc) (hs : slots ≤ ks) (hQ : Q none T.heap locs) : own_Ends p e below s kc ks Q T (mkF m pc Ls []) := by
  obtain ⟨fs, hr, hrun, hended, hW, hsame⟩ := X.leave (v := none) (fun _ => rfl) hlk
  exact ⟨_, _, X.returnOut hx hret hd hr, hrun, hended, _, _, rfl, hQ, ⟨_, rfl⟩, hW, hsame.mono hc hs⟩
end OwnRet
/-! the same for a body that may load String constants (the wide frame) -/
def own_EndsW (p : Program) (e : Env) (below : List Frame) (s : State) (kc ks : Nat) (Q : Option Value → Heap → List Loc → Prop) (T : State) (g : JFrame) : Prop :=
  ∃ s₂ o, Steps p.tables e below (T.setTop g) s₂ ∧ s₂.status = .running ∧ Ended s₂ below o ∧ ∃ v L, o = .returned v ∧ Q v s₂.heap L ∧ ReturnedEndW s o s₂ L kc ks
theorem own_stepW {p : Program} {e : Env} {below : List Frame} {s : State} {kc ks : Nat} {Q : Option Value → Heap → List Loc → Prop} {T T' : State} {g g' : JFrame}
    (st : ∀ target, Steps p.tables e below (T'.setTop g') target → Steps p.tables e below (T.setTop g) target) (h : own_EndsW p e below s kc ks Q T' g') : own_EndsW p e below s kc ks Q T g := by
  obtain ⟨s₂, o, h1, r⟩ := h
  exact ⟨s₂, o, st _ h1, r⟩
section OwnRetW
variable {p : Program} {l : Launch} {e : Env} {R : Room} {s : State} {vm0 : Vm} {k0 : Nat} {m : MethodId} {args : Array Value} {below : List Frame} {meth : Method} {c : Code} {T : State} {locs : List Loc} {cells slots : Nat} {kc ks : Nat} {Q : Option Value → Heap → List Loc → Prop}
theorem own_retOW (X : Stand p l e R (s.setVm vm0) m args below meth c T locs cells slots) (hS : s.Since vm0 k0) (hk : k0 ≤ T.heap.size) (hx : p.tables.exec = Jvm.exec) {t : FieldType} (hret : meth.sig.returnType = some t) (hlk : meth.locks = false) {pc : Nat} {Ls : Array Slot} {w : Value} {i : Instr} {rest : List Value} (hn : narrow t w = w)
    (hi : (i = .ireturn ∧ (t = .int ∨ t = .boolean ∨ t = .byte ∨ t = .char ∨ t = .short) ∧ ∃ z, w = .int z) ∨ (i = .lreturn ∧ t = .long ∧ ∃ z, w = .long z) ∨ (i = .dreturn ∧ t = .double ∧ ∃ z, w = .double z) ∨ (i = .freturn ∧ t = .float ∧ ∃ z, w = .float z) ∨ (i = .areturn ∧ t.isReference = true ∧ w.isRef = true))
    (hd : decode c.code pc = .ok (i, 1)) (hc : cells ≤ kc) (hs : slots ≤ ks) (hQ : Q (some w) T.heap locs) : own_EndsW p e below s kc ks Q T (mkF m pc Ls (w :: rest)) := by
  obtain ⟨fs, hr, hrun, hended, e1, e2, e3, e4⟩ := X.leaveW hS hk (v := some w) (fun h => by rw [hret] at h; cases h) hlk
  exact ⟨_, _, retOut X hx hret hn hi hd hr, hrun, hended, _, _, rfl, hQ, e1, e2, e3, e4.mono hc hs⟩
theorem own_retRW (X : Stand p l e R (s.setVm vm0) m args below meth c T locs cells slots) (hS : s.Since vm0 k0) (hk : k0 ≤ T.heap.size) (hx : p.tables.exec = Jvm.exec) {t : FieldType} (hret : meth.sig.returnType = some t) (hlk : meth.locks = false) {pc : Nat} {Ls : Array Slot} {w : Value} {rest : List Value}
    (hd : decode c.code pc = .ok (.areturn, 1)) (hc : cells ≤ kc) (hs : slots ≤ ks) (ht : t.isReference = true) (hw : w.isRef = true) (hQ : Q (some w) T.heap locs) : own_EndsW p e below s kc ks Q T (mkF m pc Ls (w :: rest)) :=
  own_retOW X hS hk hx hret hlk (by cases t <;> first | rfl | cases ht) (Or.inr (Or.inr (Or.inr (Or.inr ⟨rfl, ht, hw⟩)))) hd hc hs hQ
theorem own_retNW (X : Stand p l e R (s.setVm vm0) m args below meth c T locs cells slots) (hS : s.Since vm0 k0) (hk : k0 ≤ T.heap.size) {t : FieldType} (hx : p.tables.exec = Jvm.exec) (hret : meth.sig.returnType = some t) (hlk : meth.locks = false) {pc : Nat} {Ls : Array Slot} {z : Int32} {rest : List Value}
    (hd : decode c.code pc = .ok (.ireturn, 1)) (hc : cells ≤ kc) (hs : slots ≤ ks) (ht : t = .boolean ∨ t = .byte ∨ t = .char ∨ t = .short) (hQ : Q (some (.int (nar t z))) T.heap locs) : own_EndsW p e below s kc ks Q T (mkF m pc Ls (.int z :: rest)) := by
  obtain ⟨fs, hr, hrun, hended, e1, e2, e3, e4⟩ := X.leaveW hS hk (v := some (.int (nar t z))) (fun h => by rw [hret] at h; cases h) hlk
  exact ⟨_, _, retN X hx hret ht hd hr, hrun, hended, _, _, rfl, hQ, e1, e2, e3, e4.mono hc hs⟩
end OwnRetW

def own_tok (k : Nat) : Int32 :=
  if k < 33 then 0 else if k = 33 then 1 else if k = 34 then 0 else if k < 40 then 1 else if k < 42 then 0 else if k < 44 then 1 else if k = 44 then 0 else if k < 47 then 1 else if k = 47 then 0
  else if k < 58 then 1 else if k < 65 then 0 else if k < 91 then 1 else if k < 94 then 0 else if k < 123 then 1 else if k = 123 then 0 else if k = 124 then 1 else if k = 125 then 0 else if k = 126 then 1 else 0
theorem own_lt128 {i : Int32} (h0 : ¬ i < 0) (h1 : i < (128 : Int32)) : i.toNatClampNeg < 128 := by
  rw [Int32.lt_iff_toInt_lt] at h0 h1
  have e0 : (0 : Int32).toInt = 0 := rfl
  have e1 : (128 : Int32).toInt = 128 := rfl
  simp only [Int32.toNatClampNeg]; omega
theorem own_chr (i : Int32) : ¬ (i.toUInt32.toUInt16.toUInt32.toInt32) < 0 := by
  have h : ∀ u : UInt16, ¬ u.toUInt32.toInt32 < 0 := fun u => by
    have hu := u.toNat_lt
    rw [Int32.lt_iff_toInt_lt]
    show ¬ (u.toUInt32.toBitVec).toInt < 0
    rw [BitVec.toInt_eq_toNat_cond]
    have : u.toUInt32.toBitVec.toNat = u.toNat := by simp
    rw [this]; split <;> omega
  exact h _
theorem own_len {s : State} {args : Array Value} {t : Term} {w : Addr} {cl : Cell} {ty : FieldType} {z : Int32} (ew : t.eval args s none [] s = some (.ref w)) (A : Arr s s.heap w cl ty) (e : (Term.length t).eval args s none [] s = some (.int z)) : cl.slots.size = z.toNatClampNeg := by
  have hA : s.arrayAt? w = some cl := A.fin (Vm.Alike.refl _)
  simp only [Term.eval] at e
  simp [ew, hA] at e
  rw [← e.2]
  simp only [Int32.toNatClampNeg, len_toInt e.1]; rfl
theorem own_at {s : State} {args : Array Value} {t : Term} {w : Addr} {cl : Cell} {j : Int32} {k : Nat} {v : Value} (et : ∀ idx, t.eval args s none idx s = some (.ref w)) (hA : s.arrayAt? w = some cl) (hj : ¬ j < 0) (hk : j.toNatClampNeg = k) (e : (Term.elem t (.int j)).eval args s none [] s = some v) : cl.slots[k]? = some v := by
  rw [elem_f (et []) (Term.int_eval j) hA hj, hk] at e; exact e
theorem own_or {G Y : Jvm.Cond} {args : Array Value} {s : State} {idx : List Nat} (h : (Jvm.Cond.or G Y).value args s none s idx = some true) (hG : G.value args s none s idx = some false) : Y.value args s none s idx = some true := by
  simpa [Cond.value, hG] using h
theorem own_nat {k : Nat} (hk : k < 128) : (Int32.ofNat k).toNatClampNeg = k ∧ ¬ (Int32.ofNat k) < 0 ∧ (Int32.ofNat k).toInt = k := by
  have e : (Int32.ofNat k).toInt = k := Int32.toInt_ofNat_of_lt (by omega)
  have e0 : (0 : Int32).toInt = 0 := rfl
  refine ⟨by simp only [Int32.toNatClampNeg, e]; rfl, ?_, e⟩
  rw [Int32.lt_iff_toInt_lt, e, e0]; omega
theorem own_el {s : State} {args : Array Value} {t : Term} {w : Addr} {cl : Cell} {v : Int32} {k : Nat} (et : ∀ idx, t.eval args s none idx s = some (.ref w)) (hA : s.arrayAt? w = some cl) (hk : k < 128) (h : (Jvm.Cond.eq (.elem t (.index 0)) (.int v)).value args s none s [k] = some true) : cl.slots[k]? = some (.int v) := by
  obtain ⟨q1, q2, q3⟩ := own_nat hk
  have e := eqv_i (Term.int_eval v) h
  have hi : (Term.index 0).eval args s none [k] s = some (.int (Int32.ofNat k)) := by have := idx_at (args := args) (s := s) (first := s) (o := none) q2; rw [q1] at this; exact this
  rw [elem_f (et [k]) hi hA q2, q1] at e; exact e
theorem own_idx {s : State} {args : Array Value} {k : Nat} (hk : k < 128) : (Term.index 0).eval args s none [k] s = some (.int (Int32.ofNat k)) := by
  obtain ⟨q1, q2, q3⟩ := own_nat hk
  have := idx_at (args := args) (s := s) (first := s) (o := none) q2; rw [q1] at this; exact this
theorem own_rng1 {s : State} {args : Array Value} {t : Term} {w : Addr} {cl : Cell} {v b : Int32} {B : Nat} (et : ∀ idx, t.eval args s none idx s = some (.ref w)) (hA : s.arrayAt? w = some cl) (Sz : cl.slots.size = (128 : Int32).toNatClampNeg)
    (h : (Jvm.Cond.all t (.or (.le (.int b) (.index 0)) (.eq (.elem t (.index 0)) (.int v)))).value args s none s [] = some true) (k : Nat) (h1 : 0 ≤ k) (h2 : k < B) (hb : b.toInt = B) (hB : B ≤ 128) : cl.slots[k]? = some (.int v) := by
  have hk : k < 128 := by omega
  have q := Cond.all_elim (et []) hA h k (by rw [Sz]; exact hk)
  refine own_el et hA hk (own_or q ?_)
  rw [Cond.le_ints (Term.int_eval b) (own_idx hk)]
  have e := (own_nat hk).2.2
  simp only [Option.some.injEq, decide_eq_false_iff_not, Int32.le_iff_toInt_le, e, hb]; omega
theorem own_rng2 {s : State} {args : Array Value} {t : Term} {w : Addr} {cl : Cell} {v a b : Int32} {A B : Nat} (et : ∀ idx, t.eval args s none idx s = some (.ref w)) (hA : s.arrayAt? w = some cl) (Sz : cl.slots.size = (128 : Int32).toNatClampNeg)
    (h : (Jvm.Cond.all t (.or (.lt (.index 0) (.int a)) (.or (.le (.int b) (.index 0)) (.eq (.elem t (.index 0)) (.int v))))).value args s none s [] = some true) (k : Nat) (h1 : A ≤ k) (h2 : k < B) (hab : a.toInt = A ∧ b.toInt = B) (hB : B ≤ 128) : cl.slots[k]? = some (.int v) := by
  have hk : k < 128 := by omega
  have q := Cond.all_elim (et []) hA h k (by rw [Sz]; exact hk)
  have e := (own_nat hk).2.2
  refine own_el et hA hk (own_or (own_or q ?_) ?_)
  · rw [Cond.lt_ints (own_idx hk) (Term.int_eval a)]
    simp only [Option.some.injEq, decide_eq_false_iff_not, Int32.lt_iff_toInt_lt, e, hab.1]; omega
  · rw [Cond.le_ints (Term.int_eval b) (own_idx hk)]
    simp only [Option.some.injEq, decide_eq_false_iff_not, Int32.le_iff_toInt_le, e, hab.2]; omega
set_option maxRecDepth 65536 in
set_option maxHeartbeats 4000000 in
theorem own_start {s : State} {args : Array Value} (hw : ∀ d ∈ tables_1, d.before args s = true) (hn : narrow_1.value args s none s [] = some true) : ∃ (w : Addr) (cl : Cell), Sta s s.heap "com/example/canonsign/canonsign/http/Header" "TOKEN_CHARS" "[Z" (.ref w) ∧ Arr s s.heap w cl .boolean ∧ cl.slots.size = (128 : Int32).toNatClampNeg ∧ ∀ k, k < 128 → cl.slots[k]? = some (.int (own_tok k)) := by
  obtain ⟨n1, n2⟩ := and_e hn
  obtain ⟨w, ew⟩ := arr_v n1
  obtain ⟨cl, Aw⟩ := Arr.start ew n1
  have et : ∀ idx, ((Jvm.Term.static "com/example/canonsign/canonsign/http/Header" "TOKEN_CHARS" "[Z")).eval args s none idx s = some (.ref w) := fun idx => by simpa only [Term.eval] using ew
  have hA : s.arrayAt? w = some cl := Aw.fin (Vm.Alike.refl _)
  obtain ⟨n3, n4⟩ := and_e n2
  have Sz := own_len ew Aw (eqv_i (Term.int_eval (128 : Int32)) n3)
  obtain ⟨n5, n6⟩ := and_e n4
  have r0 : ∀ k, 0 ≤ k → k < 33 → cl.slots[k]? = some (.int 0) := fun k h1 h2 => own_rng1 et hA Sz n5 k h1 h2 (by decide) (by decide)
  obtain ⟨n7, n8⟩ := and_e n6
  have s33 : cl.slots[33]? = some (.int 1) := own_at et hA (j := 33) (by decide) rfl (eqv_i (Term.int_eval (1 : Int32)) n7)
  obtain ⟨n9, n10⟩ := and_e n8
  have s34 : cl.slots[34]? = some (.int 0) := own_at et hA (j := 34) (by decide) rfl (eqv_i (Term.int_eval (0 : Int32)) n9)
  obtain ⟨n11, n12⟩ := and_e n10
  have r35 : ∀ k, 35 ≤ k → k < 40 → cl.slots[k]? = some (.int 1) := fun k h1 h2 => own_rng2 et hA Sz n11 k h1 h2 (by decide) (by decide)
  obtain ⟨n13, n14⟩ := and_e n12
  have s40 : cl.slots[40]? = some (.int 0) := own_at et hA (j := 40) (by decide) rfl (eqv_i (Term.int_eval (0 : Int32)) n13)
  obtain ⟨n15, n16⟩ := and_e n14
  have s41 : cl.slots[41]? = some (.int 0) := own_at et hA (j := 41) (by decide) rfl (eqv_i (Term.int_eval (0 : Int32)) n15)
  obtain ⟨n17, n18⟩ := and_e n16
  have s42 : cl.slots[42]? = some (.int 1) := own_at et hA (j := 42) (by decide) rfl (eqv_i (Term.int_eval (1 : Int32)) n17)
  obtain ⟨n19, n20⟩ := and_e n18
  have s43 : cl.slots[43]? = some (.int 1) := own_at et hA (j := 43) (by decide) rfl (eqv_i (Term.int_eval (1 : Int32)) n19)
  obtain ⟨n21, n22⟩ := and_e n20
  have s44 : cl.slots[44]? = some (.int 0) := own_at et hA (j := 44) (by decide) rfl (eqv_i (Term.int_eval (0 : Int32)) n21)
  obtain ⟨n23, n24⟩ := and_e n22
  have s45 : cl.slots[45]? = some (.int 1) := own_at et hA (j := 45) (by decide) rfl (eqv_i (Term.int_eval (1 : Int32)) n23)
  obtain ⟨n25, n26⟩ := and_e n24
  have s46 : cl.slots[46]? = some (.int 1) := own_at et hA (j := 46) (by decide) rfl (eqv_i (Term.int_eval (1 : Int32)) n25)
  obtain ⟨n27, n28⟩ := and_e n26
  have s47 : cl.slots[47]? = some (.int 0) := own_at et hA (j := 47) (by decide) rfl (eqv_i (Term.int_eval (0 : Int32)) n27)
  obtain ⟨n29, n30⟩ := and_e n28
  have r48 : ∀ k, 48 ≤ k → k < 58 → cl.slots[k]? = some (.int 1) := fun k h1 h2 => own_rng2 et hA Sz n29 k h1 h2 (by decide) (by decide)
  obtain ⟨n31, n32⟩ := and_e n30
  have r58 : ∀ k, 58 ≤ k → k < 65 → cl.slots[k]? = some (.int 0) := fun k h1 h2 => own_rng2 et hA Sz n31 k h1 h2 (by decide) (by decide)
  obtain ⟨n33, n34⟩ := and_e n32
  have r65 : ∀ k, 65 ≤ k → k < 91 → cl.slots[k]? = some (.int 1) := fun k h1 h2 => own_rng2 et hA Sz n33 k h1 h2 (by decide) (by decide)
  obtain ⟨n35, n36⟩ := and_e n34
  have s91 : cl.slots[91]? = some (.int 0) := own_at et hA (j := 91) (by decide) rfl (eqv_i (Term.int_eval (0 : Int32)) n35)
  obtain ⟨n37, n38⟩ := and_e n36
  have s92 : cl.slots[92]? = some (.int 0) := own_at et hA (j := 92) (by decide) rfl (eqv_i (Term.int_eval (0 : Int32)) n37)
  obtain ⟨n39, n40⟩ := and_e n38
  have s93 : cl.slots[93]? = some (.int 0) := own_at et hA (j := 93) (by decide) rfl (eqv_i (Term.int_eval (0 : Int32)) n39)
  obtain ⟨n41, n42⟩ := and_e n40
  have r94 : ∀ k, 94 ≤ k → k < 123 → cl.slots[k]? = some (.int 1) := fun k h1 h2 => own_rng2 et hA Sz n41 k h1 h2 (by decide) (by decide)
  obtain ⟨n43, n44⟩ := and_e n42
  have s123 : cl.slots[123]? = some (.int 0) := own_at et hA (j := 123) (by decide) rfl (eqv_i (Term.int_eval (0 : Int32)) n43)
  obtain ⟨n45, n46⟩ := and_e n44
  have s124 : cl.slots[124]? = some (.int 1) := own_at et hA (j := 124) (by decide) rfl (eqv_i (Term.int_eval (1 : Int32)) n45)
  obtain ⟨n47, n48⟩ := and_e n46
  have s125 : cl.slots[125]? = some (.int 0) := own_at et hA (j := 125) (by decide) rfl (eqv_i (Term.int_eval (0 : Int32)) n47)
  obtain ⟨n49, n50⟩ := and_e n48
  have s126 : cl.slots[126]? = some (.int 1) := own_at et hA (j := 126) (by decide) rfl (eqv_i (Term.int_eval (1 : Int32)) n49)
  have s127 : cl.slots[127]? = some (.int 0) := own_at et hA (j := 127) (by decide) rfl (eqv_i (Term.int_eval (0 : Int32)) n50)
  refine ⟨w, cl, Sta.start ew (Or.inr ⟨hw _ (List.mem_of_getElem? (i := 2) rfl), hw _ (List.mem_of_getElem? (i := 5) rfl)⟩), Aw, Sz, fun k hk => ?_⟩
  unfold own_tok
  by_cases c0 : k < 33
  · rw [if_pos c0]
    exact r0 k (by omega) (by omega)
  · rw [if_neg c0]
    by_cases c1 : k = 33
    · rw [if_pos c1]
      obtain rfl : k = 33 := by omega
      exact s33
    · rw [if_neg c1]
      by_cases c2 : k = 34
      · rw [if_pos c2]
        obtain rfl : k = 34 := by omega
        exact s34
      · rw [if_neg c2]
        by_cases c3 : k < 40
        · rw [if_pos c3]
          exact r35 k (by omega) (by omega)
        · rw [if_neg c3]
          by_cases c4 : k < 42
          · rw [if_pos c4]
            rcases (show k = 40 ∨ k = 41 by omega) with rfl | rfl
            · exact s40
            · exact s41
          · rw [if_neg c4]
            by_cases c5 : k < 44
            · rw [if_pos c5]
              rcases (show k = 42 ∨ k = 43 by omega) with rfl | rfl
              · exact s42
              · exact s43
            · rw [if_neg c5]
              by_cases c6 : k = 44
              · rw [if_pos c6]
                obtain rfl : k = 44 := by omega
                exact s44
              · rw [if_neg c6]
                by_cases c7 : k < 47
                · rw [if_pos c7]
                  rcases (show k = 45 ∨ k = 46 by omega) with rfl | rfl
                  · exact s45
                  · exact s46
                · rw [if_neg c7]
                  by_cases c8 : k = 47
                  · rw [if_pos c8]
                    obtain rfl : k = 47 := by omega
                    exact s47
                  · rw [if_neg c8]
                    by_cases c9 : k < 58
                    · rw [if_pos c9]
                      exact r48 k (by omega) (by omega)
                    · rw [if_neg c9]
                      by_cases c10 : k < 65
                      · rw [if_pos c10]
                        exact r58 k (by omega) (by omega)
                      · rw [if_neg c10]
                        by_cases c11 : k < 91
                        · rw [if_pos c11]
                          exact r65 k (by omega) (by omega)
                        · rw [if_neg c11]
                          by_cases c12 : k < 94
                          · rw [if_pos c12]
                            rcases (show k = 91 ∨ k = 92 ∨ k = 93 by omega) with rfl | rfl | rfl
                            · exact s91
                            · exact s92
                            · exact s93
                          · rw [if_neg c12]
                            by_cases c13 : k < 123
                            · rw [if_pos c13]
                              exact r94 k (by omega) (by omega)
                            · rw [if_neg c13]
                              by_cases c14 : k = 123
                              · rw [if_pos c14]
                                obtain rfl : k = 123 := by omega
                                exact s123
                              · rw [if_neg c14]
                                by_cases c15 : k = 124
                                · rw [if_pos c15]
                                  obtain rfl : k = 124 := by omega
                                  exact s124
                                · rw [if_neg c15]
                                  by_cases c16 : k = 125
                                  · rw [if_pos c16]
                                    obtain rfl : k = 125 := by omega
                                    exact s125
                                  · rw [if_neg c16]
                                    by_cases c17 : k = 126
                                    · rw [if_pos c17]
                                      obtain rfl : k = 126 := by omega
                                      exact s126
                                    · rw [if_neg c17]
                                      obtain rfl : k = 127 := by omega
                                      exact s127

theorem pn_0 : plainName "com/example/canonsign/canonsign/http/Header" = true := by first | (simp [plainName, overriddenIn]; done) | decide +kernel
theorem pn_1 : plainName "com/example/canonsign/canonsign/http/HeaderIsTokenCharPinLaw" = true := by first | (simp [plainName, overriddenIn]; done) | decide +kernel
theorem pd_0 : parseMethodDescriptor "(C)Z" = some ⟨[.char], some .boolean⟩ := by decide +kernel
theorem d1_0 : decode prog_25_method_15_code 0 = .ok (.iload_n 0, 1) := by decide +kernel
theorem d1_1 : decode prog_25_method_15_code 1 = .ok (.getstatic 141, 3) := by decide +kernel
theorem d1_4 : decode prog_25_method_15_code 4 = .ok (.arraylength, 1) := by decide +kernel
theorem d1_5 : decode prog_25_method_15_code 5 = .ok (.if_icmp .ge 15, 3) := by decide +kernel
theorem d1_8 : decode prog_25_method_15_code 8 = .ok (.getstatic 141, 3) := by decide +kernel
theorem d1_11 : decode prog_25_method_15_code 11 = .ok (.iload_n 0, 1) := by decide +kernel
theorem d1_12 : decode prog_25_method_15_code 12 = .ok (.baload, 1) := by decide +kernel
theorem d1_13 : decode prog_25_method_15_code 13 = .ok (.ifCond .eq 7, 3) := by decide +kernel
theorem d1_16 : decode prog_25_method_15_code 16 = .ok (.iconst 1, 1) := by decide +kernel
theorem d1_17 : decode prog_25_method_15_code 17 = .ok (.goto 4, 3) := by decide +kernel
theorem d1_20 : decode prog_25_method_15_code 20 = .ok (.iconst 0, 1) := by decide +kernel
theorem d1_21 : decode prog_25_method_15_code 21 = .ok (.ireturn, 1) := by decide +kernel
def f1_0 (i0 : Int32) (w : Addr) (cl : Cell) : Int32 := (if i0 < (128 : Int32) then (if (own_tok i0.toNatClampNeg) = (0 : Int32) then (0 : Int32) else (1 : Int32)) else (0 : Int32))
set_option maxRecDepth 65536 in
set_option maxHeartbeats 40000000 in
theorem b1_0 {p : Program} {l : Launch} {e : Env} {s : State} {m : MethodId} {args : Array Value} {below : List Frame} {meth : Method} {c : Code} {Z : State} {a0 : Array Value} {h0 : Heap} {n0 : Nat} (C : own_C "com/example/canonsign/canonsign/http/Header" prog_25_method_15_code 1 (some .boolean) "isTokenChar" p s m meth c Z a0) (Z0 : n0 ≤ h0.size) {T0 : State} {locs : List Loc} (X0 : Stand p l e ({ frames := 0, cells := 0, slots := 0, locals := 0 } : Room) s m args below meth c T0 locs 0 0) (e0 : T0.heap = h0) (N0 : Fr n0 locs) (i0 : Int32) (w : Addr) (cl : Cell) (Sw : Sta Z h0 "com/example/canonsign/canonsign/http/Header" "TOKEN_CHARS" "[Z" (.ref w)) (Aw : Arr Z h0 w cl .boolean) (Sz : cl.slots.size = (128 : Int32).toNatClampNeg) (El : ∀ k, k < 128 → cl.slots[k]? = some (.int (own_tok k))) (Hi : ¬ i0 < 0) (W : Int32) (hv : W = f1_0 i0 w cl) :
    own_Ends p e below s ({ frames := 0, cells := 0, slots := 0, locals := 0 } : Room).cells ({ frames := 0, cells := 0, slots := 0, locals := 0 } : Room).slots (own_Q n0 h0 (some (.int W))) T0 (mkF m 0 #[.val (.int i0)] []) := by
  obtain ⟨hx, hZ, hw, hby, hml, hown, hret, hlk, hnm⟩ := C
  have C : own_C "com/example/canonsign/canonsign/http/Header" prog_25_method_15_code 1 (some .boolean) "isTokenChar" p s m meth c Z a0 := ⟨hx, hZ, hw, hby, hml, hown, hret, hlk, hnm⟩
  unfold f1_0 at hv
  refine own_step (fun _ => XS.iloadN X0.here hx rfl (hb hby d1_0) rfl) ?_
  show own_Ends p e below s _ _ _ T0 (mkF m 1 #[.val (.int i0)] [(.int i0)])
  obtain ⟨T3, X3, e3, st3⟩ := getS2 X0 hx hZ hown (host := "") (Or.inl (hw _ (List.mem_of_getElem? (i := 4) rfl))) Via.refl e0 Sw (g := (mkF m 1 #[.val (.int i0)] [(.int i0)])) rfl (hb hby d1_1)
  refine own_step st3 ?_
  show own_Ends p e below s _ _ _ T3 (mkF m 4 #[.val (.int i0)] [(.ref w), (.int i0)])
  refine own_step (fun _ => X3.arraylength hx (by rw [e3]; exact Aw.1) (State.isArrayOf_alike hZ.alike Aw.2.1) (g := (mkF m 4 #[.val (.int i0)] [(.ref w), (.int i0)])) rfl rfl (hb hby d1_4) _) ?_
  rw [len_of Sz (by decide)]
  show own_Ends p e below s _ _ _ T3 (mkF m 5 #[.val (.int i0)] [(.int (128 : Int32)), (.int i0)])
  by_cases hc5 : i0 < (128 : Int32)
  · have hv_t := hv.trans (if_pos hc5)
    refine own_step (fun _ => XS.icmpNo X3.here hx rfl (hb hby d1_5) rfl (tlt hc5).2.1) ?_
    show own_Ends p e below s _ _ _ T3 (mkF m 8 #[.val (.int i0)] [])
    obtain ⟨T4, X4, e4, st4⟩ := getS2 X3 hx hZ hown (host := "") (Or.inl (hw _ (List.mem_of_getElem? (i := 4) rfl))) Via.refl e3 Sw (g := (mkF m 8 #[.val (.int i0)] [])) rfl (hb hby d1_8)
    refine own_step st4 ?_
    show own_Ends p e below s _ _ _ T4 (mkF m 11 #[.val (.int i0)] [(.ref w)])
    refine own_step (fun _ => XS.iloadN X4.here hx rfl (hb hby d1_11) rfl) ?_
    show own_Ends p e below s _ _ _ T4 (mkF m 12 #[.val (.int i0)] [(.int i0), (.ref w)])
    refine own_step (fun _ => X4.baloadBooleans hx (j := i0) (v := (.int (own_tok i0.toNatClampNeg))) (by rw [e4]; exact Aw.1) (State.isArrayOf_alike hZ.alike Aw.2.1) Aw.2.2 (inb_of Sz ⟨Hi, hc5⟩) (El _ (own_lt128 Hi hc5)) (g := (mkF m 12 #[.val (.int i0)] [(.int i0), (.ref w)])) rfl rfl (hb hby d1_12) _) ?_
    show own_Ends p e below s _ _ _ T4 (mkF m 13 #[.val (.int i0)] [(.int (own_tok i0.toNatClampNeg))])
    by_cases hc13 : (own_tok i0.toNatClampNeg) = (0 : Int32)
    · have hv_t_t := hv_t.trans (if_pos hc13)
      refine own_step (fun _ => XS.ifYes X4.here hx rfl (pc0 := 13) (pc' := 20) rfl (hb hby d1_13) rfl ((if0 _ _).trans (teq hc13).1) (by decide) (by decide)) ?_
      show own_Ends p e below s _ _ _ T4 (mkF m 20 #[.val (.int i0)] [])
      refine own_step (fun _ => XS.iconst X4.here hx rfl (hb hby d1_20)) ?_
      show own_Ends p e below s _ _ _ T4 (mkF m 21 #[.val (.int i0)] [(.int (0 : Int32))])
      exact own_retN X4 (t := .boolean) hx hret hlk (hb hby d1_21) (by decide) (by decide) (by simp) ⟨congrArg (fun z => some (Value.int z)) hv_t_t.symm, N0, e4⟩
    · have hv_t_f := hv_t.trans (if_neg hc13)
      refine own_step (fun _ => XS.ifNo X4.here hx rfl (hb hby d1_13) rfl ((if0 _ _).trans (feq hc13).1)) ?_
      show own_Ends p e below s _ _ _ T4 (mkF m 16 #[.val (.int i0)] [])
      refine own_step (fun _ => XS.iconst X4.here hx rfl (hb hby d1_16)) ?_
      show own_Ends p e below s _ _ _ T4 (mkF m 17 #[.val (.int i0)] [(.int (1 : Int32))])
      refine own_step (fun _ => XS.goto X4.here hx rfl (pc0 := 17) (pc' := 21) rfl (hb hby d1_17) (by decide) (by decide)) ?_
      show own_Ends p e below s _ _ _ T4 (mkF m 21 #[.val (.int i0)] [(.int (1 : Int32))])
      exact own_retN X4 (t := .boolean) hx hret hlk (hb hby d1_21) (by decide) (by decide) (by simp) ⟨congrArg (fun z => some (Value.int z)) hv_t_f.symm, N0, e4⟩
  · have hv_f := hv.trans (if_neg hc5)
    refine own_step (fun _ => XS.icmpYes X3.here hx rfl (pc0 := 5) (pc' := 20) rfl (hb hby d1_5) rfl (flt hc5).2.1 (by decide) (by decide)) ?_
    show own_Ends p e below s _ _ _ T3 (mkF m 20 #[.val (.int i0)] [])
    refine own_step (fun _ => XS.iconst X3.here hx rfl (hb hby d1_20)) ?_
    show own_Ends p e below s _ _ _ T3 (mkF m 21 #[.val (.int i0)] [(.int (0 : Int32))])
    exact own_retN X3 (t := .boolean) hx hret hlk (hb hby d1_21) (by decide) (by decide) (by simp) ⟨congrArg (fun z => some (Value.int z)) hv_f.symm, N0, e3⟩
theorem ef_rm1 (m : MethodId) (i0 : Int32) : entryFrame m #[(.int i0)] 1 = mkF m 0 #[.val (.int i0)] [] := by first | (simp [entryFrame, mkF, argsToLocals, Value.category]; done) | rfl
set_option maxRecDepth 65536 in
set_option maxHeartbeats 40000000 in
theorem rm1 (l : Launch) (Z : State) (a0 : Array Value) (hw : ∀ d ∈ tables_1, d.before a0 Z = true) (ws : List Jvm.Cond) (i0 : Int32) (w : Addr) (cl : Cell) (h0 : Heap) (n0 : Nat) (Z0 : n0 ≤ h0.size) (Sw : Sta Z h0 "com/example/canonsign/canonsign/http/Header" "TOKEN_CHARS" "[Z" (.ref w)) (Aw : Arr Z h0 w cl .boolean) (Sz : cl.slots.size = (128 : Int32).toNatClampNeg) (El : ∀ k, k < 128 → cl.slots[k]? = some (.int (own_tok k))) (Hi : ¬ i0 < 0) :
    MetFree l (⟨"com/example/canonsign/canonsign/http/Header", "isTokenChar", "(C)Z"⟩ : MethodName) (head1 (Jvm.Cond.code (⟨"com/example/canonsign/canonsign/http/Header", "isTokenChar", "(C)Z"⟩ : MethodName) prog_25_method_15_code 1 (some .boolean) :: ws) ({ frames := 0, cells := 0, slots := 0, locals := 0 } : Room)) (fun a U => a = #[(.int i0)] ∧ Z.Warmed39 U.vm ∧ U.heap = h0) (fun _ _ _ _ _ => True) (fun _ U o U' => ∃ v L, o = .returned v ∧ (own_Q n0 h0 (some (.int (f1_0 i0 w cl)))) v U'.heap L ∧ FrameEnd U o U' L ({ frames := 0, cells := 0, slots := 0, locals := 0 } : Room).cells ({ frames := 0, cells := 0, slots := 0, locals := 0 } : Room).slots) := by
  refine MetFree.of_bodySF (plainFor_of_name pn_0) hisR ?_
  intro p e s m args below meth c s₁ Bd hml0 hP hK
  obtain ⟨rfl, hZ, hh⟩ := hP
  have X0 : Stand p l e ({ frames := 0, cells := 0, slots := 0, locals := 0 } : Room) s m #[(.int i0)] below meth c s₁ [] 0 0 := Stand.of_body Bd
  have e0 : s₁.heap = h0 := by rw [← hh, Bd.state]; rfl
  have C : own_C "com/example/canonsign/canonsign/http/Header" prog_25_method_15_code 1 (some .boolean) "isTokenChar" p s m meth c Z a0 := ⟨Bd.exec, hZ, hw, Bd.bytes, hml0, findClass_of_methodNamed Bd.named, Bd.returns, Bd.notSynchronized, (name_of_methodNamed Bd.named Bd.method).1⟩
  have r := b1_0 C Z0 X0 e0 (Fr.nil n0) i0 w cl Sw Aw Sz El Hi _ rfl
  rw [ef_rm1 m i0]
  exact r
theorem d2_0 : decode method_2_code 0 = .ok (.iload_n 0, 1) := by decide +kernel
theorem d2_1 : decode method_2_code 1 = .ok (.bipush 97, 2) := by decide +kernel
theorem d2_3 : decode method_2_code 3 = .ok (.if_icmp .lt 11, 3) := by decide +kernel
theorem d2_6 : decode method_2_code 6 = .ok (.iload_n 0, 1) := by decide +kernel
theorem d2_7 : decode method_2_code 7 = .ok (.bipush 122, 2) := by decide +kernel
theorem d2_9 : decode method_2_code 9 = .ok (.if_icmp .gt 5, 3) := by decide +kernel
theorem d2_12 : decode method_2_code 12 = .ok (.iconst 1, 1) := by decide +kernel
theorem d2_13 : decode method_2_code 13 = .ok (.ireturn, 1) := by decide +kernel
theorem d2_14 : decode method_2_code 14 = .ok (.iload_n 0, 1) := by decide +kernel
theorem d2_15 : decode method_2_code 15 = .ok (.bipush 65, 2) := by decide +kernel
theorem d2_17 : decode method_2_code 17 = .ok (.if_icmp .lt 11, 3) := by decide +kernel
theorem d2_20 : decode method_2_code 20 = .ok (.iload_n 0, 1) := by decide +kernel
theorem d2_21 : decode method_2_code 21 = .ok (.bipush 90, 2) := by decide +kernel
theorem d2_23 : decode method_2_code 23 = .ok (.if_icmp .gt 5, 3) := by decide +kernel
theorem d2_26 : decode method_2_code 26 = .ok (.iconst 1, 1) := by decide +kernel
theorem d2_27 : decode method_2_code 27 = .ok (.ireturn, 1) := by decide +kernel
theorem d2_28 : decode method_2_code 28 = .ok (.iload_n 0, 1) := by decide +kernel
theorem d2_29 : decode method_2_code 29 = .ok (.bipush 48, 2) := by decide +kernel
theorem d2_31 : decode method_2_code 31 = .ok (.if_icmp .lt 11, 3) := by decide +kernel
theorem d2_34 : decode method_2_code 34 = .ok (.iload_n 0, 1) := by decide +kernel
theorem d2_35 : decode method_2_code 35 = .ok (.bipush 57, 2) := by decide +kernel
theorem d2_37 : decode method_2_code 37 = .ok (.if_icmp .gt 5, 3) := by decide +kernel
theorem d2_40 : decode method_2_code 40 = .ok (.iconst 1, 1) := by decide +kernel
theorem d2_41 : decode method_2_code 41 = .ok (.ireturn, 1) := by decide +kernel
theorem d2_42 : decode method_2_code 42 = .ok (.iload_n 0, 1) := by decide +kernel
theorem d2_43 : decode method_2_code 43 = .ok (.bipush 33, 2) := by decide +kernel
theorem d2_45 : decode method_2_code 45 = .ok (.if_icmp .eq 87, 3) := by decide +kernel
theorem d2_48 : decode method_2_code 48 = .ok (.iload_n 0, 1) := by decide +kernel
theorem d2_49 : decode method_2_code 49 = .ok (.bipush 35, 2) := by decide +kernel
theorem d2_51 : decode method_2_code 51 = .ok (.if_icmp .eq 81, 3) := by decide +kernel
theorem d2_54 : decode method_2_code 54 = .ok (.iload_n 0, 1) := by decide +kernel
theorem d2_55 : decode method_2_code 55 = .ok (.bipush 36, 2) := by decide +kernel
theorem d2_57 : decode method_2_code 57 = .ok (.if_icmp .eq 75, 3) := by decide +kernel
theorem d2_60 : decode method_2_code 60 = .ok (.iload_n 0, 1) := by decide +kernel
theorem d2_61 : decode method_2_code 61 = .ok (.bipush 37, 2) := by decide +kernel
theorem d2_63 : decode method_2_code 63 = .ok (.if_icmp .eq 69, 3) := by decide +kernel
theorem d2_66 : decode method_2_code 66 = .ok (.iload_n 0, 1) := by decide +kernel
theorem d2_67 : decode method_2_code 67 = .ok (.bipush 38, 2) := by decide +kernel
theorem d2_69 : decode method_2_code 69 = .ok (.if_icmp .eq 63, 3) := by decide +kernel
theorem d2_72 : decode method_2_code 72 = .ok (.iload_n 0, 1) := by decide +kernel
theorem d2_73 : decode method_2_code 73 = .ok (.bipush 39, 2) := by decide +kernel
theorem d2_75 : decode method_2_code 75 = .ok (.if_icmp .eq 57, 3) := by decide +kernel
theorem d2_78 : decode method_2_code 78 = .ok (.iload_n 0, 1) := by decide +kernel
theorem d2_79 : decode method_2_code 79 = .ok (.bipush 42, 2) := by decide +kernel
theorem d2_81 : decode method_2_code 81 = .ok (.if_icmp .eq 51, 3) := by decide +kernel
theorem d2_84 : decode method_2_code 84 = .ok (.iload_n 0, 1) := by decide +kernel
theorem d2_85 : decode method_2_code 85 = .ok (.bipush 43, 2) := by decide +kernel
theorem d2_87 : decode method_2_code 87 = .ok (.if_icmp .eq 45, 3) := by decide +kernel
theorem d2_90 : decode method_2_code 90 = .ok (.iload_n 0, 1) := by decide +kernel
theorem d2_91 : decode method_2_code 91 = .ok (.bipush 45, 2) := by decide +kernel
theorem d2_93 : decode method_2_code 93 = .ok (.if_icmp .eq 39, 3) := by decide +kernel
theorem d2_96 : decode method_2_code 96 = .ok (.iload_n 0, 1) := by decide +kernel
theorem d2_97 : decode method_2_code 97 = .ok (.bipush 46, 2) := by decide +kernel
theorem d2_99 : decode method_2_code 99 = .ok (.if_icmp .eq 33, 3) := by decide +kernel
theorem d2_102 : decode method_2_code 102 = .ok (.iload_n 0, 1) := by decide +kernel
theorem d2_103 : decode method_2_code 103 = .ok (.bipush 94, 2) := by decide +kernel
theorem d2_105 : decode method_2_code 105 = .ok (.if_icmp .eq 27, 3) := by decide +kernel
theorem d2_108 : decode method_2_code 108 = .ok (.iload_n 0, 1) := by decide +kernel
theorem d2_109 : decode method_2_code 109 = .ok (.bipush 95, 2) := by decide +kernel
theorem d2_111 : decode method_2_code 111 = .ok (.if_icmp .eq 21, 3) := by decide +kernel
theorem d2_114 : decode method_2_code 114 = .ok (.iload_n 0, 1) := by decide +kernel
theorem d2_115 : decode method_2_code 115 = .ok (.bipush 96, 2) := by decide +kernel
theorem d2_117 : decode method_2_code 117 = .ok (.if_icmp .eq 15, 3) := by decide +kernel
theorem d2_120 : decode method_2_code 120 = .ok (.iload_n 0, 1) := by decide +kernel
theorem d2_121 : decode method_2_code 121 = .ok (.bipush 124, 2) := by decide +kernel
theorem d2_123 : decode method_2_code 123 = .ok (.if_icmp .eq 9, 3) := by decide +kernel
theorem d2_126 : decode method_2_code 126 = .ok (.iload_n 0, 1) := by decide +kernel
theorem d2_127 : decode method_2_code 127 = .ok (.bipush 126, 2) := by decide +kernel
theorem d2_129 : decode method_2_code 129 = .ok (.if_icmp .ne 7, 3) := by decide +kernel
theorem d2_132 : decode method_2_code 132 = .ok (.iconst 1, 1) := by decide +kernel
theorem d2_133 : decode method_2_code 133 = .ok (.goto 4, 3) := by decide +kernel
theorem d2_136 : decode method_2_code 136 = .ok (.iconst 0, 1) := by decide +kernel
theorem d2_137 : decode method_2_code 137 = .ok (.ireturn, 1) := by decide +kernel
def f2_42 (i0 : Int32) : Int32 := (if i0 = (33 : Int32) then (1 : Int32) else (if i0 = (35 : Int32) then (1 : Int32) else (if i0 = (36 : Int32) then (1 : Int32) else (if i0 = (37 : Int32) then (1 : Int32) else (if i0 = (38 : Int32) then (1 : Int32) else (if i0 = (39 : Int32) then (1 : Int32) else (if i0 = (42 : Int32) then (1 : Int32) else (if i0 = (43 : Int32) then (1 : Int32) else (if i0 = (45 : Int32) then (1 : Int32) else (if i0 = (46 : Int32) then (1 : Int32) else (if i0 = (94 : Int32) then (1 : Int32) else (if i0 = (95 : Int32) then (1 : Int32) else (if i0 = (96 : Int32) then (1 : Int32) else (if i0 = (124 : Int32) then (1 : Int32) else (if i0 = (126 : Int32) then (1 : Int32) else (0 : Int32))))))))))))))))
set_option maxRecDepth 65536 in
set_option maxHeartbeats 40000000 in
theorem b2_42 {p : Program} {l : Launch} {e : Env} {s : State} {m : MethodId} {args : Array Value} {below : List Frame} {meth : Method} {c : Code} {Z : State} {a0 : Array Value} {h0 : Heap} {n0 : Nat} (C : own_C "com/example/canonsign/canonsign/http/HeaderIsTokenCharPinLaw" method_2_code 1 (some .boolean) "expected" p s m meth c Z a0) (Z0 : n0 ≤ h0.size) {T0 : State} {locs : List Loc} (X0 : Stand p l e ({ frames := 0, cells := 0, slots := 0, locals := 0 } : Room) s m args below meth c T0 locs 0 0) (e0 : T0.heap = h0) (N0 : Fr n0 locs) (i0 : Int32) (W : Int32) (hv : W = f2_42 i0) :
    own_Ends p e below s ({ frames := 0, cells := 0, slots := 0, locals := 0 } : Room).cells ({ frames := 0, cells := 0, slots := 0, locals := 0 } : Room).slots (own_Q n0 h0 (some (.int W))) T0 (mkF m 42 #[.val (.int i0)] []) := by
  obtain ⟨hx, hZ, hw, hby, hml, hown, hret, hlk, hnm⟩ := C
  have C : own_C "com/example/canonsign/canonsign/http/HeaderIsTokenCharPinLaw" method_2_code 1 (some .boolean) "expected" p s m meth c Z a0 := ⟨hx, hZ, hw, hby, hml, hown, hret, hlk, hnm⟩
  unfold f2_42 at hv
  refine own_step (fun _ => XS.iloadN X0.here hx rfl (hb hby d2_42) rfl) ?_
  show own_Ends p e below s _ _ _ T0 (mkF m 43 #[.val (.int i0)] [(.int i0)])
  refine own_step (fun _ => XS.bipush X0.here hx rfl (hb hby d2_43)) ?_
  show own_Ends p e below s _ _ _ T0 (mkF m 45 #[.val (.int i0)] [(.int (33 : Int32)), (.int i0)])
  by_cases hc45 : i0 = (33 : Int32)
  · have hv_t := hv.trans (if_pos hc45)
    refine own_step (fun _ => XS.icmpYes X0.here hx rfl (pc0 := 45) (pc' := 132) rfl (hb hby d2_45) rfl (teq hc45).1 (by decide) (by decide)) ?_
    show own_Ends p e below s _ _ _ T0 (mkF m 132 #[.val (.int i0)] [])
    refine own_step (fun _ => XS.iconst X0.here hx rfl (hb hby d2_132)) ?_
    show own_Ends p e below s _ _ _ T0 (mkF m 133 #[.val (.int i0)] [(.int (1 : Int32))])
    refine own_step (fun _ => XS.goto X0.here hx rfl (pc0 := 133) (pc' := 137) rfl (hb hby d2_133) (by decide) (by decide)) ?_
    show own_Ends p e below s _ _ _ T0 (mkF m 137 #[.val (.int i0)] [(.int (1 : Int32))])
    exact own_retN X0 (t := .boolean) hx hret hlk (hb hby d2_137) (by decide) (by decide) (by simp) ⟨congrArg (fun z => some (Value.int z)) hv_t.symm, N0, e0⟩
  · have hv_f := hv.trans (if_neg hc45)
    refine own_step (fun _ => XS.icmpNo X0.here hx rfl (hb hby d2_45) rfl (feq hc45).1) ?_
    show own_Ends p e below s _ _ _ T0 (mkF m 48 #[.val (.int i0)] [])
    refine own_step (fun _ => XS.iloadN X0.here hx rfl (hb hby d2_48) rfl) ?_
    show own_Ends p e below s _ _ _ T0 (mkF m 49 #[.val (.int i0)] [(.int i0)])
    refine own_step (fun _ => XS.bipush X0.here hx rfl (hb hby d2_49)) ?_
    show own_Ends p e below s _ _ _ T0 (mkF m 51 #[.val (.int i0)] [(.int (35 : Int32)), (.int i0)])
    by_cases hc51 : i0 = (35 : Int32)
    · have hv_f_t := hv_f.trans (if_pos hc51)
      refine own_step (fun _ => XS.icmpYes X0.here hx rfl (pc0 := 51) (pc' := 132) rfl (hb hby d2_51) rfl (teq hc51).1 (by decide) (by decide)) ?_
      show own_Ends p e below s _ _ _ T0 (mkF m 132 #[.val (.int i0)] [])
      refine own_step (fun _ => XS.iconst X0.here hx rfl (hb hby d2_132)) ?_
      show own_Ends p e below s _ _ _ T0 (mkF m 133 #[.val (.int i0)] [(.int (1 : Int32))])
      refine own_step (fun _ => XS.goto X0.here hx rfl (pc0 := 133) (pc' := 137) rfl (hb hby d2_133) (by decide) (by decide)) ?_
      show own_Ends p e below s _ _ _ T0 (mkF m 137 #[.val (.int i0)] [(.int (1 : Int32))])
      exact own_retN X0 (t := .boolean) hx hret hlk (hb hby d2_137) (by decide) (by decide) (by simp) ⟨congrArg (fun z => some (Value.int z)) hv_f_t.symm, N0, e0⟩
    · have hv_f_f := hv_f.trans (if_neg hc51)
      refine own_step (fun _ => XS.icmpNo X0.here hx rfl (hb hby d2_51) rfl (feq hc51).1) ?_
      show own_Ends p e below s _ _ _ T0 (mkF m 54 #[.val (.int i0)] [])
      refine own_step (fun _ => XS.iloadN X0.here hx rfl (hb hby d2_54) rfl) ?_
      show own_Ends p e below s _ _ _ T0 (mkF m 55 #[.val (.int i0)] [(.int i0)])
      refine own_step (fun _ => XS.bipush X0.here hx rfl (hb hby d2_55)) ?_
      show own_Ends p e below s _ _ _ T0 (mkF m 57 #[.val (.int i0)] [(.int (36 : Int32)), (.int i0)])
      by_cases hc57 : i0 = (36 : Int32)
      · have hv_f_f_t := hv_f_f.trans (if_pos hc57)
        refine own_step (fun _ => XS.icmpYes X0.here hx rfl (pc0 := 57) (pc' := 132) rfl (hb hby d2_57) rfl (teq hc57).1 (by decide) (by decide)) ?_
        show own_Ends p e below s _ _ _ T0 (mkF m 132 #[.val (.int i0)] [])
        refine own_step (fun _ => XS.iconst X0.here hx rfl (hb hby d2_132)) ?_
        show own_Ends p e below s _ _ _ T0 (mkF m 133 #[.val (.int i0)] [(.int (1 : Int32))])
        refine own_step (fun _ => XS.goto X0.here hx rfl (pc0 := 133) (pc' := 137) rfl (hb hby d2_133) (by decide) (by decide)) ?_
        show own_Ends p e below s _ _ _ T0 (mkF m 137 #[.val (.int i0)] [(.int (1 : Int32))])
        exact own_retN X0 (t := .boolean) hx hret hlk (hb hby d2_137) (by decide) (by decide) (by simp) ⟨congrArg (fun z => some (Value.int z)) hv_f_f_t.symm, N0, e0⟩
      · have hv_f_f_f := hv_f_f.trans (if_neg hc57)
        refine own_step (fun _ => XS.icmpNo X0.here hx rfl (hb hby d2_57) rfl (feq hc57).1) ?_
        show own_Ends p e below s _ _ _ T0 (mkF m 60 #[.val (.int i0)] [])
        refine own_step (fun _ => XS.iloadN X0.here hx rfl (hb hby d2_60) rfl) ?_
        show own_Ends p e below s _ _ _ T0 (mkF m 61 #[.val (.int i0)] [(.int i0)])
        refine own_step (fun _ => XS.bipush X0.here hx rfl (hb hby d2_61)) ?_
        show own_Ends p e below s _ _ _ T0 (mkF m 63 #[.val (.int i0)] [(.int (37 : Int32)), (.int i0)])
        by_cases hc63 : i0 = (37 : Int32)
        · have hv_f_f_f_t := hv_f_f_f.trans (if_pos hc63)
          refine own_step (fun _ => XS.icmpYes X0.here hx rfl (pc0 := 63) (pc' := 132) rfl (hb hby d2_63) rfl (teq hc63).1 (by decide) (by decide)) ?_
          show own_Ends p e below s _ _ _ T0 (mkF m 132 #[.val (.int i0)] [])
          refine own_step (fun _ => XS.iconst X0.here hx rfl (hb hby d2_132)) ?_
          show own_Ends p e below s _ _ _ T0 (mkF m 133 #[.val (.int i0)] [(.int (1 : Int32))])
          refine own_step (fun _ => XS.goto X0.here hx rfl (pc0 := 133) (pc' := 137) rfl (hb hby d2_133) (by decide) (by decide)) ?_
          show own_Ends p e below s _ _ _ T0 (mkF m 137 #[.val (.int i0)] [(.int (1 : Int32))])
          exact own_retN X0 (t := .boolean) hx hret hlk (hb hby d2_137) (by decide) (by decide) (by simp) ⟨congrArg (fun z => some (Value.int z)) hv_f_f_f_t.symm, N0, e0⟩
        · have hv_f_f_f_f := hv_f_f_f.trans (if_neg hc63)
          refine own_step (fun _ => XS.icmpNo X0.here hx rfl (hb hby d2_63) rfl (feq hc63).1) ?_
          show own_Ends p e below s _ _ _ T0 (mkF m 66 #[.val (.int i0)] [])
          refine own_step (fun _ => XS.iloadN X0.here hx rfl (hb hby d2_66) rfl) ?_
          show own_Ends p e below s _ _ _ T0 (mkF m 67 #[.val (.int i0)] [(.int i0)])
          refine own_step (fun _ => XS.bipush X0.here hx rfl (hb hby d2_67)) ?_
          show own_Ends p e below s _ _ _ T0 (mkF m 69 #[.val (.int i0)] [(.int (38 : Int32)), (.int i0)])
          by_cases hc69 : i0 = (38 : Int32)
          · have hv_f_f_f_f_t := hv_f_f_f_f.trans (if_pos hc69)
            refine own_step (fun _ => XS.icmpYes X0.here hx rfl (pc0 := 69) (pc' := 132) rfl (hb hby d2_69) rfl (teq hc69).1 (by decide) (by decide)) ?_
            show own_Ends p e below s _ _ _ T0 (mkF m 132 #[.val (.int i0)] [])
            refine own_step (fun _ => XS.iconst X0.here hx rfl (hb hby d2_132)) ?_
            show own_Ends p e below s _ _ _ T0 (mkF m 133 #[.val (.int i0)] [(.int (1 : Int32))])
            refine own_step (fun _ => XS.goto X0.here hx rfl (pc0 := 133) (pc' := 137) rfl (hb hby d2_133) (by decide) (by decide)) ?_
            show own_Ends p e below s _ _ _ T0 (mkF m 137 #[.val (.int i0)] [(.int (1 : Int32))])
            exact own_retN X0 (t := .boolean) hx hret hlk (hb hby d2_137) (by decide) (by decide) (by simp) ⟨congrArg (fun z => some (Value.int z)) hv_f_f_f_f_t.symm, N0, e0⟩
          · have hv_f_f_f_f_f := hv_f_f_f_f.trans (if_neg hc69)
            refine own_step (fun _ => XS.icmpNo X0.here hx rfl (hb hby d2_69) rfl (feq hc69).1) ?_
            show own_Ends p e below s _ _ _ T0 (mkF m 72 #[.val (.int i0)] [])
            refine own_step (fun _ => XS.iloadN X0.here hx rfl (hb hby d2_72) rfl) ?_
            show own_Ends p e below s _ _ _ T0 (mkF m 73 #[.val (.int i0)] [(.int i0)])
            refine own_step (fun _ => XS.bipush X0.here hx rfl (hb hby d2_73)) ?_
            show own_Ends p e below s _ _ _ T0 (mkF m 75 #[.val (.int i0)] [(.int (39 : Int32)), (.int i0)])
            by_cases hc75 : i0 = (39 : Int32)
            · have hv_f_f_f_f_f_t := hv_f_f_f_f_f.trans (if_pos hc75)
              refine own_step (fun _ => XS.icmpYes X0.here hx rfl (pc0 := 75) (pc' := 132) rfl (hb hby d2_75) rfl (teq hc75).1 (by decide) (by decide)) ?_
              show own_Ends p e below s _ _ _ T0 (mkF m 132 #[.val (.int i0)] [])
              refine own_step (fun _ => XS.iconst X0.here hx rfl (hb hby d2_132)) ?_
              show own_Ends p e below s _ _ _ T0 (mkF m 133 #[.val (.int i0)] [(.int (1 : Int32))])
              refine own_step (fun _ => XS.goto X0.here hx rfl (pc0 := 133) (pc' := 137) rfl (hb hby d2_133) (by decide) (by decide)) ?_
              show own_Ends p e below s _ _ _ T0 (mkF m 137 #[.val (.int i0)] [(.int (1 : Int32))])
              exact own_retN X0 (t := .boolean) hx hret hlk (hb hby d2_137) (by decide) (by decide) (by simp) ⟨congrArg (fun z => some (Value.int z)) hv_f_f_f_f_f_t.symm, N0, e0⟩
            · have hv_f_f_f_f_f_f := hv_f_f_f_f_f.trans (if_neg hc75)
              refine own_step (fun _ => XS.icmpNo X0.here hx rfl (hb hby d2_75) rfl (feq hc75).1) ?_
              show own_Ends p e below s _ _ _ T0 (mkF m 78 #[.val (.int i0)] [])
              refine own_step (fun _ => XS.iloadN X0.here hx rfl (hb hby d2_78) rfl) ?_
              show own_Ends p e below s _ _ _ T0 (mkF m 79 #[.val (.int i0)] [(.int i0)])
              refine own_step (fun _ => XS.bipush X0.here hx rfl (hb hby d2_79)) ?_
              show own_Ends p e below s _ _ _ T0 (mkF m 81 #[.val (.int i0)] [(.int (42 : Int32)), (.int i0)])
              by_cases hc81 : i0 = (42 : Int32)
              · have hv_f_f_f_f_f_f_t := hv_f_f_f_f_f_f.trans (if_pos hc81)
                refine own_step (fun _ => XS.icmpYes X0.here hx rfl (pc0 := 81) (pc' := 132) rfl (hb hby d2_81) rfl (teq hc81).1 (by decide) (by decide)) ?_
                show own_Ends p e below s _ _ _ T0 (mkF m 132 #[.val (.int i0)] [])
                refine own_step (fun _ => XS.iconst X0.here hx rfl (hb hby d2_132)) ?_
                show own_Ends p e below s _ _ _ T0 (mkF m 133 #[.val (.int i0)] [(.int (1 : Int32))])
                refine own_step (fun _ => XS.goto X0.here hx rfl (pc0 := 133) (pc' := 137) rfl (hb hby d2_133) (by decide) (by decide)) ?_
                show own_Ends p e below s _ _ _ T0 (mkF m 137 #[.val (.int i0)] [(.int (1 : Int32))])
                exact own_retN X0 (t := .boolean) hx hret hlk (hb hby d2_137) (by decide) (by decide) (by simp) ⟨congrArg (fun z => some (Value.int z)) hv_f_f_f_f_f_f_t.symm, N0, e0⟩
              · have hv_f_f_f_f_f_f_f := hv_f_f_f_f_f_f.trans (if_neg hc81)
                refine own_step (fun _ => XS.icmpNo X0.here hx rfl (hb hby d2_81) rfl (feq hc81).1) ?_
                show own_Ends p e below s _ _ _ T0 (mkF m 84 #[.val (.int i0)] [])
                refine own_step (fun _ => XS.iloadN X0.here hx rfl (hb hby d2_84) rfl) ?_
                show own_Ends p e below s _ _ _ T0 (mkF m 85 #[.val (.int i0)] [(.int i0)])
                refine own_step (fun _ => XS.bipush X0.here hx rfl (hb hby d2_85)) ?_
                show own_Ends p e below s _ _ _ T0 (mkF m 87 #[.val (.int i0)] [(.int (43 : Int32)), (.int i0)])
                by_cases hc87 : i0 = (43 : Int32)
                · have hv_f_f_f_f_f_f_f_t := hv_f_f_f_f_f_f_f.trans (if_pos hc87)
                  refine own_step (fun _ => XS.icmpYes X0.here hx rfl (pc0 := 87) (pc' := 132) rfl (hb hby d2_87) rfl (teq hc87).1 (by decide) (by decide)) ?_
                  show own_Ends p e below s _ _ _ T0 (mkF m 132 #[.val (.int i0)] [])
                  refine own_step (fun _ => XS.iconst X0.here hx rfl (hb hby d2_132)) ?_
                  show own_Ends p e below s _ _ _ T0 (mkF m 133 #[.val (.int i0)] [(.int (1 : Int32))])
                  refine own_step (fun _ => XS.goto X0.here hx rfl (pc0 := 133) (pc' := 137) rfl (hb hby d2_133) (by decide) (by decide)) ?_
                  show own_Ends p e below s _ _ _ T0 (mkF m 137 #[.val (.int i0)] [(.int (1 : Int32))])
                  exact own_retN X0 (t := .boolean) hx hret hlk (hb hby d2_137) (by decide) (by decide) (by simp) ⟨congrArg (fun z => some (Value.int z)) hv_f_f_f_f_f_f_f_t.symm, N0, e0⟩
                · have hv_f_f_f_f_f_f_f_f := hv_f_f_f_f_f_f_f.trans (if_neg hc87)
                  refine own_step (fun _ => XS.icmpNo X0.here hx rfl (hb hby d2_87) rfl (feq hc87).1) ?_
                  show own_Ends p e below s _ _ _ T0 (mkF m 90 #[.val (.int i0)] [])
                  refine own_step (fun _ => XS.iloadN X0.here hx rfl (hb hby d2_90) rfl) ?_
                  show own_Ends p e below s _ _ _ T0 (mkF m 91 #[.val (.int i0)] [(.int i0)])
                  refine own_step (fun _ => XS.bipush X0.here hx rfl (hb hby d2_91)) ?_
                  show own_Ends p e below s _ _ _ T0 (mkF m 93 #[.val (.int i0)] [(.int (45 : Int32)), (.int i0)])
                  by_cases hc93 : i0 = (45 : Int32)
                  · have hv_f_f_f_f_f_f_f_f_t := hv_f_f_f_f_f_f_f_f.trans (if_pos hc93)
                    refine own_step (fun _ => XS.icmpYes X0.here hx rfl (pc0 := 93) (pc' := 132) rfl (hb hby d2_93) rfl (teq hc93).1 (by decide) (by decide)) ?_
                    show own_Ends p e below s _ _ _ T0 (mkF m 132 #[.val (.int i0)] [])
                    refine own_step (fun _ => XS.iconst X0.here hx rfl (hb hby d2_132)) ?_
                    show own_Ends p e below s _ _ _ T0 (mkF m 133 #[.val (.int i0)] [(.int (1 : Int32))])
                    refine own_step (fun _ => XS.goto X0.here hx rfl (pc0 := 133) (pc' := 137) rfl (hb hby d2_133) (by decide) (by decide)) ?_
                    show own_Ends p e below s _ _ _ T0 (mkF m 137 #[.val (.int i0)] [(.int (1 : Int32))])
                    exact own_retN X0 (t := .boolean) hx hret hlk (hb hby d2_137) (by decide) (by decide) (by simp) ⟨congrArg (fun z => some (Value.int z)) hv_f_f_f_f_f_f_f_f_t.symm, N0, e0⟩
                  · have hv_f_f_f_f_f_f_f_f_f := hv_f_f_f_f_f_f_f_f.trans (if_neg hc93)
                    refine own_step (fun _ => XS.icmpNo X0.here hx rfl (hb hby d2_93) rfl (feq hc93).1) ?_
                    show own_Ends p e below s _ _ _ T0 (mkF m 96 #[.val (.int i0)] [])
                    refine own_step (fun _ => XS.iloadN X0.here hx rfl (hb hby d2_96) rfl) ?_
                    show own_Ends p e below s _ _ _ T0 (mkF m 97 #[.val (.int i0)] [(.int i0)])
                    refine own_step (fun _ => XS.bipush X0.here hx rfl (hb hby d2_97)) ?_
                    show own_Ends p e below s _ _ _ T0 (mkF m 99 #[.val (.int i0)] [(.int (46 : Int32)), (.int i0)])
                    by_cases hc99 : i0 = (46 : Int32)
                    · have hv_f_f_f_f_f_f_f_f_f_t := hv_f_f_f_f_f_f_f_f_f.trans (if_pos hc99)
                      refine own_step (fun _ => XS.icmpYes X0.here hx rfl (pc0 := 99) (pc' := 132) rfl (hb hby d2_99) rfl (teq hc99).1 (by decide) (by decide)) ?_
                      show own_Ends p e below s _ _ _ T0 (mkF m 132 #[.val (.int i0)] [])
                      refine own_step (fun _ => XS.iconst X0.here hx rfl (hb hby d2_132)) ?_
                      show own_Ends p e below s _ _ _ T0 (mkF m 133 #[.val (.int i0)] [(.int (1 : Int32))])
                      refine own_step (fun _ => XS.goto X0.here hx rfl (pc0 := 133) (pc' := 137) rfl (hb hby d2_133) (by decide) (by decide)) ?_
                      show own_Ends p e below s _ _ _ T0 (mkF m 137 #[.val (.int i0)] [(.int (1 : Int32))])
                      exact own_retN X0 (t := .boolean) hx hret hlk (hb hby d2_137) (by decide) (by decide) (by simp) ⟨congrArg (fun z => some (Value.int z)) hv_f_f_f_f_f_f_f_f_f_t.symm, N0, e0⟩
                    · have hv_f_f_f_f_f_f_f_f_f_f := hv_f_f_f_f_f_f_f_f_f.trans (if_neg hc99)
                      refine own_step (fun _ => XS.icmpNo X0.here hx rfl (hb hby d2_99) rfl (feq hc99).1) ?_
                      show own_Ends p e below s _ _ _ T0 (mkF m 102 #[.val (.int i0)] [])
                      refine own_step (fun _ => XS.iloadN X0.here hx rfl (hb hby d2_102) rfl) ?_
                      show own_Ends p e below s _ _ _ T0 (mkF m 103 #[.val (.int i0)] [(.int i0)])
                      refine own_step (fun _ => XS.bipush X0.here hx rfl (hb hby d2_103)) ?_
                      show own_Ends p e below s _ _ _ T0 (mkF m 105 #[.val (.int i0)] [(.int (94 : Int32)), (.int i0)])
                      by_cases hc105 : i0 = (94 : Int32)
                      · have hv_f_f_f_f_f_f_f_f_f_f_t := hv_f_f_f_f_f_f_f_f_f_f.trans (if_pos hc105)
                        refine own_step (fun _ => XS.icmpYes X0.here hx rfl (pc0 := 105) (pc' := 132) rfl (hb hby d2_105) rfl (teq hc105).1 (by decide) (by decide)) ?_
                        show own_Ends p e below s _ _ _ T0 (mkF m 132 #[.val (.int i0)] [])
                        refine own_step (fun _ => XS.iconst X0.here hx rfl (hb hby d2_132)) ?_
                        show own_Ends p e below s _ _ _ T0 (mkF m 133 #[.val (.int i0)] [(.int (1 : Int32))])
                        refine own_step (fun _ => XS.goto X0.here hx rfl (pc0 := 133) (pc' := 137) rfl (hb hby d2_133) (by decide) (by decide)) ?_
                        show own_Ends p e below s _ _ _ T0 (mkF m 137 #[.val (.int i0)] [(.int (1 : Int32))])
                        exact own_retN X0 (t := .boolean) hx hret hlk (hb hby d2_137) (by decide) (by decide) (by simp) ⟨congrArg (fun z => some (Value.int z)) hv_f_f_f_f_f_f_f_f_f_f_t.symm, N0, e0⟩
                      · have hv_f_f_f_f_f_f_f_f_f_f_f := hv_f_f_f_f_f_f_f_f_f_f.trans (if_neg hc105)
                        refine own_step (fun _ => XS.icmpNo X0.here hx rfl (hb hby d2_105) rfl (feq hc105).1) ?_
                        show own_Ends p e below s _ _ _ T0 (mkF m 108 #[.val (.int i0)] [])
                        refine own_step (fun _ => XS.iloadN X0.here hx rfl (hb hby d2_108) rfl) ?_
                        show own_Ends p e below s _ _ _ T0 (mkF m 109 #[.val (.int i0)] [(.int i0)])
                        refine own_step (fun _ => XS.bipush X0.here hx rfl (hb hby d2_109)) ?_
                        show own_Ends p e below s _ _ _ T0 (mkF m 111 #[.val (.int i0)] [(.int (95 : Int32)), (.int i0)])
                        by_cases hc111 : i0 = (95 : Int32)
                        · have hv_f_f_f_f_f_f_f_f_f_f_f_t := hv_f_f_f_f_f_f_f_f_f_f_f.trans (if_pos hc111)
                          refine own_step (fun _ => XS.icmpYes X0.here hx rfl (pc0 := 111) (pc' := 132) rfl (hb hby d2_111) rfl (teq hc111).1 (by decide) (by decide)) ?_
                          show own_Ends p e below s _ _ _ T0 (mkF m 132 #[.val (.int i0)] [])
                          refine own_step (fun _ => XS.iconst X0.here hx rfl (hb hby d2_132)) ?_
                          show own_Ends p e below s _ _ _ T0 (mkF m 133 #[.val (.int i0)] [(.int (1 : Int32))])
                          refine own_step (fun _ => XS.goto X0.here hx rfl (pc0 := 133) (pc' := 137) rfl (hb hby d2_133) (by decide) (by decide)) ?_
                          show own_Ends p e below s _ _ _ T0 (mkF m 137 #[.val (.int i0)] [(.int (1 : Int32))])
                          exact own_retN X0 (t := .boolean) hx hret hlk (hb hby d2_137) (by decide) (by decide) (by simp) ⟨congrArg (fun z => some (Value.int z)) hv_f_f_f_f_f_f_f_f_f_f_f_t.symm, N0, e0⟩
                        · have hv_f_f_f_f_f_f_f_f_f_f_f_f := hv_f_f_f_f_f_f_f_f_f_f_f.trans (if_neg hc111)
                          refine own_step (fun _ => XS.icmpNo X0.here hx rfl (hb hby d2_111) rfl (feq hc111).1) ?_
                          show own_Ends p e below s _ _ _ T0 (mkF m 114 #[.val (.int i0)] [])
                          refine own_step (fun _ => XS.iloadN X0.here hx rfl (hb hby d2_114) rfl) ?_
                          show own_Ends p e below s _ _ _ T0 (mkF m 115 #[.val (.int i0)] [(.int i0)])
                          refine own_step (fun _ => XS.bipush X0.here hx rfl (hb hby d2_115)) ?_
                          show own_Ends p e below s _ _ _ T0 (mkF m 117 #[.val (.int i0)] [(.int (96 : Int32)), (.int i0)])
                          by_cases hc117 : i0 = (96 : Int32)
                          · have hv_f_f_f_f_f_f_f_f_f_f_f_f_t := hv_f_f_f_f_f_f_f_f_f_f_f_f.trans (if_pos hc117)
                            refine own_step (fun _ => XS.icmpYes X0.here hx rfl (pc0 := 117) (pc' := 132) rfl (hb hby d2_117) rfl (teq hc117).1 (by decide) (by decide)) ?_
                            show own_Ends p e below s _ _ _ T0 (mkF m 132 #[.val (.int i0)] [])
                            refine own_step (fun _ => XS.iconst X0.here hx rfl (hb hby d2_132)) ?_
                            show own_Ends p e below s _ _ _ T0 (mkF m 133 #[.val (.int i0)] [(.int (1 : Int32))])
                            refine own_step (fun _ => XS.goto X0.here hx rfl (pc0 := 133) (pc' := 137) rfl (hb hby d2_133) (by decide) (by decide)) ?_
                            show own_Ends p e below s _ _ _ T0 (mkF m 137 #[.val (.int i0)] [(.int (1 : Int32))])
                            exact own_retN X0 (t := .boolean) hx hret hlk (hb hby d2_137) (by decide) (by decide) (by simp) ⟨congrArg (fun z => some (Value.int z)) hv_f_f_f_f_f_f_f_f_f_f_f_f_t.symm, N0, e0⟩
                          · have hv_f_f_f_f_f_f_f_f_f_f_f_f_f := hv_f_f_f_f_f_f_f_f_f_f_f_f.trans (if_neg hc117)
                            refine own_step (fun _ => XS.icmpNo X0.here hx rfl (hb hby d2_117) rfl (feq hc117).1) ?_
                            show own_Ends p e below s _ _ _ T0 (mkF m 120 #[.val (.int i0)] [])
                            refine own_step (fun _ => XS.iloadN X0.here hx rfl (hb hby d2_120) rfl) ?_
                            show own_Ends p e below s _ _ _ T0 (mkF m 121 #[.val (.int i0)] [(.int i0)])
                            refine own_step (fun _ => XS.bipush X0.here hx rfl (hb hby d2_121)) ?_
                            show own_Ends p e below s _ _ _ T0 (mkF m 123 #[.val (.int i0)] [(.int (124 : Int32)), (.int i0)])
                            by_cases hc123 : i0 = (124 : Int32)
                            · have hv_f_f_f_f_f_f_f_f_f_f_f_f_f_t := hv_f_f_f_f_f_f_f_f_f_f_f_f_f.trans (if_pos hc123)
                              refine own_step (fun _ => XS.icmpYes X0.here hx rfl (pc0 := 123) (pc' := 132) rfl (hb hby d2_123) rfl (teq hc123).1 (by decide) (by decide)) ?_
                              show own_Ends p e below s _ _ _ T0 (mkF m 132 #[.val (.int i0)] [])
                              refine own_step (fun _ => XS.iconst X0.here hx rfl (hb hby d2_132)) ?_
                              show own_Ends p e below s _ _ _ T0 (mkF m 133 #[.val (.int i0)] [(.int (1 : Int32))])
                              refine own_step (fun _ => XS.goto X0.here hx rfl (pc0 := 133) (pc' := 137) rfl (hb hby d2_133) (by decide) (by decide)) ?_
                              show own_Ends p e below s _ _ _ T0 (mkF m 137 #[.val (.int i0)] [(.int (1 : Int32))])
                              exact own_retN X0 (t := .boolean) hx hret hlk (hb hby d2_137) (by decide) (by decide) (by simp) ⟨congrArg (fun z => some (Value.int z)) hv_f_f_f_f_f_f_f_f_f_f_f_f_f_t.symm, N0, e0⟩
                            · have hv_f_f_f_f_f_f_f_f_f_f_f_f_f_f := hv_f_f_f_f_f_f_f_f_f_f_f_f_f.trans (if_neg hc123)
                              refine own_step (fun _ => XS.icmpNo X0.here hx rfl (hb hby d2_123) rfl (feq hc123).1) ?_
                              show own_Ends p e below s _ _ _ T0 (mkF m 126 #[.val (.int i0)] [])
                              refine own_step (fun _ => XS.iloadN X0.here hx rfl (hb hby d2_126) rfl) ?_
                              show own_Ends p e below s _ _ _ T0 (mkF m 127 #[.val (.int i0)] [(.int i0)])
                              refine own_step (fun _ => XS.bipush X0.here hx rfl (hb hby d2_127)) ?_
                              show own_Ends p e below s _ _ _ T0 (mkF m 129 #[.val (.int i0)] [(.int (126 : Int32)), (.int i0)])
                              by_cases hc129 : i0 = (126 : Int32)
                              · have hv_f_f_f_f_f_f_f_f_f_f_f_f_f_f_t := hv_f_f_f_f_f_f_f_f_f_f_f_f_f_f.trans (if_pos hc129)
                                refine own_step (fun _ => XS.icmpNo X0.here hx rfl (hb hby d2_129) rfl (teq hc129).2) ?_
                                show own_Ends p e below s _ _ _ T0 (mkF m 132 #[.val (.int i0)] [])
                                refine own_step (fun _ => XS.iconst X0.here hx rfl (hb hby d2_132)) ?_
                                show own_Ends p e below s _ _ _ T0 (mkF m 133 #[.val (.int i0)] [(.int (1 : Int32))])
                                refine own_step (fun _ => XS.goto X0.here hx rfl (pc0 := 133) (pc' := 137) rfl (hb hby d2_133) (by decide) (by decide)) ?_
                                show own_Ends p e below s _ _ _ T0 (mkF m 137 #[.val (.int i0)] [(.int (1 : Int32))])
                                exact own_retN X0 (t := .boolean) hx hret hlk (hb hby d2_137) (by decide) (by decide) (by simp) ⟨congrArg (fun z => some (Value.int z)) hv_f_f_f_f_f_f_f_f_f_f_f_f_f_f_t.symm, N0, e0⟩
                              · have hv_f_f_f_f_f_f_f_f_f_f_f_f_f_f_f := hv_f_f_f_f_f_f_f_f_f_f_f_f_f_f.trans (if_neg hc129)
                                refine own_step (fun _ => XS.icmpYes X0.here hx rfl (pc0 := 129) (pc' := 136) rfl (hb hby d2_129) rfl (feq hc129).2 (by decide) (by decide)) ?_
                                show own_Ends p e below s _ _ _ T0 (mkF m 136 #[.val (.int i0)] [])
                                refine own_step (fun _ => XS.iconst X0.here hx rfl (hb hby d2_136)) ?_
                                show own_Ends p e below s _ _ _ T0 (mkF m 137 #[.val (.int i0)] [(.int (0 : Int32))])
                                exact own_retN X0 (t := .boolean) hx hret hlk (hb hby d2_137) (by decide) (by decide) (by simp) ⟨congrArg (fun z => some (Value.int z)) hv_f_f_f_f_f_f_f_f_f_f_f_f_f_f_f.symm, N0, e0⟩
def f2_28 (i0 : Int32) : Int32 := (if i0 < (48 : Int32) then (f2_42 i0) else (if (57 : Int32) < i0 then (f2_42 i0) else (1 : Int32)))
set_option maxRecDepth 65536 in
set_option maxHeartbeats 40000000 in
theorem b2_28 {p : Program} {l : Launch} {e : Env} {s : State} {m : MethodId} {args : Array Value} {below : List Frame} {meth : Method} {c : Code} {Z : State} {a0 : Array Value} {h0 : Heap} {n0 : Nat} (C : own_C "com/example/canonsign/canonsign/http/HeaderIsTokenCharPinLaw" method_2_code 1 (some .boolean) "expected" p s m meth c Z a0) (Z0 : n0 ≤ h0.size) {T0 : State} {locs : List Loc} (X0 : Stand p l e ({ frames := 0, cells := 0, slots := 0, locals := 0 } : Room) s m args below meth c T0 locs 0 0) (e0 : T0.heap = h0) (N0 : Fr n0 locs) (i0 : Int32) (W : Int32) (hv : W = f2_28 i0) :
    own_Ends p e below s ({ frames := 0, cells := 0, slots := 0, locals := 0 } : Room).cells ({ frames := 0, cells := 0, slots := 0, locals := 0 } : Room).slots (own_Q n0 h0 (some (.int W))) T0 (mkF m 28 #[.val (.int i0)] []) := by
  obtain ⟨hx, hZ, hw, hby, hml, hown, hret, hlk, hnm⟩ := C
  have C : own_C "com/example/canonsign/canonsign/http/HeaderIsTokenCharPinLaw" method_2_code 1 (some .boolean) "expected" p s m meth c Z a0 := ⟨hx, hZ, hw, hby, hml, hown, hret, hlk, hnm⟩
  unfold f2_28 at hv
  refine own_step (fun _ => XS.iloadN X0.here hx rfl (hb hby d2_28) rfl) ?_
  show own_Ends p e below s _ _ _ T0 (mkF m 29 #[.val (.int i0)] [(.int i0)])
  refine own_step (fun _ => XS.bipush X0.here hx rfl (hb hby d2_29)) ?_
  show own_Ends p e below s _ _ _ T0 (mkF m 31 #[.val (.int i0)] [(.int (48 : Int32)), (.int i0)])
  by_cases hc31 : i0 < (48 : Int32)
  · have hv_t := hv.trans (if_pos hc31)
    refine own_step (fun _ => XS.icmpYes X0.here hx rfl (pc0 := 31) (pc' := 42) rfl (hb hby d2_31) rfl (tlt hc31).1 (by decide) (by decide)) ?_
    show own_Ends p e below s _ _ _ T0 (mkF m 42 #[.val (.int i0)] [])
    exact b2_42 C Z0 X0 e0 N0 i0 _ hv_t
  · have hv_f := hv.trans (if_neg hc31)
    refine own_step (fun _ => XS.icmpNo X0.here hx rfl (hb hby d2_31) rfl (flt hc31).1) ?_
    show own_Ends p e below s _ _ _ T0 (mkF m 34 #[.val (.int i0)] [])
    refine own_step (fun _ => XS.iloadN X0.here hx rfl (hb hby d2_34) rfl) ?_
    show own_Ends p e below s _ _ _ T0 (mkF m 35 #[.val (.int i0)] [(.int i0)])
    refine own_step (fun _ => XS.bipush X0.here hx rfl (hb hby d2_35)) ?_
    show own_Ends p e below s _ _ _ T0 (mkF m 37 #[.val (.int i0)] [(.int (57 : Int32)), (.int i0)])
    by_cases hc37 : (57 : Int32) < i0
    · have hv_f_t := hv_f.trans (if_pos hc37)
      refine own_step (fun _ => XS.icmpYes X0.here hx rfl (pc0 := 37) (pc' := 42) rfl (hb hby d2_37) rfl (tlt hc37).2.2.1 (by decide) (by decide)) ?_
      show own_Ends p e below s _ _ _ T0 (mkF m 42 #[.val (.int i0)] [])
      exact b2_42 C Z0 X0 e0 N0 i0 _ hv_f_t
    · have hv_f_f := hv_f.trans (if_neg hc37)
      refine own_step (fun _ => XS.icmpNo X0.here hx rfl (hb hby d2_37) rfl (flt hc37).2.2.1) ?_
      show own_Ends p e below s _ _ _ T0 (mkF m 40 #[.val (.int i0)] [])
      refine own_step (fun _ => XS.iconst X0.here hx rfl (hb hby d2_40)) ?_
      show own_Ends p e below s _ _ _ T0 (mkF m 41 #[.val (.int i0)] [(.int (1 : Int32))])
      exact own_retN X0 (t := .boolean) hx hret hlk (hb hby d2_41) (by decide) (by decide) (by simp) ⟨congrArg (fun z => some (Value.int z)) hv_f_f.symm, N0, e0⟩
def f2_14 (i0 : Int32) : Int32 := (if i0 < (65 : Int32) then (f2_28 i0) else (if (90 : Int32) < i0 then (f2_28 i0) else (1 : Int32)))
set_option maxRecDepth 65536 in
set_option maxHeartbeats 40000000 in
theorem b2_14 {p : Program} {l : Launch} {e : Env} {s : State} {m : MethodId} {args : Array Value} {below : List Frame} {meth : Method} {c : Code} {Z : State} {a0 : Array Value} {h0 : Heap} {n0 : Nat} (C : own_C "com/example/canonsign/canonsign/http/HeaderIsTokenCharPinLaw" method_2_code 1 (some .boolean) "expected" p s m meth c Z a0) (Z0 : n0 ≤ h0.size) {T0 : State} {locs : List Loc} (X0 : Stand p l e ({ frames := 0, cells := 0, slots := 0, locals := 0 } : Room) s m args below meth c T0 locs 0 0) (e0 : T0.heap = h0) (N0 : Fr n0 locs) (i0 : Int32) (W : Int32) (hv : W = f2_14 i0) :
    own_Ends p e below s ({ frames := 0, cells := 0, slots := 0, locals := 0 } : Room).cells ({ frames := 0, cells := 0, slots := 0, locals := 0 } : Room).slots (own_Q n0 h0 (some (.int W))) T0 (mkF m 14 #[.val (.int i0)] []) := by
  obtain ⟨hx, hZ, hw, hby, hml, hown, hret, hlk, hnm⟩ := C
  have C : own_C "com/example/canonsign/canonsign/http/HeaderIsTokenCharPinLaw" method_2_code 1 (some .boolean) "expected" p s m meth c Z a0 := ⟨hx, hZ, hw, hby, hml, hown, hret, hlk, hnm⟩
  unfold f2_14 at hv
  refine own_step (fun _ => XS.iloadN X0.here hx rfl (hb hby d2_14) rfl) ?_
  show own_Ends p e below s _ _ _ T0 (mkF m 15 #[.val (.int i0)] [(.int i0)])
  refine own_step (fun _ => XS.bipush X0.here hx rfl (hb hby d2_15)) ?_
  show own_Ends p e below s _ _ _ T0 (mkF m 17 #[.val (.int i0)] [(.int (65 : Int32)), (.int i0)])
  by_cases hc17 : i0 < (65 : Int32)
  · have hv_t := hv.trans (if_pos hc17)
    refine own_step (fun _ => XS.icmpYes X0.here hx rfl (pc0 := 17) (pc' := 28) rfl (hb hby d2_17) rfl (tlt hc17).1 (by decide) (by decide)) ?_
    show own_Ends p e below s _ _ _ T0 (mkF m 28 #[.val (.int i0)] [])
    exact b2_28 C Z0 X0 e0 N0 i0 _ hv_t
  · have hv_f := hv.trans (if_neg hc17)
    refine own_step (fun _ => XS.icmpNo X0.here hx rfl (hb hby d2_17) rfl (flt hc17).1) ?_
    show own_Ends p e below s _ _ _ T0 (mkF m 20 #[.val (.int i0)] [])
    refine own_step (fun _ => XS.iloadN X0.here hx rfl (hb hby d2_20) rfl) ?_
    show own_Ends p e below s _ _ _ T0 (mkF m 21 #[.val (.int i0)] [(.int i0)])
    refine own_step (fun _ => XS.bipush X0.here hx rfl (hb hby d2_21)) ?_
    show own_Ends p e below s _ _ _ T0 (mkF m 23 #[.val (.int i0)] [(.int (90 : Int32)), (.int i0)])
    by_cases hc23 : (90 : Int32) < i0
    · have hv_f_t := hv_f.trans (if_pos hc23)
      refine own_step (fun _ => XS.icmpYes X0.here hx rfl (pc0 := 23) (pc' := 28) rfl (hb hby d2_23) rfl (tlt hc23).2.2.1 (by decide) (by decide)) ?_
      show own_Ends p e below s _ _ _ T0 (mkF m 28 #[.val (.int i0)] [])
      exact b2_28 C Z0 X0 e0 N0 i0 _ hv_f_t
    · have hv_f_f := hv_f.trans (if_neg hc23)
      refine own_step (fun _ => XS.icmpNo X0.here hx rfl (hb hby d2_23) rfl (flt hc23).2.2.1) ?_
      show own_Ends p e below s _ _ _ T0 (mkF m 26 #[.val (.int i0)] [])
      refine own_step (fun _ => XS.iconst X0.here hx rfl (hb hby d2_26)) ?_
      show own_Ends p e below s _ _ _ T0 (mkF m 27 #[.val (.int i0)] [(.int (1 : Int32))])
      exact own_retN X0 (t := .boolean) hx hret hlk (hb hby d2_27) (by decide) (by decide) (by simp) ⟨congrArg (fun z => some (Value.int z)) hv_f_f.symm, N0, e0⟩
def f2_0 (i0 : Int32) : Int32 := (if i0 < (97 : Int32) then (f2_14 i0) else (if (122 : Int32) < i0 then (f2_14 i0) else (1 : Int32)))
set_option maxRecDepth 65536 in
set_option maxHeartbeats 40000000 in
theorem b2_0 {p : Program} {l : Launch} {e : Env} {s : State} {m : MethodId} {args : Array Value} {below : List Frame} {meth : Method} {c : Code} {Z : State} {a0 : Array Value} {h0 : Heap} {n0 : Nat} (C : own_C "com/example/canonsign/canonsign/http/HeaderIsTokenCharPinLaw" method_2_code 1 (some .boolean) "expected" p s m meth c Z a0) (Z0 : n0 ≤ h0.size) {T0 : State} {locs : List Loc} (X0 : Stand p l e ({ frames := 0, cells := 0, slots := 0, locals := 0 } : Room) s m args below meth c T0 locs 0 0) (e0 : T0.heap = h0) (N0 : Fr n0 locs) (i0 : Int32) (W : Int32) (hv : W = f2_0 i0) :
    own_Ends p e below s ({ frames := 0, cells := 0, slots := 0, locals := 0 } : Room).cells ({ frames := 0, cells := 0, slots := 0, locals := 0 } : Room).slots (own_Q n0 h0 (some (.int W))) T0 (mkF m 0 #[.val (.int i0)] []) := by
  obtain ⟨hx, hZ, hw, hby, hml, hown, hret, hlk, hnm⟩ := C
  have C : own_C "com/example/canonsign/canonsign/http/HeaderIsTokenCharPinLaw" method_2_code 1 (some .boolean) "expected" p s m meth c Z a0 := ⟨hx, hZ, hw, hby, hml, hown, hret, hlk, hnm⟩
  unfold f2_0 at hv
  refine own_step (fun _ => XS.iloadN X0.here hx rfl (hb hby d2_0) rfl) ?_
  show own_Ends p e below s _ _ _ T0 (mkF m 1 #[.val (.int i0)] [(.int i0)])
  refine own_step (fun _ => XS.bipush X0.here hx rfl (hb hby d2_1)) ?_
  show own_Ends p e below s _ _ _ T0 (mkF m 3 #[.val (.int i0)] [(.int (97 : Int32)), (.int i0)])
  by_cases hc3 : i0 < (97 : Int32)
  · have hv_t := hv.trans (if_pos hc3)
    refine own_step (fun _ => XS.icmpYes X0.here hx rfl (pc0 := 3) (pc' := 14) rfl (hb hby d2_3) rfl (tlt hc3).1 (by decide) (by decide)) ?_
    show own_Ends p e below s _ _ _ T0 (mkF m 14 #[.val (.int i0)] [])
    exact b2_14 C Z0 X0 e0 N0 i0 _ hv_t
  · have hv_f := hv.trans (if_neg hc3)
    refine own_step (fun _ => XS.icmpNo X0.here hx rfl (hb hby d2_3) rfl (flt hc3).1) ?_
    show own_Ends p e below s _ _ _ T0 (mkF m 6 #[.val (.int i0)] [])
    refine own_step (fun _ => XS.iloadN X0.here hx rfl (hb hby d2_6) rfl) ?_
    show own_Ends p e below s _ _ _ T0 (mkF m 7 #[.val (.int i0)] [(.int i0)])
    refine own_step (fun _ => XS.bipush X0.here hx rfl (hb hby d2_7)) ?_
    show own_Ends p e below s _ _ _ T0 (mkF m 9 #[.val (.int i0)] [(.int (122 : Int32)), (.int i0)])
    by_cases hc9 : (122 : Int32) < i0
    · have hv_f_t := hv_f.trans (if_pos hc9)
      refine own_step (fun _ => XS.icmpYes X0.here hx rfl (pc0 := 9) (pc' := 14) rfl (hb hby d2_9) rfl (tlt hc9).2.2.1 (by decide) (by decide)) ?_
      show own_Ends p e below s _ _ _ T0 (mkF m 14 #[.val (.int i0)] [])
      exact b2_14 C Z0 X0 e0 N0 i0 _ hv_f_t
    · have hv_f_f := hv_f.trans (if_neg hc9)
      refine own_step (fun _ => XS.icmpNo X0.here hx rfl (hb hby d2_9) rfl (flt hc9).2.2.1) ?_
      show own_Ends p e below s _ _ _ T0 (mkF m 12 #[.val (.int i0)] [])
      refine own_step (fun _ => XS.iconst X0.here hx rfl (hb hby d2_12)) ?_
      show own_Ends p e below s _ _ _ T0 (mkF m 13 #[.val (.int i0)] [(.int (1 : Int32))])
      exact own_retN X0 (t := .boolean) hx hret hlk (hb hby d2_13) (by decide) (by decide) (by simp) ⟨congrArg (fun z => some (Value.int z)) hv_f_f.symm, N0, e0⟩
theorem ef_rm2 (m : MethodId) (i0 : Int32) : entryFrame m #[(.int i0)] 1 = mkF m 0 #[.val (.int i0)] [] := by first | (simp [entryFrame, mkF, argsToLocals, Value.category]; done) | rfl
set_option maxRecDepth 65536 in
set_option maxHeartbeats 40000000 in
theorem rm2 (l : Launch) (Z : State) (a0 : Array Value) (hw : ∀ d ∈ tables_1, d.before a0 Z = true) (ws : List Jvm.Cond) (i0 : Int32) (h0 : Heap) (n0 : Nat) (Z0 : n0 ≤ h0.size) :
    MetFree l (⟨"com/example/canonsign/canonsign/http/HeaderIsTokenCharPinLaw", "expected", "(C)Z"⟩ : MethodName) (head1 (Jvm.Cond.code (⟨"com/example/canonsign/canonsign/http/HeaderIsTokenCharPinLaw", "expected", "(C)Z"⟩ : MethodName) method_2_code 1 (some .boolean) :: ws) ({ frames := 0, cells := 0, slots := 0, locals := 0 } : Room)) (fun a U => a = #[(.int i0)] ∧ Z.Warmed39 U.vm ∧ U.heap = h0) (fun _ _ _ _ _ => True) (fun _ U o U' => ∃ v L, o = .returned v ∧ (own_Q n0 h0 (some (.int (f2_0 i0)))) v U'.heap L ∧ FrameEnd U o U' L ({ frames := 0, cells := 0, slots := 0, locals := 0 } : Room).cells ({ frames := 0, cells := 0, slots := 0, locals := 0 } : Room).slots) := by
  refine MetFree.of_bodySF (plainFor_of_name pn_1) hisR ?_
  intro p e s m args below meth c s₁ Bd hml0 hP hK
  obtain ⟨rfl, hZ, hh⟩ := hP
  have X0 : Stand p l e ({ frames := 0, cells := 0, slots := 0, locals := 0 } : Room) s m #[(.int i0)] below meth c s₁ [] 0 0 := Stand.of_body Bd
  have e0 : s₁.heap = h0 := by rw [← hh, Bd.state]; rfl
  have C : own_C "com/example/canonsign/canonsign/http/HeaderIsTokenCharPinLaw" method_2_code 1 (some .boolean) "expected" p s m meth c Z a0 := ⟨Bd.exec, hZ, hw, Bd.bytes, hml0, findClass_of_methodNamed Bd.named, Bd.returns, Bd.notSynchronized, (name_of_methodNamed Bd.named Bd.method).1⟩
  have r := b2_0 C Z0 X0 e0 (Fr.nil n0) i0 _ rfl
  rw [ef_rm2 m i0]
  exact r
def f0_0 (i0 : Int32) (w : Addr) (cl : Cell) : Int32 := (if (f1_0 (i0.toUInt32.toUInt16.toUInt32.toInt32) w cl) = (f2_0 (i0.toUInt32.toUInt16.toUInt32.toInt32)) then (1 : Int32) else (0 : Int32))
set_option maxRecDepth 65536 in
set_option maxHeartbeats 40000000 in
theorem b0_0 {p : Program} {l : Launch} {e : Env} {s : State} {m : MethodId} {args : Array Value} {below : List Frame} {meth : Method} {c : Code} {Z : State} {a0 : Array Value} {h0 : Heap} {n0 : Nat} (C : own_C "com/example/canonsign/canonsign/http/HeaderIsTokenCharPinLaw" code maxLocals ret x.name p s m meth c Z a0) (Z0 : n0 ≤ h0.size) {T0 : State} {locs : List Loc} (X0 : Stand p l e room_1 s m args below meth c T0 locs 0 0) (e0 : T0.heap = h0) (N0 : Fr n0 locs) (i0 : Int32) (w : Addr) (cl : Cell) (Sw : Sta Z h0 "com/example/canonsign/canonsign/http/Header" "TOKEN_CHARS" "[Z" (.ref w)) (Aw : Arr Z h0 w cl .boolean) (Sz : cl.slots.size = (128 : Int32).toNatClampNeg) (El : ∀ k, k < 128 → cl.slots[k]? = some (.int (own_tok k))) (W : Int32) (hv : W = f0_0 i0 w cl) :
    own_Ends p e below s room_1.cells room_1.slots (own_Q n0 h0 (some (.int W))) T0 (mkF m 0 #[.val (.int i0), .unset] []) := by
  obtain ⟨hx, hZ, hw, hby, hml, hown, hret, hlk, hnm⟩ := C
  have C : own_C "com/example/canonsign/canonsign/http/HeaderIsTokenCharPinLaw" code maxLocals ret x.name p s m meth c Z a0 := ⟨hx, hZ, hw, hby, hml, hown, hret, hlk, hnm⟩
  unfold f0_0 at hv
  refine own_step (fun _ => XS.iloadN X0.here hx rfl (hb hby at_0) rfl) ?_
  show own_Ends p e below s _ _ _ T0 (mkF m 1 #[.val (.int i0), .unset] [(.int i0)])
  refine own_step (fun _ => XS.i2c X0.here hx rfl (hb hby at_1) rfl) ?_
  show own_Ends p e below s _ _ _ T0 (mkF m 2 #[.val (.int i0), .unset] [(.int (i0.toUInt32.toUInt16.toUInt32.toInt32))])
  refine own_step (fun _ => XS.istoreN X0.here hx rfl (hb hby at_2) rfl (l' := #[.val (.int i0), .val (.int (i0.toUInt32.toUInt16.toUInt32.toInt32))]) rfl) ?_
  show own_Ends p e below s _ _ _ T0 (mkF m 3 #[.val (.int i0), .val (.int (i0.toUInt32.toUInt16.toUInt32.toInt32))] [])
  refine own_step (fun _ => XS.iloadN X0.here hx rfl (hb hby at_3) rfl) ?_
  show own_Ends p e below s _ _ _ T0 (mkF m 4 #[.val (.int i0), .val (.int (i0.toUInt32.toUInt16.toUInt32.toInt32))] [(.int (i0.toUInt32.toUInt16.toUInt32.toInt32))])
  obtain ⟨_, _, ⟨T3, L3, k3, n3⟩, -, X3, ⟨Lc3, hQ3, l3, y3, z3⟩, st3⟩ := Jvm.LawKit.callS X0 hx (y := (⟨"com/example/canonsign/canonsign/http/Header", "isTokenChar", "(C)Z"⟩ : MethodName)) hown (mvT hZ (hw _ (List.mem_of_getElem? (i := 0) rfl))) (mvT hZ (hw _ (List.mem_of_getElem? (i := 1) rfl))) (mvT hZ (hw _ (List.mem_of_getElem? (i := 2) rfl))) (mvT hZ (hw _ (List.mem_of_getElem? (i := 3) rfl))) (by decide) (backOf (W := 0) (rm1 l Z a0 hw [] (i0.toUInt32.toUInt16.toUInt32.toInt32) w cl h0 n0 Z0 Sw Aw Sz El (own_chr _)) hZ (hw _ (List.mem_of_getElem? (i := 3) rfl)) (hw _ (List.mem_of_getElem? (i := 2) rfl)) (by decide) (by decide)) (g := (mkF m 4 #[.val (.int i0), .val (.int (i0.toUInt32.toUInt16.toUInt32.toInt32))] [(.int (i0.toUInt32.toUInt16.toUInt32.toInt32))])) rfl (by rw [hml]; rfl) (argsL := [(.int (i0.toUInt32.toUInt16.toUInt32.toInt32))]) (rest := []) (lenOf pd_0 rfl) rfl (by show 2 * 0 + _ ≤ _; exact Nat.le_of_eq rfl) (hb hby at_4) (fun _ _ => ⟨rfl, e0, (by decide : 0 + 0 ≤ _), (by decide : 0 + 0 ≤ _)⟩)
  dsimp only [Pt.U, Pt.locs, Pt.cells, Pt.slots] at X3 l3 y3 z3 st3 hQ3
  subst l3 y3 z3
  obtain ⟨rfl, N3q, hh3⟩ := hQ3
  have N3 := Fr.app N0 N3q
  refine own_step st3 ?_
  show own_Ends p e below s _ _ _ T3 (mkF m 7 #[.val (.int i0), .val (.int (i0.toUInt32.toUInt16.toUInt32.toInt32))] [(.int (f1_0 (i0.toUInt32.toUInt16.toUInt32.toInt32) w cl))])
  refine own_step (fun _ => XS.iloadN X3.here hx rfl (hb hby at_7) rfl) ?_
  show own_Ends p e below s _ _ _ T3 (mkF m 8 #[.val (.int i0), .val (.int (i0.toUInt32.toUInt16.toUInt32.toInt32))] [(.int (i0.toUInt32.toUInt16.toUInt32.toInt32)), (.int (f1_0 (i0.toUInt32.toUInt16.toUInt32.toInt32) w cl))])
  obtain ⟨_, _, ⟨T4, L4, k4, n4⟩, -, X4, ⟨Lc4, hQ4, l4, y4, z4⟩, st4⟩ := Jvm.LawKit.callS X3 hx (y := (⟨"com/example/canonsign/canonsign/http/HeaderIsTokenCharPinLaw", "expected", "(C)Z"⟩ : MethodName)) hown (mvT hZ (hw _ (List.mem_of_getElem? (i := 6) rfl))) (mvT hZ (hw _ (List.mem_of_getElem? (i := 7) rfl))) (mvT hZ (hw _ (List.mem_of_getElem? (i := 8) rfl))) (mvT hZ (hw _ (List.mem_of_getElem? (i := 9) rfl))) (by decide) (backOf (W := 1) (rm2 l Z a0 hw [] (i0.toUInt32.toUInt16.toUInt32.toInt32) h0 n0 Z0) hZ (hw _ (List.mem_of_getElem? (i := 9) rfl)) (hw _ (List.mem_of_getElem? (i := 8) rfl)) (by decide) (by decide)) (g := (mkF m 8 #[.val (.int i0), .val (.int (i0.toUInt32.toUInt16.toUInt32.toInt32))] [(.int (i0.toUInt32.toUInt16.toUInt32.toInt32)), (.int (f1_0 (i0.toUInt32.toUInt16.toUInt32.toInt32) w cl))])) rfl (by rw [hml]; rfl) (argsL := [(.int (i0.toUInt32.toUInt16.toUInt32.toInt32))]) (rest := [(.int (f1_0 (i0.toUInt32.toUInt16.toUInt32.toInt32) w cl))]) (lenOf pd_0 rfl) rfl (by show 2 * 0 + _ ≤ _; exact Nat.le_of_eq rfl) (hb hby at_8) (fun _ _ => ⟨rfl, hh3, (by decide : 0 + 0 ≤ _), (by decide : 0 + 0 ≤ _)⟩)
  dsimp only [Pt.U, Pt.locs, Pt.cells, Pt.slots] at X4 l4 y4 z4 st4 hQ4
  subst l4 y4 z4
  obtain ⟨rfl, N4q, hh4⟩ := hQ4
  have N4 := Fr.app N3 N4q
  refine own_step st4 ?_
  show own_Ends p e below s _ _ _ T4 (mkF m 11 #[.val (.int i0), .val (.int (i0.toUInt32.toUInt16.toUInt32.toInt32))] [(.int (f2_0 (i0.toUInt32.toUInt16.toUInt32.toInt32))), (.int (f1_0 (i0.toUInt32.toUInt16.toUInt32.toInt32) w cl))])
  by_cases hc11 : (f1_0 (i0.toUInt32.toUInt16.toUInt32.toInt32) w cl) = (f2_0 (i0.toUInt32.toUInt16.toUInt32.toInt32))
  · have hv_t := hv.trans (if_pos hc11)
    refine own_step (fun _ => XS.icmpNo X4.here hx rfl (hb hby at_11) rfl (teq hc11).2) ?_
    show own_Ends p e below s _ _ _ T4 (mkF m 14 #[.val (.int i0), .val (.int (i0.toUInt32.toUInt16.toUInt32.toInt32))] [])
    refine own_step (fun _ => XS.iconst X4.here hx rfl (hb hby at_14)) ?_
    show own_Ends p e below s _ _ _ T4 (mkF m 15 #[.val (.int i0), .val (.int (i0.toUInt32.toUInt16.toUInt32.toInt32))] [(.int (1 : Int32))])
    refine own_step (fun _ => XS.goto X4.here hx rfl (pc0 := 15) (pc' := 19) rfl (hb hby at_15) (by decide) (by decide)) ?_
    show own_Ends p e below s _ _ _ T4 (mkF m 19 #[.val (.int i0), .val (.int (i0.toUInt32.toUInt16.toUInt32.toInt32))] [(.int (1 : Int32))])
    exact own_retN X4 (t := .boolean) hx hret hlk (hb hby at_19) (by decide) (by decide) (by simp) ⟨congrArg (fun z => some (Value.int z)) hv_t.symm, N4, hh4⟩
  · have hv_f := hv.trans (if_neg hc11)
    refine own_step (fun _ => XS.icmpYes X4.here hx rfl (pc0 := 11) (pc' := 18) rfl (hb hby at_11) rfl (feq hc11).2 (by decide) (by decide)) ?_
    show own_Ends p e below s _ _ _ T4 (mkF m 18 #[.val (.int i0), .val (.int (i0.toUInt32.toUInt16.toUInt32.toInt32))] [])
    refine own_step (fun _ => XS.iconst X4.here hx rfl (hb hby at_18)) ?_
    show own_Ends p e below s _ _ _ T4 (mkF m 19 #[.val (.int i0), .val (.int (i0.toUInt32.toUInt16.toUInt32.toInt32))] [(.int (0 : Int32))])
    exact own_retN X4 (t := .boolean) hx hret hlk (hb hby at_19) (by decide) (by decide) (by simp) ⟨congrArg (fun z => some (Value.int z)) hv_f.symm, N4, hh4⟩
theorem ef_rm0 (m : MethodId) (i0 : Int32) : entryFrame m #[(.int i0)] maxLocals = mkF m 0 #[.val (.int i0), .unset] [] := by first | (simp [entryFrame, mkF, argsToLocals, Value.category, maxLocals]; done) | rfl
set_option maxRecDepth 65536 in
set_option maxHeartbeats 40000000 in
theorem rm0 (l : Launch) (Z : State) (a0 : Array Value) (hw : ∀ d ∈ tables_1, d.before a0 Z = true) (ws : List Jvm.Cond) (i0 : Int32) (w : Addr) (cl : Cell) (h0 : Heap) (n0 : Nat) (Z0 : n0 ≤ h0.size) (Sw : Sta Z h0 "com/example/canonsign/canonsign/http/Header" "TOKEN_CHARS" "[Z" (.ref w)) (Aw : Arr Z h0 w cl .boolean) (Sz : cl.slots.size = (128 : Int32).toNatClampNeg) (El : ∀ k, k < 128 → cl.slots[k]? = some (.int (own_tok k))) :
    MetFree l x (head1 (Jvm.Cond.code x code maxLocals ret :: ws) room_1) (fun a U => a = #[(.int i0)] ∧ Z.Warmed39 U.vm ∧ U.heap = h0) (fun _ _ _ _ _ => True) (fun _ U o U' => ∃ v L, o = .returned v ∧ (own_Q n0 h0 (some (.int (f0_0 i0 w cl)))) v U'.heap L ∧ FrameEnd U o U' L room_1.cells room_1.slots) := by
  refine MetFree.of_bodySF (plainFor_of_name pn_1) hisR ?_
  intro p e s m args below meth c s₁ Bd hml0 hP hK
  obtain ⟨rfl, hZ, hh⟩ := hP
  have X0 : Stand p l e room_1 s m #[(.int i0)] below meth c s₁ [] 0 0 := Stand.of_body Bd
  have e0 : s₁.heap = h0 := by rw [← hh, Bd.state]; rfl
  have C : own_C "com/example/canonsign/canonsign/http/HeaderIsTokenCharPinLaw" code maxLocals ret x.name p s m meth c Z a0 := ⟨Bd.exec, hZ, hw, Bd.bytes, hml0, findClass_of_methodNamed Bd.named, Bd.returns, Bd.notSynchronized, (name_of_methodNamed Bd.named Bd.method).1⟩
  have r := b0_0 C Z0 X0 e0 (Fr.nil n0) i0 w cl Sw Aw Sz El _ rfl
  rw [ef_rm0 m i0]
  exact r
set_option maxRecDepth 100000 in
theorem own_low : ∀ k : Fin 128, (if own_tok k.val = 0 then (0 : Int32) else 1) = f2_0 (Int32.ofNat k.val) := by decide +kernel
theorem own_high (c : Int32) (h : ¬ c < (128 : Int32)) : f2_0 c = 0 := by
  rw [Int32.lt_iff_toInt_lt, show (128 : Int32).toInt = 128 from rfl] at h
  have q : ∀ k : Int32, (c = k ↔ c.toInt = k.toInt) := fun k => Int32.toInt_inj.symm
  have lt : ∀ k : Int32, k.toInt < 128 → ¬ c < k := fun k hk => by rw [Int32.lt_iff_toInt_lt]; omega
  have gt : ∀ k : Int32, k.toInt < 128 → k < c := fun k hk => by rw [Int32.lt_iff_toInt_lt]; omega
  have ne : ∀ k : Int32, k.toInt < 128 → ¬ c = k := fun k hk r => by rw [q] at r; omega
  unfold f2_0 f2_14 f2_28 f2_42
  rw [if_neg (lt 97 (by decide)), if_pos (gt 122 (by decide)), if_neg (lt 65 (by decide)), if_pos (gt 90 (by decide)), if_neg (lt 48 (by decide)), if_pos (gt 57 (by decide))]
  rw [if_neg (ne 33 (by decide)), if_neg (ne 35 (by decide)), if_neg (ne 36 (by decide)), if_neg (ne 37 (by decide)), if_neg (ne 38 (by decide)), if_neg (ne 39 (by decide)), if_neg (ne 42 (by decide)), if_neg (ne 43 (by decide)), if_neg (ne 45 (by decide)), if_neg (ne 46 (by decide)), if_neg (ne 94 (by decide)), if_neg (ne 95 (by decide)), if_neg (ne 96 (by decide)), if_neg (ne 124 (by decide)), if_neg (ne 126 (by decide))]
theorem own_law (i0 : Int32) (w : Addr) (cl : Cell) : f0_0 i0 w cl = 1 := by
  unfold f0_0
  have h0 := own_chr i0
  generalize (i0.toUInt32.toUInt16.toUInt32.toInt32) = c at *
  refine if_pos ?_
  unfold f1_0
  by_cases h : c < (128 : Int32)
  · rw [if_pos h]
    have hk := own_lt128 h0 h
    have hl := own_low ⟨c.toNatClampNeg, hk⟩
    have e : Int32.ofNat c.toNatClampNeg = c := by
      rw [Int32.lt_iff_toInt_lt] at h0 h
      have e0 : (0 : Int32).toInt = 0 := rfl
      have e1 : (128 : Int32).toInt = 128 := rfl
      apply Int32.toInt_inj.mp
      rw [Int32.toInt_ofNat_of_lt (by omega)]
      simp only [Int32.toNatClampNeg]; omega
    simp only [e] at hl
    exact hl
  · rw [if_neg h, own_high c h]

set_option maxRecDepth 65536 in
set_option maxHeartbeats 40000000 in
theorem comes_1 {Post : Tables → Env → Array Value → State → Outcome → State → Prop} (hpost : ∀ tb e args s v u, (limb_1_1.after args s (.returned v) u = true ∧ limb_1_2.after args s (.returned v) u = true ∧ True) → FrameEnd s (.returned v) u (Jvm.fieldLocs frame_1_writes args s ++ Jvm.arrayLocs frame_1_arrays args s ++ Jvm.staticLocs frame_1_statics s) 0 0 → Post tb e args s (.returned v) u) :
    ArmFor flags0 classFile x code maxLocals ret World_1 tables_1 room_1 Calls_1 rest_1 Pre_1 Post := by
  intro l hfl _ _ p e ha hc hk s m args below hf hA hF happ hP
  obtain ⟨hcalls, hrest, hpre⟩ := hP
  obtain ⟨-, -, -, hnamed, -, -, -, hat⟩ := (Spec.applies_iff hf).mp happ
  obtain ⟨hg, hn⟩ := and_e (Cond.before_iff.mp (show (Jvm.Cond.and given_1 narrow_1).before args s = true from hpre))
  obtain ⟨g1, g2⟩ := and_e hg
  obtain ⟨w0, rfl⟩ : ∃ w0 : Value, args = #[w0] := by
    have hs : args.size = 1 := by simpa [Cond.value, given_1] using g1
    obtain ⟨L⟩ := args
    match L, hs with
    | [w0], _ => exact ⟨w0, rfl⟩
  have hw := fun d (hd : d ∈ tables_1) => atoms_spec (ws := Jvm.Cond.code x code maxLocals ret :: tables_1) hat d (List.mem_cons_of_mem _ hd)
  have hfit : Fit s := fun {y c} hc i hi => by
    obtain ⟨ha, rfl⟩ := Array.getElem?_eq_some_iff.mp hc
    have q := List.all_eq_true.mp ((Array.all_eq_true_iff_forall_mem.mp hF) _ (Array.getElem_mem ha)) i (List.mem_range.mpr hi)
    simpa [Array.getElem?_eq_getElem hi] using q
  obtain ⟨i0, ei0⟩ := is_v g2
  obtain rfl : w0 = (.int i0) := Option.some.inj ei0
  obtain ⟨w, cl, Sw, Aw, Sz, El⟩ := own_start hw hn
  obtain ⟨n, o, h1, h2, h3, _, L, rfl, ⟨rfl, N, -⟩, hq⟩ := rm0 l s _ hw tables_1 i0 w cl s.heap s.heap.size (Nat.le_refl _) Sw Aw Sz El p e ha hc hk s m _ below hf ((Spec.applies_iff_loose hf).mp happ).1 ⟨rfl, State.Warmed39.refl s, rfl⟩ trivial
  refine ⟨n, _, h1, h2, h3, hpost _ _ _ _ _ _ ⟨Cond.after_iff.mpr rfl, Cond.after_iff.mpr (eq_i res_at (Term.int_eval (1)) (congrArg Value.int (own_law i0 w cl))), trivial⟩ ⟨hq.1, hq.2.1, (hq.2.2.sift fun y hy => Or.inr (N y hy)).mono (by decide) (by decide)⟩⟩
theorem main_1_1 : Claimed_1_1 := comes_1 fun _ _ _ _ _ _ h hF => ⟨h.1, hF⟩
theorem main_1_2 : Claimed_1_2 := comes_1 fun _ _ _ _ _ _ h hF => ⟨h.2.1, hF⟩
end Jvm.Pilot.@@N@@
namespace Jvm.Pilot.@@N@@
open Jvm Jvm.ClassFile Sem Op Lib Jvm.Free Jvm.Stand Jvm.Pilot.@@N@@.Jvm.D
/-! MADE BY PROGRAM (witnessworld.py) out of the Statement's table words and the real class files: 11 classes; the members and pool entries that the words name. The judged class is class 1, her method 2. -/
namespace start1
open Jvm.ClassFile
def u (s : String) : CpInfo := .utf8 (stringToUtf16 s)
/-- a pool by its gaps: so many unusable entries, then the entry; so many at the end -/
def gap : Nat → List CpInfo → List CpInfo
  | 0, r => r
  | n + 1, r => .unusable :: gap n r
def poolList (es : List (Nat × CpInfo)) (last : Nat) : List CpInfo := es.foldr (fun e r => gap e.1 (e.2 :: r)) (gap last [])
def pool (es : List (Nat × CpInfo)) (last : Nat) : Array CpInfo := ⟨poolList es last⟩
def fileOf (pool : Array CpInfo) (this : Nat) (attrs : Array Attribute := #[]) (ms : Array MethodInfo := #[]) (fl : Nat := 33) (sup : Nat := 0) (ifs : Array Nat := #[]) (fds : Array FieldInfo := #[]) : ClassFile where
  minorVersion := 0
  majorVersion := 65
  constantPool := pool
  accessFlags := fl
  thisClass := this
  superClass := sup
  interfaces := ifs
  fields := fds
  methods := ms
  attributes := attrs
def plain (name : String) (sup : Option ClassId) : Class where
  name := name
  kind := .ordinary
  loader := none
  accessFlags := 33
  super := sup
  interfaces := #[]
  cf := none
  fields := #[]
  methods := #[]
  instanceTypes := #[]
  staticTypes := #[]
  resolved := #[]
  callSites := []
  init := .initialized
  statics := none
  mirror := none

def pool0 : Array CpInfo := pool [(5, u "<init>"), (0, u "()V"), (1, .class_ 10), (1, u "java/lang/Object")] 113

def k0m0 : Method := { name := "<init>", desc := "()V", sig := { parameters := [], returnType := none }, accessFlags := 1, code := none }
/-- java/lang/Object -/
def k0 : Class := { plain "java/lang/Object" none with
  accessFlags := 33
  interfaces := #[]
  cf := some (fileOf pool0 8 #[] #[{ accessFlags := 1, nameIndex := 5, descriptorIndex := 6, attributes := #[] }] 33 0 #[] #[])
  fields := #[]
  methods := #[k0m0]
  instanceTypes := #[]
  staticTypes := #[]
  resolved := Array.replicate 124 none
  statics := none }

def pool1 : Array CpInfo := pool [(2, .class_ 4), (1, u "java/lang/Object"), (0, u "<init>"), (0, u "()V"), (0, .methodref 8 9), (0, .class_ 10), (0, .nameAndType 11 12), (0, u "com/example/canonsign/canonsign/http/Header"), (0, u "isTokenChar"), (0, u "(C)Z"), (0, .methodref 14 15), (0, .class_ 16), (0, .nameAndType 17 12), (0, u "com/example/canonsign/canonsign/http/HeaderIsTokenCharPinLaw"), (0, u "expected"), (3, u "law"), (0, u "(I)Z")] 2

def k1m0 : Method := { name := "<init>", desc := "()V", sig := { parameters := [], returnType := none }, accessFlags := 1, code := none }
def k1c1 : Code := { maxStack := 2, maxLocals := 1, code := method_2_code, exceptionTable := #[], attributes := #[] }
def k1m1 : Method := { name := "expected", desc := "(C)Z", sig := { parameters := [.char], returnType := some .boolean }, accessFlags := 10, code := some k1c1 }
def k1c2 : Code := { maxStack := 2, maxLocals := 2, code := code, exceptionTable := #[], attributes := #[] }
def k1m2 : Method := { name := "law", desc := "(I)Z", sig := { parameters := [.int], returnType := some .boolean }, accessFlags := 9, code := some k1c2 }
/-- com/example/canonsign/canonsign/http/HeaderIsTokenCharPinLaw -/
def k1 : Class := { plain "com/example/canonsign/canonsign/http/HeaderIsTokenCharPinLaw" (some 0) with
  accessFlags := 49
  interfaces := #[]
  cf := some (fileOf pool1 14 #[] #[{ accessFlags := 1, nameIndex := 5, descriptorIndex := 6, attributes := #[] }, { accessFlags := 10, nameIndex := 17, descriptorIndex := 12, attributes := #[] }, { accessFlags := 9, nameIndex := 21, descriptorIndex := 22, attributes := #[] }] 49 2 #[] #[])
  fields := #[]
  methods := #[k1m0, k1m1, k1m2]
  instanceTypes := #[]
  staticTypes := #[]
  resolved := Array.replicate 25 none
  statics := none }

def pool2 : Array CpInfo := pool [(18, .class_ 20), (1, u "com/example/canonsign/canonsign/http/Header"), (3, .class_ 26), (1, u "java/lang/Object"), (42, u "m_sName"), (0, u "Ljava/lang/String;"), (12, u "m_sLowerCaseName"), (6, u "m_aLines"), (0, u "Ljava/util/List;"), (11, u "m_sValue"), (2, u "m_bAscii"), (0, u "Z"), (18, u "(C)Z"), (13, u "isTokenChar"), (0, .fieldref 18 142), (0, .nameAndType 143 144), (0, u "TOKEN_CHARS"), (0, u "[Z"), (2, u "TOKEN_PUNCTUATION")] 40

def k2c0 : Code := { maxStack := 2, maxLocals := 1, code := prog_25_method_15_code, exceptionTable := #[], attributes := #[] }
def k2m0 : Method := { name := "isTokenChar", desc := "(C)Z", sig := { parameters := [.char], returnType := some .boolean }, accessFlags := 9, code := some k2c0 }
/-- com/example/canonsign/canonsign/http/Header -/
def k2 : Class := { plain "com/example/canonsign/canonsign/http/Header" (some 0) with
  accessFlags := 49
  interfaces := #[]
  cf := some (fileOf pool2 18 #[] #[{ accessFlags := 9, nameIndex := 140, descriptorIndex := 126, attributes := #[] }] 49 24 #[] #[{ accessFlags := 26, nameIndex := 147, descriptorIndex := 70, attributes := #[] }, { accessFlags := 26, nameIndex := 143, descriptorIndex := 144, attributes := #[] }, { accessFlags := 18, nameIndex := 69, descriptorIndex := 70, attributes := #[] }, { accessFlags := 18, nameIndex := 83, descriptorIndex := 70, attributes := #[] }, { accessFlags := 18, nameIndex := 90, descriptorIndex := 91, attributes := #[] }, { accessFlags := 18, nameIndex := 103, descriptorIndex := 70, attributes := #[] }, { accessFlags := 18, nameIndex := 106, descriptorIndex := 107, attributes := #[] }])
  fields := #[{ name := "TOKEN_PUNCTUATION", type := (.object "java/lang/String"), accessFlags := 26, slot := 0, constantValue := 0 }, { name := "TOKEN_CHARS", type := (.array .boolean), accessFlags := 26, slot := 1, constantValue := 0 }, { name := "m_sName", type := (.object "java/lang/String"), accessFlags := 18, slot := 0, constantValue := 0 }, { name := "m_sLowerCaseName", type := (.object "java/lang/String"), accessFlags := 18, slot := 1, constantValue := 0 }, { name := "m_aLines", type := (.object "java/util/List"), accessFlags := 18, slot := 2, constantValue := 0 }, { name := "m_sValue", type := (.object "java/lang/String"), accessFlags := 18, slot := 3, constantValue := 0 }, { name := "m_bAscii", type := .boolean, accessFlags := 18, slot := 4, constantValue := 0 }]
  methods := #[k2m0]
  instanceTypes := #[(.object "java/lang/String"), (.object "java/lang/String"), (.object "java/util/List"), (.object "java/lang/String"), .boolean]
  staticTypes := #[(.object "java/lang/String"), (.array .boolean)]
  resolved := Array.replicate 188 none
  statics := some 0 }

def pool3 : Array CpInfo := pool [(1, u "java/lang/Cloneable"), (0, .class_ 1), (0, u "java/lang/Object"), (0, .class_ 3)] 3

/-- java/lang/Cloneable -/
def k3 : Class := { plain "java/lang/Cloneable" (some 0) with
  accessFlags := 1537
  interfaces := #[]
  cf := some (fileOf pool3 2 #[] #[] 1537 4 #[] #[])
  fields := #[]
  methods := #[]
  instanceTypes := #[]
  staticTypes := #[]
  resolved := Array.replicate 8 none
  statics := none }

def pool4 : Array CpInfo := pool [(1, u "java/io/Serializable"), (0, .class_ 1), (0, u "java/lang/Object"), (0, .class_ 3)] 3

/-- java/io/Serializable -/
def k4 : Class := { plain "java/io/Serializable" (some 0) with
  accessFlags := 1537
  interfaces := #[]
  cf := some (fileOf pool4 2 #[] #[] 1537 4 #[] #[])
  fields := #[]
  methods := #[]
  instanceTypes := #[]
  staticTypes := #[]
  resolved := Array.replicate 8 none
  statics := none }

/-- the primitive boolean -/
def k5 : Class := { plain "boolean" none with kind := .primitive 'Z', accessFlags := 0x411 }
/-- [Z -/
def k6 : Class := { plain "[Z" (some 0) with kind := .array 5 .boolean, interfaces := #[3, 4], accessFlags := 1041 }

/-- the primitive byte -/
def k7 : Class := { plain "byte" none with kind := .primitive 'B', accessFlags := 0x411 }
/-- [B -/
def k8 : Class := { plain "[B" (some 0) with kind := .array 7 .byte, interfaces := #[3, 4], accessFlags := 1041 }

/-- the primitive int -/
def k9 : Class := { plain "int" none with kind := .primitive 'I', accessFlags := 0x411 }
/-- [I -/
def k10 : Class := { plain "[I" (some 0) with kind := .array 9 .int, interfaces := #[3, 4], accessFlags := 1041 }

def heap : Heap := #[{ cls := 2, slots := #[.null, .ref 1], vm := .statics 2 },
  { cls := 6, slots := #[.int 0, .int 0, .int 0, .int 0, .int 0, .int 0, .int 0, .int 0, .int 0, .int 0, .int 0, .int 0, .int 0, .int 0, .int 0, .int 0, .int 0, .int 0, .int 0, .int 0, .int 0, .int 0, .int 0, .int 0, .int 0, .int 0, .int 0, .int 0, .int 0, .int 0, .int 0, .int 0, .int 0, .int 1, .int 0, .int 1, .int 1, .int 1, .int 1, .int 1, .int 0, .int 0, .int 1, .int 1, .int 0, .int 1, .int 1, .int 0, .int 1, .int 1, .int 1, .int 1, .int 1, .int 1, .int 1, .int 1, .int 1, .int 1, .int 0, .int 0, .int 0, .int 0, .int 0, .int 0, .int 0, .int 1, .int 1, .int 1, .int 1, .int 1, .int 1, .int 1, .int 1, .int 1, .int 1, .int 1, .int 1, .int 1, .int 1, .int 1, .int 1, .int 1, .int 1, .int 1, .int 1, .int 1, .int 1, .int 1, .int 1, .int 1, .int 1, .int 0, .int 0, .int 0, .int 1, .int 1, .int 1, .int 1, .int 1, .int 1, .int 1, .int 1, .int 1, .int 1, .int 1, .int 1, .int 1, .int 1, .int 1, .int 1, .int 1, .int 1, .int 1, .int 1, .int 1, .int 1, .int 1, .int 1, .int 1, .int 1, .int 1, .int 1, .int 1, .int 0, .int 1, .int 0, .int 1, .int 0], vm := .none }]
def classes : Array Class := #[k0, k1, k2, k3, k4, k5, k6, k7, k8, k9, k10]
def interned : List (Array UInt16 × Addr) := []
def slotsUsed : Nat := 130
def theMethod : MethodId := ⟨1, 2⟩
def args0 : Array Value := #[.int 65]
def aboutOver (below : List Frame) : State where
  vm := { classes := classes, interned := interned.toArray }
  heap := heap
  slotsUsed := slotsUsed
  threads := #[{ frames := .invoking theMethod args0 :: below }]
def below0 : List Frame := [.native { method := ⟨0, 0⟩, args := #[] }]
def about1 : State := aboutOver below0
def p0 : Program := .bare "" "" ""
def e0 : Env := launch0.env 0 0 0
theorem w_frames : about1.frames = Frame.invoking theMethod args0 :: below0 := rfl
set_option maxRecDepth 65536 in
theorem w_args : argsFit about1.vm theMethod args0 = true := by decide +kernel
set_option maxRecDepth 65536 in
theorem w_heap : heapFits about1 = true := by decide +kernel
set_option maxRecDepth 65536 in
theorem w_runnable : about1.curStatus? = some .runnable := by decide +kernel
set_option maxRecDepth 65536 in
theorem w_alone : about1.alone = true := by decide +kernel
set_option maxRecDepth 65536 in
theorem w_named : about1.methodNamed? x = some theMethod := by decide +kernel
set_option maxRecDepth 65536 in
theorem w_hears : about1.hears theMethod below0 = true := by decide +kernel
set_option maxRecDepth 65536 in
theorem w_ripe : about1.ripe theMethod args0 below0 = true := by decide +kernel
theorem w_running : about1.status = .running := rfl
set_option maxRecDepth 65536 in
theorem w_room : about1.hasRoom e0.platform room_1 = true :=
  launch0.hasRoom_least _ room_1 (by decide +kernel) (by decide +kernel) (by decide +kernel) (by decide +kernel) (by decide +kernel) (by decide +kernel)
theorem allAtoms_all (ts : List Jvm.Cond) (a : Array Jvm.Value) (st : Jvm.State) : (allAtoms ts).before a st = ts.all (fun c => c.before a st) := by
  induction ts with
  | nil => rfl
  | cons c t ih =>
    show (Jvm.Cond.and c (allAtoms t)).before a st = _
    rw [Jvm.Cond.before_and, ih, List.all_cons]
def words1 : List Jvm.Cond := Jvm.Cond.code x code maxLocals ret :: tables_1
/-- a 'code' word, met by the world's own term for the bytes: nothing is compared byte by byte -/
theorem code_word {y : MethodName} {bytes : ByteArray} {mx : Nat} {rt : Option FieldType} {a : Array Value} {s : State} {m : MethodId} {meth : Method} {c : Code} (h1 : s.methodNamed? y = some m) (h2 : s.vm.method? m = some meth) (h3 : meth.code = some c) (h4 : c.code = bytes)
    (h5 : (c.maxLocals == mx && c.exceptionTable.isEmpty && decide (c.maxStack ≤ mostOperands) && decide (meth.sig.returnType = rt) && !meth.locks && decide (parseMethodDescriptor y.desc = some meth.sig)) = true) : (Jvm.Cond.code y bytes mx rt).before a s = true := by
  simp only [Bool.and_eq_true, beq_iff_eq, Bool.not_eq_true', decide_eq_true_eq] at h5
  obtain ⟨⟨⟨⟨⟨g1, g2⟩, g3⟩, g4⟩, g5⟩, g6⟩ := h5
  simp [Cond.before, Cond.holds, Cond.value, h1, h2, h3, h4, g1, g2, g3, g4, g5, g6]
def isCode : Jvm.Cond → Bool
  | .code _ _ _ _ => true
  | _ => false
theorem all_split {L : List Jvm.Cond} {P : Jvm.Cond → Bool} (h1 : L.all (fun c => isCode c || P c) = true) (h2 : ∀ c ∈ L.filter isCode, P c = true) : L.all P = true := by
  refine List.all_eq_true.mpr fun c hc => ?_
  have h := List.all_eq_true.mp h1 c hc
  rcases Bool.eq_false_or_eq_true (isCode c) with hi | hi
  · exact h2 c (List.mem_filter.mpr ⟨hc, hi⟩)
  · simpa [hi] using h
set_option maxRecDepth 65536 in
theorem w_c0 : (Jvm.Cond.code x code maxLocals ret).before args0 about1 = true := code_word (m := ⟨1, 2⟩) (meth := k1m2) (c := k1c2) (by decide +kernel) rfl rfl rfl (by decide +kernel)
set_option maxRecDepth 65536 in
theorem w_c1 : (Jvm.Cond.code ({ cls := "com/example/canonsign/canonsign/http/Header", name := "isTokenChar", desc := "(C)Z" } : Jvm.MethodName) prog_25_method_15_code (1 : Nat) (Option.some Jvm.ClassFile.FieldType.boolean)).before args0 about1 = true := code_word (m := ⟨2, 0⟩) (meth := k2m0) (c := k2c0) (by decide +kernel) rfl rfl rfl (by decide +kernel)
set_option maxRecDepth 65536 in
theorem w_c2 : (Jvm.Cond.code ({ cls := "com/example/canonsign/canonsign/http/HeaderIsTokenCharPinLaw", name := "expected", desc := "(C)Z" } : Jvm.MethodName) method_2_code (1 : Nat) (Option.some Jvm.ClassFile.FieldType.boolean)).before args0 about1 = true := code_word (m := ⟨1, 1⟩) (meth := k1m1) (c := k1c1) (by decide +kernel) rfl rfl rfl (by decide +kernel)
def codes1 : List Jvm.Cond := [Jvm.Cond.code x code maxLocals ret, Jvm.Cond.code ({ cls := "com/example/canonsign/canonsign/http/Header", name := "isTokenChar", desc := "(C)Z" } : Jvm.MethodName) prog_25_method_15_code (1 : Nat) (Option.some Jvm.ClassFile.FieldType.boolean), Jvm.Cond.code ({ cls := "com/example/canonsign/canonsign/http/HeaderIsTokenCharPinLaw", name := "expected", desc := "(C)Z" } : Jvm.MethodName) method_2_code (1 : Nat) (Option.some Jvm.ClassFile.FieldType.boolean)]
set_option maxRecDepth 65536 in
theorem codes_eq : words1.filter isCode = codes1 := rfl
theorem w_codes : ∀ c ∈ words1.filter isCode, c.before args0 about1 = true := by
  rw [codes_eq]
  intro c hc
  simp only [codes1, List.mem_cons, List.not_mem_nil, or_false] at hc
  rcases hc with rfl | rfl | rfl
  · exact w_c0
  · exact w_c1
  · exact w_c2
set_option maxRecDepth 65536 in
theorem w_t1 : words1.all (fun c => isCode c || c.before args0 about1) = true := by decide +kernel
theorem w_tables : (allAtoms (Jvm.Cond.code x code maxLocals ret :: tables_1)).before args0 about1 = true := by
  rw [allAtoms_all]
  show words1.all (fun c => c.before args0 about1) = true
  refine all_split ?_ w_codes
  rw [w_t1]
set_option maxRecDepth 65536 in
theorem w_case : (Jvm.Cond.and given_1 narrow_1).before args0 about1 = true := by decide +kernel
theorem w_applies : (headSpec (Jvm.Cond.code x code maxLocals ret :: tables_1) room_1).applies x e0.platform about1 = true :=
  (Spec.applies_iff w_frames).mpr ⟨w_running, w_runnable, w_alone, w_named, w_hears, w_ripe, w_room, w_tables⟩
theorem atStart : AtStart classFile x code maxLocals ret World_1 tables_1 room_1 Calls_1 rest_1 Pre_1 launch0 p0 e0 about1 theMethod args0 below0 :=
  ⟨lists_1, trivial, launch0.admits_env _ _ _, launch0.least_env, fairChoices_fair.cas, fairChoices_fair.clock, w_frames, w_args, w_heap, w_applies, trivial, trivial, w_case⟩
end start1
theorem witness_1 : WitnessClaimed_1 := ⟨start1.p0, start1.e0, start1.about1, start1.theMethod, start1.args0, start1.below0, start1.atStart⟩
end Jvm.Pilot.@@N@@
