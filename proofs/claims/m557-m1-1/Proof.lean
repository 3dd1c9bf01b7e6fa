import JvmDerived
import JvmDerived.Pilot.@@N@@Statement
import JvmDerived.Pilot.@@N@@Code
set_option linter.unusedVariables false
set_option linter.unusedSimpArgs false
namespace Jvm.Pilot.@@N@@
open Jvm Jvm.ClassFile Sem Op Lib Jvm.Free Jvm.Stand Jvm.LawKit Jvm.RoadKit Bundle Jvm.Pilot.@@N@@.Jvm.D
section Own
variable {p : Program} {l : Launch} {e : Env} {R : Room} {s : State} {m : MethodId} {args : Array Value} {below : List Frame} {meth : Method} {c : Code} {T : State} {locs : List Loc} {cells slots : Nat}
/-- from S the run comes to an end that E tells -/
def OwnG (p : Program) (e : Env) (below : List Frame) (E : Outcome → State → Prop) (S : State) : Prop :=
  ∃ s₂ o, Steps p.tables e below S s₂ ∧ s₂.status = .running ∧ Ended s₂ below o ∧ E o s₂
/-- it returned, Q holds of the value and the heap, and the frame is k new cells of n slots -/
def OwnE (s : State) (Q : Option Value → Heap → List Loc → Prop) (k n : Nat) (o : Outcome) (U : State) : Prop :=
  ∃ v L, o = .returned v ∧ Q v U.heap L ∧ FrameEnd s o U L k n
theorem own_by {E : Outcome → State → Prop} {S S' : State} (h : ∀ t, Steps p.tables e below S' t → Steps p.tables e below S t) (g : OwnG p e below E S') : OwnG p e below E S := by
  obtain ⟨s2, o, h1, r⟩ := g
  exact ⟨s2, o, h _ h1, r⟩
theorem own_ret (X : Stand p l e R s m args below meth c T locs cells slots) (hx : p.tables.exec = Jvm.exec) {pc : Nat} {Ls : Array Slot} {w : Value} {t : FieldType} {i : Instr} {rest : List Value} (hret : meth.sig.returnType = some t) (hn : narrow t w = w)
    (hi : (i = .ireturn ∧ (t = .int ∨ t = .boolean ∨ t = .byte ∨ t = .char ∨ t = .short) ∧ ∃ z, w = .int z) ∨ (i = .lreturn ∧ t = .long ∧ ∃ z, w = .long z) ∨ (i = .dreturn ∧ t = .double ∧ ∃ z, w = .double z) ∨ (i = .freturn ∧ t = .float ∧ ∃ z, w = .float z) ∨ (i = .areturn ∧ t.isReference = true ∧ w.isRef = true))
    (hd : decode c.code pc = .ok (i, 1)) (hlk : meth.locks = false) {Q : Option Value → Heap → List Loc → Prop} {k n : Nat} (hk : cells ≤ k) (hs : slots ≤ n) (hQ : Q (some w) T.heap locs) : OwnG p e below (OwnE s Q k n) (T.setTop (mkF m pc Ls (w :: rest))) := by
  obtain ⟨fs, hr, hrun, hended, hW, hsame⟩ := X.leave (v := some w) (fun h => by rw [hret] at h; cases h) hlk
  exact ⟨_, _, retOut X hx hret hn hi hd hr, hrun, hended, _, _, rfl, hQ, ⟨_, rfl⟩, hW, hsame.mono hk hs⟩
theorem own_retI (X : Stand p l e R s m args below meth c T locs cells slots) (hx : p.tables.exec = Jvm.exec) {pc : Nat} {Ls : Array Slot} {z : Int32} {t : FieldType} {rest : List Value} (hret : meth.sig.returnType = some t) (ht : t = .int ∨ t = .boolean ∨ t = .byte ∨ t = .char ∨ t = .short) (hn : narrow t (.int z) = .int z)
    (hd : decode c.code pc = .ok (.ireturn, 1)) (hlk : meth.locks = false) {Q : Option Value → Heap → List Loc → Prop} {k n : Nat} (hk : cells ≤ k) (hs : slots ≤ n) (hQ : Q (some (.int z)) T.heap locs) : OwnG p e below (OwnE s Q k n) (T.setTop (mkF m pc Ls (.int z :: rest))) :=
  own_ret X hx hret hn (Or.inl ⟨rfl, ht, _, rfl⟩) hd hlk hk hs hQ
theorem own_retL (X : Stand p l e R s m args below meth c T locs cells slots) (hx : p.tables.exec = Jvm.exec) {pc : Nat} {Ls : Array Slot} {z : Int64} {rest : List Value} (hret : meth.sig.returnType = some .long)
    (hd : decode c.code pc = .ok (.lreturn, 1)) (hlk : meth.locks = false) {Q : Option Value → Heap → List Loc → Prop} {k n : Nat} (hk : cells ≤ k) (hs : slots ≤ n) (hQ : Q (some (.long z)) T.heap locs) : OwnG p e below (OwnE s Q k n) (T.setTop (mkF m pc Ls (.long z :: rest))) :=
  own_ret X hx hret rfl (Or.inr (Or.inl ⟨rfl, rfl, _, rfl⟩)) hd hlk hk hs hQ
theorem own_retD (X : Stand p l e R s m args below meth c T locs cells slots) (hx : p.tables.exec = Jvm.exec) {pc : Nat} {Ls : Array Slot} {z : UInt64} {rest : List Value} (hret : meth.sig.returnType = some .double)
    (hd : decode c.code pc = .ok (.dreturn, 1)) (hlk : meth.locks = false) {Q : Option Value → Heap → List Loc → Prop} {k n : Nat} (hk : cells ≤ k) (hs : slots ≤ n) (hQ : Q (some (.double z)) T.heap locs) : OwnG p e below (OwnE s Q k n) (T.setTop (mkF m pc Ls (.double z :: rest))) :=
  own_ret X hx hret rfl (Or.inr (Or.inr (Or.inl ⟨rfl, rfl, _, rfl⟩))) hd hlk hk hs hQ
theorem own_narR {t : FieldType} (ht : t.isReference = true) {w : Value} (hw : w.isRef = true) : narrow t w = w := by
  cases t <;> cases w <;> first | rfl | (simp [FieldType.isReference] at ht; done) | (simp [Value.isRef] at hw; done)
theorem own_retA (X : Stand p l e R s m args below meth c T locs cells slots) (hx : p.tables.exec = Jvm.exec) {pc : Nat} {Ls : Array Slot} {w : Value} {t : FieldType} {rest : List Value} (hret : meth.sig.returnType = some t) (ht : t.isReference = true) (hw : w.isRef = true)
    (hd : decode c.code pc = .ok (.areturn, 1)) (hlk : meth.locks = false) {Q : Option Value → Heap → List Loc → Prop} {k n : Nat} (hk : cells ≤ k) (hs : slots ≤ n) (hQ : Q (some w) T.heap locs) : OwnG p e below (OwnE s Q k n) (T.setTop (mkF m pc Ls (w :: rest))) :=
  own_ret X hx hret (own_narR ht hw) (Or.inr (Or.inr (Or.inr (Or.inr ⟨rfl, ht, hw⟩)))) hd hlk hk hs hQ
theorem own_ret0 (X : Stand p l e R s m args below meth c T locs cells slots) (hx : p.tables.exec = Jvm.exec) {pc : Nat} {Ls : Array Slot} (hret : meth.sig.returnType = none)
    (hd : decode c.code pc = .ok (.return_, 1)) (hlk : meth.locks = false) {Q : Option Value → Heap → List Loc → Prop} {k n : Nat} (hk : cells ≤ k) (hs : slots ≤ n) (hQ : Q none T.heap locs) : OwnG p e below (OwnE s Q k n) (T.setTop (mkF m pc Ls [])) := by
  obtain ⟨fs, hr, hrun, hended, hW, hsame⟩ := X.leave (v := none) (fun _ => rfl) hlk
  exact ⟨_, _, X.returnOut hx hret hd hr, hrun, hended, _, _, rfl, hQ, ⟨_, rfl⟩, hW, hsame.mono hk hs⟩
/-- the same, where the walk may have interned -/
def OwnEW (s : State) (Q : Option Value → Heap → List Loc → Prop) (k n : Nat) (o : Outcome) (U : State) : Prop :=
  ∃ v L, o = .returned v ∧ Q v U.heap L ∧ ReturnedEndW s o U L k n
theorem own_endW {s U : State} {o : Outcome} {L : List Loc} {k n k' n' : Nat} (h : ReturnedEndW s o U L k n) (hk : k ≤ k') (hn : n ≤ n') : ReturnedEndW s o U L k' n' := ⟨h.1, h.2.1, h.2.2.1, h.2.2.2.mono hk hn⟩
theorem own_retW {vm₁ : Vm} (X : Stand p l e R (s.setVm vm₁) m args below meth c T locs cells slots) {n1 : Nat} (hS : s.Since vm₁ n1) (hn1 : n1 ≤ T.heap.size) (hx : p.tables.exec = Jvm.exec) {pc : Nat} {Ls : Array Slot} {w : Value} {t : FieldType} {i : Instr} {rest : List Value} (hret : meth.sig.returnType = some t) (hn : narrow t w = w)
    (hi : (i = .ireturn ∧ (t = .int ∨ t = .boolean ∨ t = .byte ∨ t = .char ∨ t = .short) ∧ ∃ z, w = .int z) ∨ (i = .lreturn ∧ t = .long ∧ ∃ z, w = .long z) ∨ (i = .dreturn ∧ t = .double ∧ ∃ z, w = .double z) ∨ (i = .freturn ∧ t = .float ∧ ∃ z, w = .float z) ∨ (i = .areturn ∧ t.isReference = true ∧ w.isRef = true))
    (hd : decode c.code pc = .ok (i, 1)) (hlk : meth.locks = false) {Q : Option Value → Heap → List Loc → Prop} {k n : Nat} (hk : cells ≤ k) (hs : slots ≤ n) (hQ : Q (some w) T.heap locs) : OwnG p e below (OwnEW s Q k n) (T.setTop (mkF m pc Ls (w :: rest))) := by
  obtain ⟨fs, hr, hrun, hended, hE⟩ := X.leaveW hS hn1 (v := some w) (fun h => by rw [hret] at h; cases h) hlk
  exact ⟨_, _, retOut X hx hret hn hi hd hr, hrun, hended, _, _, rfl, hQ, own_endW hE hk hs⟩
theorem own_retWI {vm₁ : Vm} (X : Stand p l e R (s.setVm vm₁) m args below meth c T locs cells slots) {n1 : Nat} (hS : s.Since vm₁ n1) (hn1 : n1 ≤ T.heap.size) (hx : p.tables.exec = Jvm.exec) {pc : Nat} {Ls : Array Slot} {z : Int32} {t : FieldType} {rest : List Value} (hret : meth.sig.returnType = some t) (ht : t = .int ∨ t = .boolean ∨ t = .byte ∨ t = .char ∨ t = .short) (hn : narrow t (.int z) = .int z)
    (hd : decode c.code pc = .ok (.ireturn, 1)) (hlk : meth.locks = false) {Q : Option Value → Heap → List Loc → Prop} {k n : Nat} (hk : cells ≤ k) (hs : slots ≤ n) (hQ : Q (some (.int z)) T.heap locs) : OwnG p e below (OwnEW s Q k n) (T.setTop (mkF m pc Ls (.int z :: rest))) :=
  own_retW X hS hn1 hx hret hn (Or.inl ⟨rfl, ht, _, rfl⟩) hd hlk hk hs hQ
theorem own_retWA {vm₁ : Vm} (X : Stand p l e R (s.setVm vm₁) m args below meth c T locs cells slots) {n1 : Nat} (hS : s.Since vm₁ n1) (hn1 : n1 ≤ T.heap.size) (hx : p.tables.exec = Jvm.exec) {pc : Nat} {Ls : Array Slot} {w : Value} {t : FieldType} {rest : List Value} (hret : meth.sig.returnType = some t) (ht : t.isReference = true) (hw : w.isRef = true)
    (hd : decode c.code pc = .ok (.areturn, 1)) (hlk : meth.locks = false) {Q : Option Value → Heap → List Loc → Prop} {k n : Nat} (hk : cells ≤ k) (hs : slots ≤ n) (hQ : Q (some w) T.heap locs) : OwnG p e below (OwnEW s Q k n) (T.setTop (mkF m pc Ls (w :: rest))) :=
  own_retW X hS hn1 hx hret (own_narR ht hw) (Or.inr (Or.inr (Or.inr (Or.inr ⟨rfl, ht, hw⟩)))) hd hlk hk hs hQ
theorem own_retW0 {vm₁ : Vm} (X : Stand p l e R (s.setVm vm₁) m args below meth c T locs cells slots) {n1 : Nat} (hS : s.Since vm₁ n1) (hn1 : n1 ≤ T.heap.size) (hx : p.tables.exec = Jvm.exec) {pc : Nat} {Ls : Array Slot} (hret : meth.sig.returnType = none)
    (hd : decode c.code pc = .ok (.return_, 1)) (hlk : meth.locks = false) {Q : Option Value → Heap → List Loc → Prop} {k n : Nat} (hk : cells ≤ k) (hs : slots ≤ n) (hQ : Q none T.heap locs) : OwnG p e below (OwnEW s Q k n) (T.setTop (mkF m pc Ls [])) := by
  obtain ⟨fs, hr, hrun, hended, hE⟩ := X.leaveW hS hn1 (v := none) (fun _ => rfl) hlk
  exact ⟨_, _, X.returnOut hx hret hd hr, hrun, hended, _, _, rfl, hQ, own_endW hE hk hs⟩
theorem own_ext0 {h h' : Heap} (K : Keep h h' []) : Ext h h' := ⟨K.1, fun a c q => K.2.1 a c q (by simp)⟩
theorem own_staK {Z : State} {h h' : Heap} {C n d : String} {v : Value} {ws : List Addr} (S : Sta Z h C n d v) (K : Keep h h' ws) (q : ∀ x ∈ ws, ∃ c : Cell, h[x]? = some c ∧ c.vm.isStatics = false) : Sta Z h' C n d v := by
  obtain ⟨cf, i, k, f, st, cell, h1, h2, h3, h4, h5, h6, h7⟩ := S
  refine ⟨cf, i, k, f, st, cell, h1, h2, h3, h4, K.2.1 st cell h5 (fun hm => ?_), h6, h7⟩
  obtain ⟨c, c1, c2⟩ := q st hm
  rw [h5] at c1
  cases c1
  rw [h6] at c2
  cases c2
theorem own_plain {Z : State} {h : Heap} {a : Addr} {C : String} (E : Exa Z h a C) : ∃ c : Cell, h[a]? = some c ∧ c.vm.isStatics = false := by
  obtain ⟨c, k, h1, h2, h3, h4, h5⟩ := E
  exact ⟨c, h1, h4⟩
theorem own_arrK {Z : State} {h h' : Heap} {a : Addr} {c : Cell} {ty : FieldType} {ws : List Addr} (A : Arr Z h a c ty) (K : Keep h h' ws) (q : a ∉ ws) : Arr Z h' a c ty := ⟨K.2.1 a c A.1 q, A.2⟩
/-- the array at a, of the class k, holds just vs -/
def OwnA (Z : State) (h : Heap) (a : Addr) (k : ClassId) (ty : FieldType) (vs : List Value) : Prop := ∃ c : Cell, Arr Z h a c ty ∧ c.cls = k ∧ c.slots.toList = vs
theorem OwnA.lt {Z : State} {h : Heap} {a : Addr} {k : ClassId} {ty : FieldType} {vs : List Value} (F : OwnA Z h a k ty vs) : a < h.size := by obtain ⟨c, A, -⟩ := F; exact A.lt
theorem OwnA.ext {Z : State} {h h' : Heap} {a : Addr} {k : ClassId} {ty : FieldType} {vs : List Value} (F : OwnA Z h a k ty vs) (E : Ext h h') : OwnA Z h' a k ty vs := by obtain ⟨c, A, r⟩ := F; exact ⟨c, A.ext E, r⟩
theorem OwnA.other {Z : State} {h h' : Heap} {a b : Addr} {k : ClassId} {ty : FieldType} {vs : List Value} {sl : Nat} {v : Value} (F : OwnA Z h a k ty vs) (W : Wr h h' b sl v) (q : a ≠ b) : OwnA Z h' a k ty vs := by obtain ⟨c, A, r⟩ := F; exact ⟨c, A.other W q, r⟩
theorem OwnA.keep {Z : State} {h h' : Heap} {a : Addr} {k : ClassId} {ty : FieldType} {vs : List Value} {ws : List Addr} (F : OwnA Z h a k ty vs) (K : Keep h h' ws) (q : a ∉ ws) : OwnA Z h' a k ty vs := by obtain ⟨c, A, r⟩ := F; exact ⟨c, own_arrK A K q, r⟩
theorem OwnA.new {Z : State} {h : Heap} {a : Addr} {k : ClassId} {ty : FieldType} {z : Int32} (A : Arr Z h a (newA k ty z) ty) : OwnA Z h a k ty (List.replicate z.toNatClampNeg (defaultValue ty)) := ⟨_, A, rfl, by simp [newA]⟩
theorem OwnA.set {Z : State} {h h' : Heap} {a : Addr} {k : ClassId} {ty : FieldType} {vs : List Value} {j : Nat} {v : Value} (F : OwnA Z h a k ty vs) (W : Wr h h' a j v) : OwnA Z h' a k ty (vs.set j v) := by
  obtain ⟨c, A, r1, r2⟩ := F
  refine ⟨_, A.same W, r1, ?_⟩
  rw [← r2]
  simp [Cell.setSlot]
theorem OwnA.inb {c : Cell} {vs : List Value} {j : Int32} (H : c.slots.toList = vs) (h1 : ¬ j < 0) (h2 : j.toNatClampNeg < vs.length) : ¬ (j < 0 ∨ c.slots.size ≤ j.toNatClampNeg) := by
  rintro (q | q)
  · exact h1 q
  · rw [← H, Array.length_toList] at h2; omega
theorem OwnA.at {c : Cell} {vs : List Value} {j : Int32} {v : Value} (H : c.slots.toList = vs) (h : vs[j.toNatClampNeg]? = some v) : c.slots[j.toNatClampNeg]? = some v := by
  rw [← H] at h; simpa using h
theorem OwnA.size {c : Cell} {vs : List Value} {z : Int32} (H : c.slots.toList = vs) (h : vs.length = z.toNatClampNeg) : c.slots.size = z.toNatClampNeg := by
  rw [← h, ← H, Array.length_toList]
theorem OwnA.ofArv {Z : State} {h : Heap} {a : Addr} {k : ClassId} {ty : FieldType} {z : Int32} {vs : List Value} {d : Value} (F : Arv Z h a k ty z vs d) (hl : z.toNatClampNeg = vs.length) : OwnA Z h a k ty vs := by
  obtain ⟨c, A, r1, r2, r3, r4, r5⟩ := F
  refine ⟨c, A, r1, ?_⟩
  apply List.ext_getElem?
  intro i
  by_cases hi : i < c.slots.size
  · have q := r4 i hi
    rw [Array.getElem?_toList, q, List.getD_eq_getElem?_getD]
    rw [r2, hl] at hi
    rw [List.getElem?_eq_getElem hi]; rfl
  · rw [Array.getElem?_toList, Array.getElem?_eq_none (by omega), List.getElem?_eq_none (by omega)]
theorem OwnA.one {Z : State} {h : Heap} {a : Addr} {k k' : ClassId} {ty ty' : FieldType} {vs vs' : List Value} (F : OwnA Z h a k ty vs) (G : OwnA Z h a k' ty' vs') : vs = vs' := by
  obtain ⟨c, A, -, r⟩ := F
  obtain ⟨c', A', -, r'⟩ := G
  have q := A.1.symm.trans A'.1
  cases q
  rw [← r, ← r']
theorem own_fldOne {Z : State} {h : Heap} {a : Addr} {C n d : String} {v w : Value} (F : Fld Z h a C n d v) (G : Fld Z h a C n d w) : v = w := by
  obtain ⟨c, cf, k, i, f, h1, h2, h3, h4, h5, h6, h7⟩ := F
  obtain ⟨c', cf', k', i', f', g1, g2, g3, g4, g5, g6, g7⟩ := G
  have q := h1.symm.trans g1
  cases q
  have q := h2.symm.trans g2
  cases q
  have q := h7.symm.trans g7
  cases q
  rfl
theorem own_decl {Z : State} {a0 : Array Value} {y : MethodName} {b : ByteArray} {ml : Nat} {rt : Option FieldType} (hi : (Jvm.Cond.instanceMethod y).before a0 Z = true) (hc : (Jvm.Cond.code y b ml rt).before a0 Z = true) : (Jvm.Cond.declares y).before a0 Z = true := by
  obtain ⟨mk, methM, hnamed, hmethM, hstM, habM⟩ := Cond.instanceMethod_spec hi
  obtain ⟨m2, cM, q1, -, -, -, -, -, -, hsig⟩ := Cond.code_spec hnamed hc
  cases hmethM.symm.trans q1
  simp [Cond.before, Cond.holds, Cond.value, hnamed, hmethM, hstM, hsig]
theorem own_eqI {args : Array Value} {s : State} {u : Term} {k : Int32} (h : (Jvm.Cond.eq u (.int k)).value args s none s [] = some true) : u.eval args s none [] s = some (.int k) := by
  cases hv : u.eval args s none [] s with
  | none => simp [Cond.value, hv] at h
  | some v => cases v <;> simp [Cond.value, Term.eval, hv] at h ⊢ <;> exact h
theorem own_eqL {args : Array Value} {s : State} {u : Term} {k : Int64} (h : (Jvm.Cond.eq u (.long k)).value args s none s [] = some true) : u.eval args s none [] s = some (.long k) := by
  cases hv : u.eval args s none [] s with
  | none => simp [Cond.value, hv] at h
  | some v => cases v <;> simp [Cond.value, Term.eval, hv] at h ⊢ <;> exact h
theorem own_size {args : Array Value} {s : State} {u : Term} {a : Addr} {cl : Cell} {ty : FieldType} {k : Int32} (ev : u.eval args s none [] s = some (.ref a)) (A : Arr s s.heap a cl ty) (h : (Jvm.Cond.eq (.length u) (.int k)).value args s none s [] = some true) : cl.slots.size = k.toNatClampNeg := by
  have h1 := own_eqI h
  have h2 : s.arrayAt? a = some cl := A.fin (Vm.Alike.refl _)
  simp only [Term.eval, ev, h2, Option.bind_eq_bind, Option.bind_some] at h1
  split at h1
  · rename_i hl
    have h3 : cl.slots.size.toInt32 = k := by simpa using h1
    rw [← h3]
    have := len_toInt hl
    rw [Int32.toNatClampNeg, this]; rfl
  · simp at h1
theorem own_elL {args : Array Value} {s : State} {u : Term} {a : Addr} {cl : Cell} {ty : FieldType} {j : Int32} {k : Int64} (ev : u.eval args s none [] s = some (.ref a)) (A : Arr s s.heap a cl ty) (h : (Jvm.Cond.eq (.elem u (.int j)) (.long k)).value args s none s [] = some true) : cl.slots[j.toNatClampNeg]? = some (.long k) :=
  (elem_in (own_eqL h) ev (Term.int_eval _) A.1).2
theorem own_elI {args : Array Value} {s : State} {u : Term} {a : Addr} {cl : Cell} {ty : FieldType} {j k : Int32} (ev : u.eval args s none [] s = some (.ref a)) (A : Arr s s.heap a cl ty) (h : (Jvm.Cond.eq (.elem u (.int j)) (.int k)).value args s none s [] = some true) : cl.slots[j.toNatClampNeg]? = some (.int k) :=
  (elem_in (own_eqI h) ev (Term.int_eval _) A.1).2
theorem own_ne {args : Array Value} {s : State} {u : Term} {z k : Int32} (ev : u.eval args s none [] s = some (.int z)) (h : (Jvm.Cond.not (Jvm.Cond.eq u (.int k))).value args s none s [] = some true) : ¬ z = k := by
  have h2 := not_v h
  intro q
  subst q
  simp [Cond.value, Term.eval, ev] at h2
theorem own_in {i z : Int32} {cl : Cell} (S : cl.slots.size = z.toNatClampNeg) (h1 : ¬ i < 0) (h2 : i < z) : ¬ (i < 0 ∨ cl.slots.size ≤ i.toNatClampNeg) := by
  rintro (q | q)
  · exact h1 q
  · rw [S] at q
    rw [Int32.lt_iff_toInt_lt] at h1 h2
    have e0 : (0 : Int32).toInt = 0 := rfl
    have e1 : ((i.toNatClampNeg : Nat) : Int) = i.toInt := by rw [Int32.toNatClampNeg]; exact Int.toNat_of_nonneg (by omega)
    have e2 : ((z.toNatClampNeg : Nat) : Int) = z.toInt := by rw [Int32.toNatClampNeg]; exact Int.toNat_of_nonneg (by omega)
    omega
end Own

theorem pd_0 : parseMethodDescriptor "(I)V" = some ⟨[.int], none⟩ := by decide +kernel
theorem pd_1 : parseMethodDescriptor "()Z" = some ⟨[], some .boolean⟩ := by decide +kernel
theorem pd_2 : parseMethodDescriptor "(C)Z" = some ⟨[.char], some .boolean⟩ := by decide +kernel
theorem pd_3 : parseMethodDescriptor "(C)Ljava/lang/AbstractStringBuilder;" = some ⟨[.char], some (.object "java/lang/AbstractStringBuilder")⟩ := by decide +kernel
theorem pd_4 : parseMethodDescriptor "()I" = some ⟨[], some .int⟩ := by decide +kernel
theorem pd_5 : parseMethodDescriptor "()[B" = some ⟨[], some (.array .byte)⟩ := by decide +kernel
theorem pd_6 : parseMethodDescriptor "([BII)[B" = some ⟨[(.array .byte), .int, .int], some (.array .byte)⟩ := by decide +kernel
theorem pd_7 : parseMethodDescriptor "(Ljava/lang/AbstractStringBuilder;Ljava/lang/Void;)V" = some ⟨[(.object "java/lang/AbstractStringBuilder"), (.object "java/lang/Void")], none⟩ := by decide +kernel
theorem pd_8 : parseMethodDescriptor "(Ljava/lang/StringBuilder;)V" = some ⟨[(.object "java/lang/StringBuilder")], none⟩ := by decide +kernel
theorem pd_9 : parseMethodDescriptor "()Ljava/lang/String;" = some ⟨[], some (.object "java/lang/String")⟩ := by decide +kernel
theorem pd_10 : parseMethodDescriptor "(C)Ljava/lang/StringBuilder;" = some ⟨[.char], some (.object "java/lang/StringBuilder")⟩ := by decide +kernel
theorem pd_11 : parseMethodDescriptor "()B" = some ⟨[], some .byte⟩ := by decide +kernel
theorem pd_12 : parseMethodDescriptor "(IILjava/util/function/BiFunction;)I" = some ⟨[.int, .int, (.object "java/util/function/BiFunction")], some .int⟩ := by decide +kernel
theorem pd_13 : parseMethodDescriptor "(II)V" = some ⟨[.int, .int], none⟩ := by decide +kernel
theorem pd_14 : parseMethodDescriptor "([BI)C" = some ⟨[(.array .byte), .int], some .char⟩ := by decide +kernel
theorem pd_15 : parseMethodDescriptor "(I)C" = some ⟨[.int], some .char⟩ := by decide +kernel
theorem pd_16 : parseMethodDescriptor "([B)Ljava/lang/String;" = some ⟨[(.array .byte)], some (.object "java/lang/String")⟩ := by decide +kernel
theorem pd_17 : parseMethodDescriptor "(Ljava/lang/String;III)Z" = some ⟨[(.object "java/lang/String"), .int, .int, .int], some .boolean⟩ := by decide +kernel
theorem own_narC (b : Int32) : narrow .char (.int (b &&& 255)) = .int (b &&& 255) := by
  show Value.int ((b &&& 255).toUInt32.toUInt16.toUInt32.toInt32) = _
  rw [i2c_mask]
def QSame (r : Option Value) (h0 : Heap) (n0 : Nat) (v : Option Value) (h : Heap) (L : List Loc) : Prop := v = r ∧ Fr n0 L ∧ h = h0
/-- a StringBuilder at a: its byte[] v holds vs, of which n are in use -/
def OwnSB (Z : State) (h : Heap) (a v : Addr) (kv : ClassId) (vs : List Value) (n : Int32) : Prop := Exa Z h a "java/lang/StringBuilder" ∧ Fld Z h a "java/lang/AbstractStringBuilder" "value" "[B" (.ref v) ∧ Fld Z h a "java/lang/AbstractStringBuilder" "coder" "B" (.int 0) ∧ Fld Z h a "java/lang/AbstractStringBuilder" "count" "I" (.int n) ∧ OwnA Z h v kv .byte vs ∧ Exa Z h v "[B"
theorem OwnSB.ext {Z : State} {h h' : Heap} {a v : Addr} {kv : ClassId} {vs : List Value} {n : Int32} (F : OwnSB Z h a v kv vs n) (E : Ext h h') : OwnSB Z h' a v kv vs n := ⟨F.1.ext E, F.2.1.ext E, F.2.2.1.ext E, F.2.2.2.1.ext E, F.2.2.2.2.1.ext E, F.2.2.2.2.2.ext E⟩
theorem OwnSB.ne {Z : State} {h : Heap} {a v : Addr} {kv : ClassId} {vs : List Value} {n : Int32} {a0 : Array Value} {k : Nat} (F : OwnSB Z h a v kv vs n) (w : (Jvm.Cond.instantiable "java/lang/StringBuilder" k).before a0 Z = true) : a ≠ v := by
  obtain ⟨c, A, -⟩ := F.2.2.2.2.1
  exact ne_arr F.1 w A
def QSB0 (Z : State) (a : Addr) (z : Int32) (h0 : Heap) (n0 : Nat) (v : Option Value) (h : Heap) (L : List Loc) : Prop := v = none ∧ Fr n0 L ∧ Keep h0 h [a] ∧ ∃ b kb, n0 ≤ b ∧ h0.size ≤ b ∧ OwnSB Z h a b kb (List.replicate z.toNatClampNeg (.int 0)) 0
def QSBA (Z : State) (a v : Addr) (kv : ClassId) (vs : List Value) (n : Int32) (r : Option Value) (h0 : Heap) (n0 : Nat) (w : Option Value) (h : Heap) (L : List Loc) : Prop := w = r ∧ Fr n0 L ∧ Keep h0 h [a, v] ∧ OwnSB Z h a v kv vs n
theorem own_b2b (x : Int32) : nar .byte (x.toInt8.toInt32) = x.toInt8.toInt32 := by
  show x.toInt8.toInt32.toInt8.toInt32 = x.toInt8.toInt32
  apply Int32.toInt_inj.mp
  have h1 := c_i2b x
  have h2 := c_i2b x.toInt8.toInt32
  omega
theorem own_same {Z : State} {a0 : Array Value} {y y2 z2 : MethodName} {C : String} (hd : (Jvm.Cond.declares y).before a0 Z = true) (hs : (Jvm.Cond.selects C y2 z2).before a0 Z = true) (hz : z2.cls = y.cls) (hm : y.cls ≠ "java/lang/invoke/MethodHandle" ∧ y.cls ≠ "java/lang/invoke/VarHandle") : (Jvm.Cond.sameMethod y.cls y.cls y.name y.desc).before a0 Z = true := by
  obtain ⟨m, meth, h1, h2, h3, h4⟩ := Cond.declares_spec hd
  obtain ⟨c2, r2, m2, q1, q2, q3, q4, kP, hkP, hkPi⟩ := Cond.selects_spec hs
  have f1 := findClass_of_methodNamed h1
  have f2 := findClass_of_methodNamed q3
  rw [hz] at f2
  have f3 : m.cls = m2.cls := Option.some.inj (f1.symm.trans f2)
  have f4 := State.methodFound?_of_named h1 hm
  simp [Cond.before, Cond.holds, Cond.value, f1, f4, h1, f3, hkP, hkPi]
theorem own_nf {Z : State} {a0 : Array Value} {y y2 z2 : MethodName} {C : String} (hs : (Jvm.Cond.selects C y2 z2).before a0 Z = true) (hz : z2.cls = y.cls) : NotFace Z y := fun r0 h0 => by
  obtain ⟨c2, r2, m2, q1, q2, q3, q4, kP, hkP, hkPi⟩ := Cond.selects_spec hs
  have f1 := findClass_of_methodNamed h0
  have f2 := findClass_of_methodNamed q3
  rw [hz] at f2
  have f3 : r0.cls = m2.cls := Option.some.inj (f1.symm.trans f2)
  exact ⟨kP, by rw [f3]; exact hkP, hkPi⟩
theorem d3_0 : decode jdk_68_method_2_code 0 = .ok (.aload_n 0, 1) := by decide +kernel
theorem d3_1 : decode jdk_68_method_2_code 1 = .ok (.invokespecial 3, 3) := by decide +kernel
theorem d3_4 : decode jdk_68_method_2_code 4 = .ok (.getstatic 18, 3) := by decide +kernel
theorem d3_7 : decode jdk_68_method_2_code 7 = .ok (.ifCond .eq 18, 3) := by decide +kernel
theorem d3_10 : decode jdk_68_method_2_code 10 = .ok (.aload_n 0, 1) := by decide +kernel
theorem d3_11 : decode jdk_68_method_2_code 11 = .ok (.iload_n 1, 1) := by decide +kernel
theorem d3_12 : decode jdk_68_method_2_code 12 = .ok (.newarray .byte, 2) := by decide +kernel
theorem d3_14 : decode jdk_68_method_2_code 14 = .ok (.putfield 15, 3) := by decide +kernel
theorem d3_17 : decode jdk_68_method_2_code 17 = .ok (.aload_n 0, 1) := by decide +kernel
theorem d3_18 : decode jdk_68_method_2_code 18 = .ok (.iconst 0, 1) := by decide +kernel
theorem d3_19 : decode jdk_68_method_2_code 19 = .ok (.putfield 22, 3) := by decide +kernel
theorem d3_22 : decode jdk_68_method_2_code 22 = .ok (.goto 16, 3) := by decide +kernel
theorem d3_25 : decode jdk_68_method_2_code 25 = .ok (.aload_n 0, 1) := by decide +kernel
theorem d3_26 : decode jdk_68_method_2_code 26 = .ok (.iload_n 1, 1) := by decide +kernel
theorem d3_27 : decode jdk_68_method_2_code 27 = .ok (.invokestatic 26, 3) := by decide +kernel
theorem d3_30 : decode jdk_68_method_2_code 30 = .ok (.putfield 15, 3) := by decide +kernel
theorem d3_33 : decode jdk_68_method_2_code 33 = .ok (.aload_n 0, 1) := by decide +kernel
theorem d3_34 : decode jdk_68_method_2_code 34 = .ok (.iconst 1, 1) := by decide +kernel
theorem d3_35 : decode jdk_68_method_2_code 35 = .ok (.putfield 22, 3) := by decide +kernel
theorem d3_38 : decode jdk_68_method_2_code 38 = .ok (.return_, 1) := by decide +kernel
theorem pn_0 : plainName "java/lang/AbstractStringBuilder" = true := by first | (simp [plainName, overriddenIn]; done) | decide +kernel
theorem ef_rmAI (m : MethodId) (a : Addr) (z : Int32) : entryFrame m #[(.ref a), (.int z)] 2 = mkF m 0 #[.val (.ref a), .val (.int z)] [] := by first | (simp [entryFrame, mkF, argsToLocals, Value.category, maxLocals]; done) | rfl
set_option maxRecDepth 65536 in
set_option maxHeartbeats 40000000 in
theorem rmAI (l : Launch) (Z : State) (a0 : Array Value) (hw : ∀ d ∈ tables_1, d.before a0 Z = true) (ws : List Jvm.Cond) (a : Addr) (z cz : Int32) (h0 : Heap) (n0 : Nat) (Z0 : n0 ≤ h0.size) (Ea : Exa Z h0 a "java/lang/StringBuilder") (Fv : Fld Z h0 a "java/lang/AbstractStringBuilder" "value" "[B" .null) (Fc : Fld Z h0 a "java/lang/AbstractStringBuilder" "coder" "B" (.int 0)) (Fn : Fld Z h0 a "java/lang/AbstractStringBuilder" "count" "I" (.int 0)) (g_a : n0 ≤ a) (hz : ¬ z < 0) (hz2 : z.toNatClampNeg ≤ 13) (Sc : Sta Z h0 "java/lang/String" "COMPACT_STRINGS" "Z" (.int cz)) (hcz : ¬ cz = 0) :
    MetFree l (⟨"java/lang/AbstractStringBuilder", "<init>", "(I)V"⟩ : MethodName) (head1 (Jvm.Cond.code (⟨"java/lang/AbstractStringBuilder", "<init>", "(I)V"⟩ : MethodName) jdk_68_method_2_code (2 : Nat) (Option.none : Option Jvm.ClassFile.FieldType) :: ws) ({ frames := 1, cells := 1, slots := 13, locals := 12 } : Room)) (fun aZ UZ => aZ = #[(.ref a), (.int z)] ∧ Z.Warmed39 UZ.vm ∧ UZ.heap = h0) (fun _ _ _ _ _ => True) (fun _ UZ oZ VZ => ∃ vZ LZ, oZ = .returned vZ ∧ (QSB0 Z a z h0 n0) vZ VZ.heap LZ ∧ FrameEnd UZ oZ VZ LZ ({ frames := 1, cells := 1, slots := 13, locals := 12 } : Room).cells ({ frames := 1, cells := 1, slots := 13, locals := 12 } : Room).slots) := by
  refine MetFree.of_bodySF (plainFor_of_name pn_0) hisR ?_
  intro p e s m args below meth c s₁ Bd hml0 hP hK
  obtain ⟨rfl, hZ, hh⟩ := hP
  have hx := Bd.exec
  have hby := Bd.bytes
  have hml : c.maxLocals = 2 := hml0
  have hown : s.vm.findClass "java/lang/AbstractStringBuilder" = some m.cls := findClass_of_methodNamed Bd.named
  have hnm := (name_of_methodNamed Bd.named Bd.method).1
  have X0 : Stand p l e ({ frames := 1, cells := 1, slots := 13, locals := 12 } : Room) s m #[(.ref a), (.int z)] below meth c s₁ [] 0 0 := Stand.of_body Bd
  have e0 : s₁.heap = h0 := by rw [← hh, Bd.state]; rfl
  have N0 := Fr.nil n0
  show OwnG p e below (OwnE s (QSB0 Z a z h0 n0) ({ frames := 1, cells := 1, slots := 13, locals := 12 } : Room).cells ({ frames := 1, cells := 1, slots := 13, locals := 12 } : Room).slots) _
  refine own_by (S' := s₁.setTop (mkF m 0 #[.val (.ref a), .val (.int z)] [])) (fun tZ kZ => castTop (ef_rmAI m a z) kZ) ?_
  refine own_by (S' := s₁.setTop (mkF m 1 #[.val (.ref a), .val (.int z)] [(.ref a)])) (fun tZ kZ => XS.aloadN X0.here hx rfl (hb hby d3_0) rfl rfl kZ) ?_
  obtain ⟨T1, X1, e1, st1⟩ := initO X0 hx hZ hown (hw _ (List.mem_of_getElem? (i := 18) rfl)) (hw _ (List.mem_of_getElem? (i := 19) rfl)) (hw _ (List.mem_of_getElem? (i := 20) rfl)) e0 (g := (mkF m 1 #[.val (.ref a), .val (.int z)] [(.ref a)])) rfl (by rw [hml]; rfl) rfl (hb hby d3_1) (by decide) (W := 0) (by show 2 * 0 + _ ≤ _; exact Nat.le_of_eq rfl) (by decide)
  refine own_by (S' := T1.setTop (mkF m 4 #[.val (.ref a), .val (.int z)] [])) st1 ?_
  obtain ⟨T2, X2, e2, st2⟩ := getS2 X1 hx hZ hown (host := "") (Or.inl (hw _ (List.mem_of_getElem? (i := 21) rfl))) Via.refl e1 Sc (g := (mkF m 4 #[.val (.ref a), .val (.int z)] [])) rfl (hb hby d3_4)
  refine own_by (S' := T2.setTop (mkF m 7 #[.val (.ref a), .val (.int z)] [(.int cz)])) st2 ?_
  refine own_by (S' := T2.setTop (mkF m 10 #[.val (.ref a), .val (.int z)] [])) (fun tZ kZ => XS.ifNo X2.here hx rfl (hb hby d3_7) rfl ((if0 _ _).trans (feq hcz).1) kZ) ?_
  refine own_by (S' := T2.setTop (mkF m 11 #[.val (.ref a), .val (.int z)] [(.ref a)])) (fun tZ kZ => XS.aloadN X2.here hx rfl (hb hby d3_10) rfl rfl kZ) ?_
  refine own_by (S' := T2.setTop (mkF m 12 #[.val (.ref a), .val (.int z)] [(.int z), (.ref a)])) (fun tZ kZ => XS.iloadN X2.here hx rfl (hb hby d3_11) rfl kZ) ?_
  obtain ⟨T3, h3, k3, X3, e3, E3, A3, Ea3, st3⟩ := newPE X2 hx hZ (hw _ (List.mem_of_getElem? (i := 1) rfl)) e2 (g := (mkF m 12 #[.val (.ref a), .val (.int z)] [(.int z), (.ref a)])) rfl (hb hby d3_12) rfl hz (cap := 13) hz2 (by decide) (by decide) (by decide) (ad := "[B") (by decide)
  obtain ⟨b3, g3⟩ : ∃ z, z = h0.size := ⟨_, rfl⟩
  rw [← g3] at A3 st3 Ea3
  have ne_a_b3 : a ≠ b3 := Nat.ne_of_lt (Nat.lt_of_lt_of_le Ea.lt (Nat.le_of_eq g3.symm))
  have g_b3 : n0 ≤ b3 := Nat.le_trans Z0 (Nat.le_of_eq g3.symm)
  have sz_b3 : h0.size ≤ b3 := Nat.le_trans (Keep.refl h0 [a]).1 (Nat.le_of_eq g3.symm)
  have Ea_3 := Ea.ext E3
  have Fv_3 := Fv.ext E3
  have Fc_3 := Fc.ext E3
  have Fn_3 := Fn.ext E3
  have Zs3 : n0 ≤ h3.size := Nat.le_trans Z0 E3.1
  have K3 := (Keep.refl h0 [a]).ext E3
  have V_b3 := OwnA.new A3
  have Ex_b3 := Ea3
  refine own_by (S' := T3.setTop (mkF m 14 #[.val (.ref a), .val (.int z)] [(.ref b3), (.ref a)])) st3 ?_
  obtain ⟨T4, h4, X4, e4, W4, st4⟩ := putF X3 hx hZ hown (host := "") (Or.inl (hw _ (List.mem_of_getElem? (i := 23) rfl))) Via.refl e3 Fv_3 Ea_3 (Or.inl (hw _ (List.mem_of_getElem? (i := 24) rfl))) (hw _ (List.mem_of_getElem? (i := 7) rfl)) (ty := (.array .byte)) (by decide) rfl rfl (g := (mkF m 14 #[.val (.ref a), .val (.int z)] [(.ref b3), (.ref a)])) rfl rfl (hb hby d3_14)
  have N4 := Fr.snoc X4 N0 g_a
  have Ea_4 := Ea_3.wr W4
  have Fv_4 := Fv_3.same W4
  have Fc_4 := Fc_3.other W4 (Or.inr (slot_ne (Or.inl (hw _ (List.mem_of_getElem? (i := 26) rfl))) (Or.inl (hw _ (List.mem_of_getElem? (i := 24) rfl))) (by decide) (t := .byte) (t' := (.array .byte)) (by decide) (by decide)))
  have Fn_4 := Fn_3.other W4 (Or.inr (slot_ne (Or.inl (hw _ (List.mem_of_getElem? (i := 40) rfl))) (Or.inl (hw _ (List.mem_of_getElem? (i := 24) rfl))) (by decide) (t := .int) (t' := (.array .byte)) (by decide) (by decide)))
  have V_b3_4 := V_b3.other W4 (Ne.symm ne_a_b3)
  have Ex_b3_4 := Ex_b3.wr W4
  have Zs4 : n0 ≤ h4.size := Nat.le_trans Zs3 (Keep.of_wr W4).1
  have K4 := K3.wr W4 (Or.inl (List.mem_of_getElem? (i := 0) rfl))
  refine own_by (S' := T4.setTop (mkF m 17 #[.val (.ref a), .val (.int z)] [])) st4 ?_
  refine own_by (S' := T4.setTop (mkF m 18 #[.val (.ref a), .val (.int z)] [(.ref a)])) (fun tZ kZ => XS.aloadN X4.here hx rfl (hb hby d3_17) rfl rfl kZ) ?_
  refine own_by (S' := T4.setTop (mkF m 19 #[.val (.ref a), .val (.int z)] [(.int (0 : Int32)), (.ref a)])) (fun tZ kZ => XS.iconst X4.here hx rfl (hb hby d3_18) kZ) ?_
  obtain ⟨T5, h5, X5, e5, W5, st5⟩ := putFN X4 hx hZ hown (hw _ (List.mem_of_getElem? (i := 25) rfl)) Via.refl e4 Fc_4 Ea_4 (Or.inl (hw _ (List.mem_of_getElem? (i := 26) rfl))) (hw _ (List.mem_of_getElem? (i := 7) rfl)) (ty := .byte) (v' := (.int (0 : Int32))) (by decide) rfl rfl (g := (mkF m 19 #[.val (.ref a), .val (.int z)] [(.int (0 : Int32)), (.ref a)])) rfl rfl (hb hby d3_19)
  have N5 := Fr.snoc X5 N4 g_a
  have Ea_5 := Ea_4.wr W5
  have Fv_5 := Fv_4.other W5 (Or.inr (slot_ne (Or.inl (hw _ (List.mem_of_getElem? (i := 24) rfl))) (Or.inl (hw _ (List.mem_of_getElem? (i := 26) rfl))) (by decide) (t := (.array .byte)) (t' := .byte) (by decide) (by decide)))
  have Fc_5 := Fc_4.same W5
  have Fn_5 := Fn_4.other W5 (Or.inr (slot_ne (Or.inl (hw _ (List.mem_of_getElem? (i := 40) rfl))) (Or.inl (hw _ (List.mem_of_getElem? (i := 26) rfl))) (by decide) (t := .int) (t' := .byte) (by decide) (by decide)))
  have V_b3_5 := V_b3_4.other W5 (Ne.symm ne_a_b3)
  have Ex_b3_5 := Ex_b3_4.wr W5
  have Zs5 : n0 ≤ h5.size := Nat.le_trans Zs4 (Keep.of_wr W5).1
  have K5 := K4.wr W5 (Or.inl (List.mem_of_getElem? (i := 0) rfl))
  refine own_by (S' := T5.setTop (mkF m 22 #[.val (.ref a), .val (.int z)] [])) st5 ?_
  refine own_by (S' := T5.setTop (mkF m 38 #[.val (.ref a), .val (.int z)] [])) (fun tZ kZ => XS.goto X5.here hx rfl (pc0 := 22) (pc' := 38) rfl (hb hby d3_22) (by decide) (by decide) kZ) ?_
  exact own_ret0 X5 hx Bd.returns (hb hby d3_38) Bd.notSynchronized (by decide) (by decide) (show QSB0 Z a z h0 n0 none T5.heap _ from by rw [e5]; exact ⟨rfl, N5, K5, b3, _, g_b3, sz_b3, Ea_5, Fv_5, Fc_5, Fn_5, V_b3_5, Ex_b3_5⟩)
theorem d2_0 : decode jdk_67_method_2_code 0 = .ok (.aload_n 0, 1) := by decide +kernel
theorem d2_1 : decode jdk_67_method_2_code 1 = .ok (.iload_n 1, 1) := by decide +kernel
theorem d2_2 : decode jdk_67_method_2_code 2 = .ok (.invokespecial 1, 3) := by decide +kernel
theorem d2_5 : decode jdk_67_method_2_code 5 = .ok (.return_, 1) := by decide +kernel
theorem pn_1 : plainName "java/lang/StringBuilder" = true := by first | (simp [plainName, overriddenIn]; done) | decide +kernel
theorem ef_rmSI (m : MethodId) (a : Addr) (z : Int32) : entryFrame m #[(.ref a), (.int z)] 2 = mkF m 0 #[.val (.ref a), .val (.int z)] [] := by first | (simp [entryFrame, mkF, argsToLocals, Value.category, maxLocals]; done) | rfl
set_option maxRecDepth 65536 in
set_option maxHeartbeats 40000000 in
theorem rmSI (l : Launch) (Z : State) (a0 : Array Value) (hw : ∀ d ∈ tables_1, d.before a0 Z = true) (ws : List Jvm.Cond) (a : Addr) (z cz : Int32) (h0 : Heap) (n0 : Nat) (Z0 : n0 ≤ h0.size) (Ea : Exa Z h0 a "java/lang/StringBuilder") (Fv : Fld Z h0 a "java/lang/AbstractStringBuilder" "value" "[B" .null) (Fc : Fld Z h0 a "java/lang/AbstractStringBuilder" "coder" "B" (.int 0)) (Fn : Fld Z h0 a "java/lang/AbstractStringBuilder" "count" "I" (.int 0)) (g_a : n0 ≤ a) (hz : ¬ z < 0) (hz2 : z.toNatClampNeg ≤ 13) (Sc : Sta Z h0 "java/lang/String" "COMPACT_STRINGS" "Z" (.int cz)) (hcz : ¬ cz = 0) :
    MetFree l (⟨"java/lang/StringBuilder", "<init>", "(I)V"⟩ : MethodName) (head1 (Jvm.Cond.code (⟨"java/lang/StringBuilder", "<init>", "(I)V"⟩ : MethodName) jdk_67_method_2_code (2 : Nat) (Option.none : Option Jvm.ClassFile.FieldType) :: ws) ({ frames := 2, cells := 1, slots := 13, locals := 25 } : Room)) (fun aZ UZ => aZ = #[(.ref a), (.int z)] ∧ Z.Warmed39 UZ.vm ∧ UZ.heap = h0) (fun _ _ _ _ _ => True) (fun _ UZ oZ VZ => ∃ vZ LZ, oZ = .returned vZ ∧ (QSB0 Z a z h0 n0) vZ VZ.heap LZ ∧ FrameEnd UZ oZ VZ LZ ({ frames := 2, cells := 1, slots := 13, locals := 25 } : Room).cells ({ frames := 2, cells := 1, slots := 13, locals := 25 } : Room).slots) := by
  refine MetFree.of_bodySF (plainFor_of_name pn_1) hisR ?_
  intro p e s m args below meth c s₁ Bd hml0 hP hK
  obtain ⟨rfl, hZ, hh⟩ := hP
  have hx := Bd.exec
  have hby := Bd.bytes
  have hml : c.maxLocals = 2 := hml0
  have hown : s.vm.findClass "java/lang/StringBuilder" = some m.cls := findClass_of_methodNamed Bd.named
  have hnm := (name_of_methodNamed Bd.named Bd.method).1
  have X0 : Stand p l e ({ frames := 2, cells := 1, slots := 13, locals := 25 } : Room) s m #[(.ref a), (.int z)] below meth c s₁ [] 0 0 := Stand.of_body Bd
  have e0 : s₁.heap = h0 := by rw [← hh, Bd.state]; rfl
  have N0 := Fr.nil n0
  show OwnG p e below (OwnE s (QSB0 Z a z h0 n0) ({ frames := 2, cells := 1, slots := 13, locals := 25 } : Room).cells ({ frames := 2, cells := 1, slots := 13, locals := 25 } : Room).slots) _
  refine own_by (S' := s₁.setTop (mkF m 0 #[.val (.ref a), .val (.int z)] [])) (fun tZ kZ => castTop (ef_rmSI m a z) kZ) ?_
  refine own_by (S' := s₁.setTop (mkF m 1 #[.val (.ref a), .val (.int z)] [(.ref a)])) (fun tZ kZ => XS.aloadN X0.here hx rfl (hb hby d2_0) rfl rfl kZ) ?_
  refine own_by (S' := s₁.setTop (mkF m 2 #[.val (.ref a), .val (.int z)] [(.int z), (.ref a)])) (fun tZ kZ => XS.iloadN X0.here hx rfl (hb hby d2_1) rfl kZ) ?_
  obtain ⟨_, _, ⟨T1, L1, k1, n1⟩, -, X1, ⟨Lc1, hQ1, l1, y1, z1⟩, st1⟩ := X0.specialBack hx (y := (⟨"java/lang/AbstractStringBuilder", "<init>", "(I)V"⟩ : MethodName)) rfl hown (mvT hZ (hw _ (List.mem_of_getElem? (i := 12) rfl))) (mvT hZ (hw _ (List.mem_of_getElem? (i := 13) rfl))) (mvT hZ (hw _ (List.mem_of_getElem? (i := 17) rfl))) (by decide) (backOf (W := 0) (rmAI l Z a0 hw [] a z cz h0 n0 Z0 Ea Fv Fc Fn g_a hz hz2 Sc hcz) hZ (hw _ (List.mem_of_getElem? (i := 17) rfl)) (hw _ (List.mem_of_getElem? (i := 16) rfl)) (by decide) (by decide)) (g := (mkF m 2 #[.val (.ref a), .val (.int z)] [(.int z), (.ref a)])) rfl (by rw [hml]; rfl) (Steps.refl _) (a := a) (argsL := [(.int z)]) (rest := []) (lenOf pd_0 rfl) rfl (by show 2 * 0 + _ ≤ _; exact Nat.le_of_eq rfl) (hb hby d2_2) (fun _ _ => ⟨rfl, e0, (by decide : 0 + 1 ≤ _), (by decide : 0 + 13 ≤ _)⟩)
  dsimp only [Pt.U, Pt.locs, Pt.cells, Pt.slots] at X1 l1 y1 z1 st1 hQ1
  subst l1 y1 z1
  obtain ⟨rfl, N1q, Kc1, R1⟩ := hQ1
  have N1 := Fr.app N0 N1q
  refine own_by (S' := T1.setTop (mkF m 5 #[.val (.ref a), .val (.int z)] [])) (fun tZ kZ => st1.trans kZ) ?_
  exact own_ret0 X1 hx Bd.returns (hb hby d2_5) Bd.notSynchronized (by decide) (by decide) ⟨rfl, N1, Kc1, R1⟩
theorem d8_0 : decode jdk_68_method_68_code 0 = .ok (.getstatic 18, 3) := by decide +kernel
theorem d8_3 : decode jdk_68_method_68_code 3 = .ok (.ifCond .eq 14, 3) := by decide +kernel
theorem d8_6 : decode jdk_68_method_68_code 6 = .ok (.aload_n 0, 1) := by decide +kernel
theorem d8_7 : decode jdk_68_method_68_code 7 = .ok (.getfield 22, 3) := by decide +kernel
theorem d8_10 : decode jdk_68_method_68_code 10 = .ok (.ifCond .ne 7, 3) := by decide +kernel
theorem d8_13 : decode jdk_68_method_68_code 13 = .ok (.iconst 1, 1) := by decide +kernel
theorem d8_14 : decode jdk_68_method_68_code 14 = .ok (.goto 4, 3) := by decide +kernel
theorem d8_17 : decode jdk_68_method_68_code 17 = .ok (.iconst 0, 1) := by decide +kernel
theorem d8_18 : decode jdk_68_method_68_code 18 = .ok (.ireturn, 1) := by decide +kernel
theorem ef_rmAL (m : MethodId) (a : Addr) : entryFrame m #[(.ref a)] 1 = mkF m 0 #[.val (.ref a)] [] := by first | (simp [entryFrame, mkF, argsToLocals, Value.category, maxLocals]; done) | rfl
set_option maxRecDepth 65536 in
set_option maxHeartbeats 40000000 in
theorem rmAL (l : Launch) (Z : State) (a0 : Array Value) (hw : ∀ d ∈ tables_1, d.before a0 Z = true) (ws : List Jvm.Cond) (a : Addr) (cz : Int32) (h0 : Heap) (n0 : Nat) (Z0 : n0 ≤ h0.size) (Fc : Fld Z h0 a "java/lang/AbstractStringBuilder" "coder" "B" (.int 0)) (Sc : Sta Z h0 "java/lang/String" "COMPACT_STRINGS" "Z" (.int cz)) (hcz : ¬ cz = 0) :
    MetFree l (⟨"java/lang/AbstractStringBuilder", "isLatin1", "()Z"⟩ : MethodName) (head1 (Jvm.Cond.code (⟨"java/lang/AbstractStringBuilder", "isLatin1", "()Z"⟩ : MethodName) jdk_68_method_68_code (1 : Nat) (Option.some Jvm.ClassFile.FieldType.boolean) :: ws) ({ frames := 0, cells := 0, slots := 0, locals := 0 } : Room)) (fun aZ UZ => aZ = #[(.ref a)] ∧ Z.Warmed39 UZ.vm ∧ UZ.heap = h0) (fun _ _ _ _ _ => True) (fun _ UZ oZ VZ => ∃ vZ LZ, oZ = .returned vZ ∧ (QSame (some (.int 1)) h0 n0) vZ VZ.heap LZ ∧ FrameEnd UZ oZ VZ LZ ({ frames := 0, cells := 0, slots := 0, locals := 0 } : Room).cells ({ frames := 0, cells := 0, slots := 0, locals := 0 } : Room).slots) := by
  refine MetFree.of_bodySF (plainFor_of_name pn_0) hisR ?_
  intro p e s m args below meth c s₁ Bd hml0 hP hK
  obtain ⟨rfl, hZ, hh⟩ := hP
  have hx := Bd.exec
  have hby := Bd.bytes
  have hml : c.maxLocals = 1 := hml0
  have hown : s.vm.findClass "java/lang/AbstractStringBuilder" = some m.cls := findClass_of_methodNamed Bd.named
  have hnm := (name_of_methodNamed Bd.named Bd.method).1
  have X0 : Stand p l e ({ frames := 0, cells := 0, slots := 0, locals := 0 } : Room) s m #[(.ref a)] below meth c s₁ [] 0 0 := Stand.of_body Bd
  have e0 : s₁.heap = h0 := by rw [← hh, Bd.state]; rfl
  have N0 := Fr.nil n0
  show OwnG p e below (OwnE s (QSame (some (.int 1)) h0 n0) ({ frames := 0, cells := 0, slots := 0, locals := 0 } : Room).cells ({ frames := 0, cells := 0, slots := 0, locals := 0 } : Room).slots) _
  refine own_by (S' := s₁.setTop (mkF m 0 #[.val (.ref a)] [])) (fun tZ kZ => castTop (ef_rmAL m a) kZ) ?_
  obtain ⟨T1, X1, e1, st1⟩ := getS2 X0 hx hZ hown (host := "") (Or.inl (hw _ (List.mem_of_getElem? (i := 21) rfl))) Via.refl e0 Sc (g := (mkF m 0 #[.val (.ref a)] [])) rfl (hb hby d8_0)
  refine own_by (S' := T1.setTop (mkF m 3 #[.val (.ref a)] [(.int cz)])) st1 ?_
  refine own_by (S' := T1.setTop (mkF m 6 #[.val (.ref a)] [])) (fun tZ kZ => XS.ifNo X1.here hx rfl (hb hby d8_3) rfl ((if0 _ _).trans (feq hcz).1) kZ) ?_
  refine own_by (S' := T1.setTop (mkF m 7 #[.val (.ref a)] [(.ref a)])) (fun tZ kZ => XS.aloadN X1.here hx rfl (hb hby d8_6) rfl rfl kZ) ?_
  obtain ⟨T2, X2, e2, st2⟩ := getF X1 hx hZ hown (host := "") (Or.inl (hw _ (List.mem_of_getElem? (i := 25) rfl))) Via.refl e1 Fc (g := (mkF m 7 #[.val (.ref a)] [(.ref a)])) rfl rfl (hb hby d8_7)
  refine own_by (S' := T2.setTop (mkF m 10 #[.val (.ref a)] [(.int (0 : Int32))])) st2 ?_
  refine own_by (S' := T2.setTop (mkF m 13 #[.val (.ref a)] [])) (fun tZ kZ => XS.ifNo X2.here hx rfl (hb hby d8_10) rfl ((if0 _ _).trans (teq rfl).2) kZ) ?_
  refine own_by (S' := T2.setTop (mkF m 14 #[.val (.ref a)] [(.int (1 : Int32))])) (fun tZ kZ => XS.iconst X2.here hx rfl (hb hby d8_13) kZ) ?_
  refine own_by (S' := T2.setTop (mkF m 18 #[.val (.ref a)] [(.int (1 : Int32))])) (fun tZ kZ => XS.goto X2.here hx rfl (pc0 := 14) (pc' := 18) rfl (hb hby d8_14) (by decide) (by decide) kZ) ?_
  exact own_retI X2 hx (t := .boolean) Bd.returns (by simp) rfl (hb hby d8_18) Bd.notSynchronized (by decide) (by decide) ⟨rfl, N0, e2⟩
theorem d9_0 : decode jdk_43_method_3_code 0 = .ok (.iload_n 0, 1) := by decide +kernel
theorem d9_1 : decode jdk_43_method_3_code 1 = .ok (.sipush 255, 3) := by decide +kernel
theorem d9_4 : decode jdk_43_method_3_code 4 = .ok (.if_icmp .gt 7, 3) := by decide +kernel
theorem d9_7 : decode jdk_43_method_3_code 7 = .ok (.iconst 1, 1) := by decide +kernel
theorem d9_8 : decode jdk_43_method_3_code 8 = .ok (.goto 4, 3) := by decide +kernel
theorem d9_11 : decode jdk_43_method_3_code 11 = .ok (.iconst 0, 1) := by decide +kernel
theorem d9_12 : decode jdk_43_method_3_code 12 = .ok (.ireturn, 1) := by decide +kernel
theorem pn_2 : plainName "java/lang/StringLatin1" = true := by first | (simp [plainName, overriddenIn]; done) | decide +kernel
theorem ef_rmCE (m : MethodId) (q : Int32) : entryFrame m #[(.int q)] 1 = mkF m 0 #[.val (.int q)] [] := by first | (simp [entryFrame, mkF, argsToLocals, Value.category, maxLocals]; done) | rfl
set_option maxRecDepth 65536 in
set_option maxHeartbeats 40000000 in
theorem rmCE (l : Launch) (Z : State) (a0 : Array Value) (hw : ∀ d ∈ tables_1, d.before a0 Z = true) (ws : List Jvm.Cond) (q : Int32) (h0 : Heap) (n0 : Nat) (Z0 : n0 ≤ h0.size) (hq : ¬ (255 : Int32) < q) :
    MetFree l (⟨"java/lang/StringLatin1", "canEncode", "(C)Z"⟩ : MethodName) (head1 (Jvm.Cond.code (⟨"java/lang/StringLatin1", "canEncode", "(C)Z"⟩ : MethodName) jdk_43_method_3_code (1 : Nat) (Option.some Jvm.ClassFile.FieldType.boolean) :: ws) ({ frames := 0, cells := 0, slots := 0, locals := 0 } : Room)) (fun aZ UZ => aZ = #[(.int q)] ∧ Z.Warmed39 UZ.vm ∧ UZ.heap = h0) (fun _ _ _ _ _ => True) (fun _ UZ oZ VZ => ∃ vZ LZ, oZ = .returned vZ ∧ (QSame (some (.int 1)) h0 n0) vZ VZ.heap LZ ∧ FrameEnd UZ oZ VZ LZ ({ frames := 0, cells := 0, slots := 0, locals := 0 } : Room).cells ({ frames := 0, cells := 0, slots := 0, locals := 0 } : Room).slots) := by
  refine MetFree.of_bodySF (plainFor_of_name pn_2) hisR ?_
  intro p e s m args below meth c s₁ Bd hml0 hP hK
  obtain ⟨rfl, hZ, hh⟩ := hP
  have hx := Bd.exec
  have hby := Bd.bytes
  have hml : c.maxLocals = 1 := hml0
  have hown : s.vm.findClass "java/lang/StringLatin1" = some m.cls := findClass_of_methodNamed Bd.named
  have hnm := (name_of_methodNamed Bd.named Bd.method).1
  have X0 : Stand p l e ({ frames := 0, cells := 0, slots := 0, locals := 0 } : Room) s m #[(.int q)] below meth c s₁ [] 0 0 := Stand.of_body Bd
  have e0 : s₁.heap = h0 := by rw [← hh, Bd.state]; rfl
  have N0 := Fr.nil n0
  show OwnG p e below (OwnE s (QSame (some (.int 1)) h0 n0) ({ frames := 0, cells := 0, slots := 0, locals := 0 } : Room).cells ({ frames := 0, cells := 0, slots := 0, locals := 0 } : Room).slots) _
  refine own_by (S' := s₁.setTop (mkF m 0 #[.val (.int q)] [])) (fun tZ kZ => castTop (ef_rmCE m q) kZ) ?_
  refine own_by (S' := s₁.setTop (mkF m 1 #[.val (.int q)] [(.int q)])) (fun tZ kZ => XS.iloadN X0.here hx rfl (hb hby d9_0) rfl kZ) ?_
  refine own_by (S' := s₁.setTop (mkF m 4 #[.val (.int q)] [(.int (255 : Int32)), (.int q)])) (fun tZ kZ => XS.sipush X0.here hx rfl (hb hby d9_1) kZ) ?_
  refine own_by (S' := s₁.setTop (mkF m 7 #[.val (.int q)] [])) (fun tZ kZ => XS.icmpNo X0.here hx rfl (hb hby d9_4) rfl (flt hq).2.2.1 kZ) ?_
  refine own_by (S' := s₁.setTop (mkF m 8 #[.val (.int q)] [(.int (1 : Int32))])) (fun tZ kZ => XS.iconst X0.here hx rfl (hb hby d9_7) kZ) ?_
  refine own_by (S' := s₁.setTop (mkF m 12 #[.val (.int q)] [(.int (1 : Int32))])) (fun tZ kZ => XS.goto X0.here hx rfl (pc0 := 8) (pc' := 12) rfl (hb hby d9_8) (by decide) (by decide) kZ) ?_
  exact own_retI X0 hx (t := .boolean) Bd.returns (by simp) rfl (hb hby d9_12) Bd.notSynchronized (by decide) (by decide) ⟨rfl, N0, e0⟩
theorem own_shr0 (z : Int32) : z >>> ((0 : Int32) &&& 31) = z := by
  have h : ((0 : Int32) &&& 31) = 0 := by decide
  rw [h]; exact Int32.shiftRight_zero
theorem d7_0 : decode jdk_68_method_9_code 0 = .ok (.aload_n 0, 1) := by decide +kernel
theorem d7_1 : decode jdk_68_method_9_code 1 = .ok (.getfield 15, 3) := by decide +kernel
theorem d7_4 : decode jdk_68_method_9_code 4 = .ok (.arraylength, 1) := by decide +kernel
theorem d7_5 : decode jdk_68_method_9_code 5 = .ok (.aload_n 0, 1) := by decide +kernel
theorem d7_6 : decode jdk_68_method_9_code 6 = .ok (.getfield 22, 3) := by decide +kernel
theorem d7_9 : decode jdk_68_method_9_code 9 = .ok (.ishr, 1) := by decide +kernel
theorem d7_10 : decode jdk_68_method_9_code 10 = .ok (.istore_n 2, 1) := by decide +kernel
theorem d7_11 : decode jdk_68_method_9_code 11 = .ok (.iload_n 1, 1) := by decide +kernel
theorem d7_12 : decode jdk_68_method_9_code 12 = .ok (.iload_n 2, 1) := by decide +kernel
theorem d7_13 : decode jdk_68_method_9_code 13 = .ok (.isub, 1) := by decide +kernel
theorem d7_14 : decode jdk_68_method_9_code 14 = .ok (.ifCond .le 24, 3) := by decide +kernel
theorem d7_17 : decode jdk_68_method_9_code 17 = .ok (.aload_n 0, 1) := by decide +kernel
theorem d7_18 : decode jdk_68_method_9_code 18 = .ok (.aload_n 0, 1) := by decide +kernel
theorem d7_19 : decode jdk_68_method_9_code 19 = .ok (.getfield 15, 3) := by decide +kernel
theorem d7_22 : decode jdk_68_method_9_code 22 = .ok (.aload_n 0, 1) := by decide +kernel
theorem d7_23 : decode jdk_68_method_9_code 23 = .ok (.iload_n 1, 1) := by decide +kernel
theorem d7_24 : decode jdk_68_method_9_code 24 = .ok (.invokevirtual 104, 3) := by decide +kernel
theorem d7_27 : decode jdk_68_method_9_code 27 = .ok (.aload_n 0, 1) := by decide +kernel
theorem d7_28 : decode jdk_68_method_9_code 28 = .ok (.getfield 22, 3) := by decide +kernel
theorem d7_31 : decode jdk_68_method_9_code 31 = .ok (.ishl, 1) := by decide +kernel
theorem d7_32 : decode jdk_68_method_9_code 32 = .ok (.invokestatic 108, 3) := by decide +kernel
theorem d7_35 : decode jdk_68_method_9_code 35 = .ok (.putfield 15, 3) := by decide +kernel
theorem d7_38 : decode jdk_68_method_9_code 38 = .ok (.return_, 1) := by decide +kernel
theorem ef_rmEC (m : MethodId) (a : Addr) (q : Int32) : entryFrame m #[(.ref a), (.int q)] 3 = mkF m 0 #[.val (.ref a), .val (.int q), .unset] [] := by first | (simp [entryFrame, mkF, argsToLocals, Value.category, maxLocals]; done) | rfl
set_option maxRecDepth 65536 in
set_option maxHeartbeats 40000000 in
theorem rmEC (l : Launch) (Z : State) (a0 : Array Value) (hw : ∀ d ∈ tables_1, d.before a0 Z = true) (ws : List Jvm.Cond) (a v : Addr) (kv : ClassId) (vs : List Value) (n q z : Int32) (h0 : Heap) (n0 : Nat) (Z0 : n0 ≤ h0.size) (B : OwnSB Z h0 a v kv vs n) (hl : vs.length = z.toNatClampNeg) (hz : ¬ z < 0) (hq : ¬ (0 : Int32) < q - z) :
    MetFree l (⟨"java/lang/AbstractStringBuilder", "ensureCapacityInternal", "(I)V"⟩ : MethodName) (head1 (Jvm.Cond.code (⟨"java/lang/AbstractStringBuilder", "ensureCapacityInternal", "(I)V"⟩ : MethodName) jdk_68_method_9_code (3 : Nat) (Option.none : Option Jvm.ClassFile.FieldType) :: ws) ({ frames := 0, cells := 0, slots := 0, locals := 0 } : Room)) (fun aZ UZ => aZ = #[(.ref a), (.int q)] ∧ Z.Warmed39 UZ.vm ∧ UZ.heap = h0) (fun _ _ _ _ _ => True) (fun _ UZ oZ VZ => ∃ vZ LZ, oZ = .returned vZ ∧ (QSame none h0 n0) vZ VZ.heap LZ ∧ FrameEnd UZ oZ VZ LZ ({ frames := 0, cells := 0, slots := 0, locals := 0 } : Room).cells ({ frames := 0, cells := 0, slots := 0, locals := 0 } : Room).slots) := by
  refine MetFree.of_bodySF (plainFor_of_name pn_0) hisR ?_
  intro p e s m args below meth c s₁ Bd hml0 hP hK
  obtain ⟨rfl, hZ, hh⟩ := hP
  have hx := Bd.exec
  have hby := Bd.bytes
  have hml : c.maxLocals = 3 := hml0
  have hown : s.vm.findClass "java/lang/AbstractStringBuilder" = some m.cls := findClass_of_methodNamed Bd.named
  have hnm := (name_of_methodNamed Bd.named Bd.method).1
  have X0 : Stand p l e ({ frames := 0, cells := 0, slots := 0, locals := 0 } : Room) s m #[(.ref a), (.int q)] below meth c s₁ [] 0 0 := Stand.of_body Bd
  have e0 : s₁.heap = h0 := by rw [← hh, Bd.state]; rfl
  have N0 := Fr.nil n0
  show OwnG p e below (OwnE s (QSame none h0 n0) ({ frames := 0, cells := 0, slots := 0, locals := 0 } : Room).cells ({ frames := 0, cells := 0, slots := 0, locals := 0 } : Room).slots) _
  refine own_by (S' := s₁.setTop (mkF m 0 #[.val (.ref a), .val (.int q), .unset] [])) (fun tZ kZ => castTop (ef_rmEC m a q) kZ) ?_
  refine own_by (S' := s₁.setTop (mkF m 1 #[.val (.ref a), .val (.int q), .unset] [(.ref a)])) (fun tZ kZ => XS.aloadN X0.here hx rfl (hb hby d7_0) rfl rfl kZ) ?_
  obtain ⟨T1, X1, e1, st1⟩ := getF X0 hx hZ hown (host := "") (Or.inl (hw _ (List.mem_of_getElem? (i := 23) rfl))) Via.refl e0 B.2.1 (g := (mkF m 1 #[.val (.ref a), .val (.int q), .unset] [(.ref a)])) rfl rfl (hb hby d7_1)
  refine own_by (S' := T1.setTop (mkF m 4 #[.val (.ref a), .val (.int q), .unset] [(.ref v)])) st1 ?_
  obtain ⟨cc2, Ar2, hc2, hl2⟩ := id B.2.2.2.2.1
  refine own_by (S' := T1.setTop (mkF m 5 #[.val (.ref a), .val (.int q), .unset] [(.int z)])) (fun tZ kZ => X1.arraylength hx (by rw [e1]; exact Ar2.1) (State.isArrayOf_alike hZ.alike Ar2.2.1) (g := (mkF m 4 #[.val (.ref a), .val (.int q), .unset] [(.ref v)])) rfl rfl (hb hby d7_4) _ (by rw [len_of (OwnA.size (z := z) hl2 hl) hz]; exact kZ)) ?_
  refine own_by (S' := T1.setTop (mkF m 6 #[.val (.ref a), .val (.int q), .unset] [(.ref a), (.int z)])) (fun tZ kZ => XS.aloadN X1.here hx rfl (hb hby d7_5) rfl rfl kZ) ?_
  obtain ⟨T3, X3, e3, st3⟩ := getF X1 hx hZ hown (host := "") (Or.inl (hw _ (List.mem_of_getElem? (i := 25) rfl))) Via.refl e1 B.2.2.1 (g := (mkF m 6 #[.val (.ref a), .val (.int q), .unset] [(.ref a), (.int z)])) rfl rfl (hb hby d7_6)
  refine own_by (S' := T3.setTop (mkF m 9 #[.val (.ref a), .val (.int q), .unset] [(.int (0 : Int32)), (.int z)])) st3 ?_
  refine own_by (S' := T3.setTop (mkF m 10 #[.val (.ref a), .val (.int q), .unset] [(.int (z >>> ((0 : Int32) &&& 31)))])) (fun tZ kZ => XS.ishr X3.here hx rfl (hb hby d7_9) rfl kZ) ?_
  rw [own_shr0]
  refine own_by (S' := T3.setTop (mkF m 11 #[.val (.ref a), .val (.int q), .val (.int z)] [])) (fun tZ kZ => XS.istoreN X3.here hx rfl (hb hby d7_10) rfl (l' := #[.val (.ref a), .val (.int q), .val (.int z)]) rfl kZ) ?_
  refine own_by (S' := T3.setTop (mkF m 12 #[.val (.ref a), .val (.int q), .val (.int z)] [(.int q)])) (fun tZ kZ => XS.iloadN X3.here hx rfl (hb hby d7_11) rfl kZ) ?_
  refine own_by (S' := T3.setTop (mkF m 13 #[.val (.ref a), .val (.int q), .val (.int z)] [(.int z), (.int q)])) (fun tZ kZ => XS.iloadN X3.here hx rfl (hb hby d7_12) rfl kZ) ?_
  refine own_by (S' := T3.setTop (mkF m 14 #[.val (.ref a), .val (.int q), .val (.int z)] [(.int (q - z))])) (fun tZ kZ => XS.isub X3.here hx rfl (hb hby d7_13) rfl kZ) ?_
  refine own_by (S' := T3.setTop (mkF m 38 #[.val (.ref a), .val (.int q), .val (.int z)] [])) (fun tZ kZ => XS.ifYes X3.here hx rfl (pc0 := 14) (pc' := 38) rfl (hb hby d7_14) rfl ((if0 _ _).trans (flt hq).2.2.2) (by decide) (by decide) kZ) ?_
  exact own_ret0 X3 hx Bd.returns (hb hby d7_38) Bd.notSynchronized (by decide) (by decide) ⟨rfl, N0, e3⟩
theorem d6_0 : decode jdk_68_method_31_code 0 = .ok (.aload_n 0, 1) := by decide +kernel
theorem d6_1 : decode jdk_68_method_31_code 1 = .ok (.aload_n 0, 1) := by decide +kernel
theorem d6_2 : decode jdk_68_method_31_code 2 = .ok (.getfield 79, 3) := by decide +kernel
theorem d6_5 : decode jdk_68_method_31_code 5 = .ok (.iconst 1, 1) := by decide +kernel
theorem d6_6 : decode jdk_68_method_31_code 6 = .ok (.iadd, 1) := by decide +kernel
theorem d6_7 : decode jdk_68_method_31_code 7 = .ok (.invokevirtual 100, 3) := by decide +kernel
theorem d6_10 : decode jdk_68_method_31_code 10 = .ok (.aload_n 0, 1) := by decide +kernel
theorem d6_11 : decode jdk_68_method_31_code 11 = .ok (.invokevirtual 83, 3) := by decide +kernel
theorem d6_14 : decode jdk_68_method_31_code 14 = .ok (.ifCond .eq 31, 3) := by decide +kernel
theorem d6_17 : decode jdk_68_method_31_code 17 = .ok (.iload_n 1, 1) := by decide +kernel
theorem d6_18 : decode jdk_68_method_31_code 18 = .ok (.invokestatic 191, 3) := by decide +kernel
theorem d6_21 : decode jdk_68_method_31_code 21 = .ok (.ifCond .eq 24, 3) := by decide +kernel
theorem d6_24 : decode jdk_68_method_31_code 24 = .ok (.aload_n 0, 1) := by decide +kernel
theorem d6_25 : decode jdk_68_method_31_code 25 = .ok (.getfield 15, 3) := by decide +kernel
theorem d6_28 : decode jdk_68_method_31_code 28 = .ok (.aload_n 0, 1) := by decide +kernel
theorem d6_29 : decode jdk_68_method_31_code 29 = .ok (.dup, 1) := by decide +kernel
theorem d6_30 : decode jdk_68_method_31_code 30 = .ok (.getfield 79, 3) := by decide +kernel
theorem d6_33 : decode jdk_68_method_31_code 33 = .ok (.dup_x1, 1) := by decide +kernel
theorem d6_34 : decode jdk_68_method_31_code 34 = .ok (.iconst 1, 1) := by decide +kernel
theorem d6_35 : decode jdk_68_method_31_code 35 = .ok (.iadd, 1) := by decide +kernel
theorem d6_36 : decode jdk_68_method_31_code 36 = .ok (.putfield 79, 3) := by decide +kernel
theorem d6_39 : decode jdk_68_method_31_code 39 = .ok (.iload_n 1, 1) := by decide +kernel
theorem d6_40 : decode jdk_68_method_31_code 40 = .ok (.i2b, 1) := by decide +kernel
theorem d6_41 : decode jdk_68_method_31_code 41 = .ok (.bastore, 1) := by decide +kernel
theorem d6_42 : decode jdk_68_method_31_code 42 = .ok (.goto 33, 3) := by decide +kernel
theorem d6_45 : decode jdk_68_method_31_code 45 = .ok (.aload_n 0, 1) := by decide +kernel
theorem d6_46 : decode jdk_68_method_31_code 46 = .ok (.invokevirtual 83, 3) := by decide +kernel
theorem d6_49 : decode jdk_68_method_31_code 49 = .ok (.ifCond .eq 7, 3) := by decide +kernel
theorem d6_52 : decode jdk_68_method_31_code 52 = .ok (.aload_n 0, 1) := by decide +kernel
theorem d6_53 : decode jdk_68_method_31_code 53 = .ok (.invokevirtual 195, 3) := by decide +kernel
theorem d6_56 : decode jdk_68_method_31_code 56 = .ok (.aload_n 0, 1) := by decide +kernel
theorem d6_57 : decode jdk_68_method_31_code 57 = .ok (.getfield 15, 3) := by decide +kernel
theorem d6_60 : decode jdk_68_method_31_code 60 = .ok (.aload_n 0, 1) := by decide +kernel
theorem d6_61 : decode jdk_68_method_31_code 61 = .ok (.dup, 1) := by decide +kernel
theorem d6_62 : decode jdk_68_method_31_code 62 = .ok (.getfield 79, 3) := by decide +kernel
theorem d6_65 : decode jdk_68_method_31_code 65 = .ok (.dup_x1, 1) := by decide +kernel
theorem d6_66 : decode jdk_68_method_31_code 66 = .ok (.iconst 1, 1) := by decide +kernel
theorem d6_67 : decode jdk_68_method_31_code 67 = .ok (.iadd, 1) := by decide +kernel
theorem d6_68 : decode jdk_68_method_31_code 68 = .ok (.putfield 79, 3) := by decide +kernel
theorem d6_71 : decode jdk_68_method_31_code 71 = .ok (.iload_n 1, 1) := by decide +kernel
theorem d6_72 : decode jdk_68_method_31_code 72 = .ok (.invokestatic 197, 3) := by decide +kernel
theorem d6_75 : decode jdk_68_method_31_code 75 = .ok (.aload_n 0, 1) := by decide +kernel
theorem d6_76 : decode jdk_68_method_31_code 76 = .ok (.areturn, 1) := by decide +kernel
theorem ef_rmAA (m : MethodId) (a : Addr) (q : Int32) : entryFrame m #[(.ref a), (.int q)] 2 = mkF m 0 #[.val (.ref a), .val (.int q)] [] := by first | (simp [entryFrame, mkF, argsToLocals, Value.category, maxLocals]; done) | rfl
set_option maxRecDepth 65536 in
set_option maxHeartbeats 40000000 in
theorem rmAA (l : Launch) (Z : State) (a0 : Array Value) (hw : ∀ d ∈ tables_1, d.before a0 Z = true) (ws : List Jvm.Cond) (a v : Addr) (kv : ClassId) (vs : List Value) (n q z cz : Int32) (h0 : Heap) (n0 : Nat) (Z0 : n0 ≤ h0.size) (B : OwnSB Z h0 a v kv vs n) (hl : vs.length = z.toNatClampNeg) (hz : ¬ z < 0) (hn : ¬ n < 0) (hq : ¬ (0 : Int32) < (n + 1) - z) (hnl : n.toNatClampNeg < vs.length) (hc : ¬ (255 : Int32) < q) (g_a : n0 ≤ a) (g_v : n0 ≤ v) (Sc : Sta Z h0 "java/lang/String" "COMPACT_STRINGS" "Z" (.int cz)) (hcz : ¬ cz = 0) :
    MetFree l (⟨"java/lang/AbstractStringBuilder", "append", "(C)Ljava/lang/AbstractStringBuilder;"⟩ : MethodName) (head1 (Jvm.Cond.code (⟨"java/lang/AbstractStringBuilder", "append", "(C)Ljava/lang/AbstractStringBuilder;"⟩ : MethodName) jdk_68_method_31_code (2 : Nat) (Option.some (Jvm.ClassFile.FieldType.object "java/lang/AbstractStringBuilder")) :: ws) ({ frames := 1, cells := 0, slots := 0, locals := 14 } : Room)) (fun aZ UZ => aZ = #[(.ref a), (.int q)] ∧ Z.Warmed39 UZ.vm ∧ UZ.heap = h0) (fun _ _ _ _ _ => True) (fun _ UZ oZ VZ => ∃ vZ LZ, oZ = .returned vZ ∧ (QSBA Z a v kv (vs.set n.toNatClampNeg (.int q.toInt8.toInt32)) (n + 1) (some (.ref a)) h0 n0) vZ VZ.heap LZ ∧ FrameEnd UZ oZ VZ LZ ({ frames := 1, cells := 0, slots := 0, locals := 14 } : Room).cells ({ frames := 1, cells := 0, slots := 0, locals := 14 } : Room).slots) := by
  refine MetFree.of_bodySF (plainFor_of_name pn_0) hisR ?_
  intro p e s m args below meth c s₁ Bd hml0 hP hK
  obtain ⟨rfl, hZ, hh⟩ := hP
  have hx := Bd.exec
  have hby := Bd.bytes
  have hml : c.maxLocals = 2 := hml0
  have hown : s.vm.findClass "java/lang/AbstractStringBuilder" = some m.cls := findClass_of_methodNamed Bd.named
  have hnm := (name_of_methodNamed Bd.named Bd.method).1
  have X0 : Stand p l e ({ frames := 1, cells := 0, slots := 0, locals := 14 } : Room) s m #[(.ref a), (.int q)] below meth c s₁ [] 0 0 := Stand.of_body Bd
  have e0 : s₁.heap = h0 := by rw [← hh, Bd.state]; rfl
  have N0 := Fr.nil n0
  show OwnG p e below (OwnE s (QSBA Z a v kv (vs.set n.toNatClampNeg (.int q.toInt8.toInt32)) (n + 1) (some (.ref a)) h0 n0) ({ frames := 1, cells := 0, slots := 0, locals := 14 } : Room).cells ({ frames := 1, cells := 0, slots := 0, locals := 14 } : Room).slots) _
  refine own_by (S' := s₁.setTop (mkF m 0 #[.val (.ref a), .val (.int q)] [])) (fun tZ kZ => castTop (ef_rmAA m a q) kZ) ?_
  obtain ⟨Ea, Fv, Fc, Fn, V_v, Ev⟩ := id B
  have ne_a_v : a ≠ v := B.ne (hw _ (List.mem_of_getElem? (i := 7) rfl))
  refine own_by (S' := s₁.setTop (mkF m 1 #[.val (.ref a), .val (.int q)] [(.ref a)])) (fun tZ kZ => XS.aloadN X0.here hx rfl (hb hby d6_0) rfl rfl kZ) ?_
  refine own_by (S' := s₁.setTop (mkF m 2 #[.val (.ref a), .val (.int q)] [(.ref a), (.ref a)])) (fun tZ kZ => XS.aloadN X0.here hx rfl (hb hby d6_1) rfl rfl kZ) ?_
  obtain ⟨T1, X1, e1, st1⟩ := getF X0 hx hZ hown (host := "") (Or.inl (hw _ (List.mem_of_getElem? (i := 39) rfl))) Via.refl e0 Fn (g := (mkF m 2 #[.val (.ref a), .val (.int q)] [(.ref a), (.ref a)])) rfl rfl (hb hby d6_2)
  refine own_by (S' := T1.setTop (mkF m 5 #[.val (.ref a), .val (.int q)] [(.int n), (.ref a)])) st1 ?_
  refine own_by (S' := T1.setTop (mkF m 6 #[.val (.ref a), .val (.int q)] [(.int (1 : Int32)), (.int n), (.ref a)])) (fun tZ kZ => XS.iconst X1.here hx rfl (hb hby d6_5) kZ) ?_
  refine own_by (S' := T1.setTop (mkF m 7 #[.val (.ref a), .val (.int q)] [(.int (n + (1 : Int32))), (.ref a)])) (fun tZ kZ => XS.iadd X1.here hx rfl (hb hby d6_6) rfl kZ) ?_
  obtain ⟨cq2, kq2, q2a, q2b, q2c⟩ := isOf hZ e1 Ea
  obtain ⟨_, _, ⟨T2, L2, k2, n2⟩, -, X2, ⟨Lc2, hQ2, l2, y2, z2⟩, st2⟩ := X1.virtualBack hx (y := (⟨"java/lang/AbstractStringBuilder", "ensureCapacityInternal", "(I)V"⟩ : MethodName)) (z := (⟨"java/lang/AbstractStringBuilder", "ensureCapacityInternal", "(I)V"⟩ : MethodName)) hown (mvT hZ (hw _ (List.mem_of_getElem? (i := 41) rfl))) (mvT hZ (own_decl (hw _ (List.mem_of_getElem? (i := 42) rfl)) (hw _ (List.mem_of_getElem? (i := 45) rfl)))) (notFace_of_selects (args := #[]) (mvT hZ (hw _ (List.mem_of_getElem? (i := 44) rfl)))) (mvT hZ (hw _ (List.mem_of_getElem? (i := 44) rfl))) (mvT hZ (hw _ (List.mem_of_getElem? (i := 42) rfl))) (by decide) (backOf (W := 0) (rmEC l Z a0 hw [] a v kv vs n (n + (1 : Int32)) z h0 n0 Z0 B hl hz hq) hZ (hw _ (List.mem_of_getElem? (i := 45) rfl)) (hw _ (List.mem_of_getElem? (i := 16) rfl)) (by decide) (by decide)) q2a q2c (g := (mkF m 7 #[.val (.ref a), .val (.int q)] [(.int (n + (1 : Int32))), (.ref a)])) rfl (by rw [hml]; rfl) (Steps.refl _) (argsL := [(.int (n + (1 : Int32)))]) (rest := []) (lenOf pd_0 rfl) rfl (by show 2 * 0 + _ ≤ _; exact Nat.le_of_eq rfl) (hb hby d6_7) (fun _ _ => ⟨rfl, e1, (by decide : 0 + 0 ≤ _), (by decide : 0 + 0 ≤ _)⟩)
  dsimp only [Pt.U, Pt.locs, Pt.cells, Pt.slots] at X2 l2 y2 z2 st2 hQ2
  subst l2 y2 z2
  obtain ⟨rfl, N2q, heq2⟩ := hQ2
  have N2 := Fr.app N0 N2q
  refine own_by (S' := T2.setTop (mkF m 10 #[.val (.ref a), .val (.int q)] [])) (fun tZ kZ => st2.trans kZ) ?_
  refine own_by (S' := T2.setTop (mkF m 11 #[.val (.ref a), .val (.int q)] [(.ref a)])) (fun tZ kZ => XS.aloadN X2.here hx rfl (hb hby d6_10) rfl rfl kZ) ?_
  obtain ⟨cq3, kq3, q3a, q3b, q3c⟩ := isOf hZ heq2 Ea
  obtain ⟨_, _, ⟨T3, L3, k3, n3⟩, -, X3, ⟨Lc3, hQ3, l3, y3, z3⟩, st3⟩ := X2.virtualBack hx (y := (⟨"java/lang/AbstractStringBuilder", "isLatin1", "()Z"⟩ : MethodName)) (z := (⟨"java/lang/AbstractStringBuilder", "isLatin1", "()Z"⟩ : MethodName)) hown (mvT hZ (hw _ (List.mem_of_getElem? (i := 46) rfl))) (mvT hZ (hw _ (List.mem_of_getElem? (i := 47) rfl))) (notFace_of_selects (args := #[]) (mvT hZ (hw _ (List.mem_of_getElem? (i := 49) rfl)))) (mvT hZ (hw _ (List.mem_of_getElem? (i := 49) rfl))) (mvT hZ (hw _ (List.mem_of_getElem? (i := 48) rfl))) (by decide) (backOf (W := 0) (rmAL l Z a0 hw [] a cz h0 n0 Z0 Fc Sc hcz) hZ (hw _ (List.mem_of_getElem? (i := 50) rfl)) (hw _ (List.mem_of_getElem? (i := 16) rfl)) (by decide) (by decide)) q3a q3c (g := (mkF m 11 #[.val (.ref a), .val (.int q)] [(.ref a)])) rfl (by rw [hml]; rfl) (Steps.refl _) (argsL := []) (rest := []) (lenOf pd_1 rfl) rfl (by show 2 * 0 + _ ≤ _; exact Nat.le_of_eq rfl) (hb hby d6_11) (fun _ _ => ⟨rfl, heq2, (by decide : 0 + 0 ≤ _), (by decide : 0 + 0 ≤ _)⟩)
  dsimp only [Pt.U, Pt.locs, Pt.cells, Pt.slots] at X3 l3 y3 z3 st3 hQ3
  subst l3 y3 z3
  obtain ⟨rfl, N3q, heq3⟩ := hQ3
  have N3 := Fr.app N2 N3q
  refine own_by (S' := T3.setTop (mkF m 14 #[.val (.ref a), .val (.int q)] [(.int (1 : Int32))])) (fun tZ kZ => st3.trans kZ) ?_
  refine own_by (S' := T3.setTop (mkF m 17 #[.val (.ref a), .val (.int q)] [])) (fun tZ kZ => XS.ifNo X3.here hx rfl (hb hby d6_14) rfl ((if0 _ _).trans (feq (by decide)).1) kZ) ?_
  refine own_by (S' := T3.setTop (mkF m 18 #[.val (.ref a), .val (.int q)] [(.int q)])) (fun tZ kZ => XS.iloadN X3.here hx rfl (hb hby d6_17) rfl kZ) ?_
  obtain ⟨_, _, ⟨T4, L4, k4, n4⟩, -, X4, ⟨Lc4, hQ4, l4, y4, z4⟩, st4⟩ := Jvm.LawKit.callS X3 hx (y := (⟨"java/lang/StringLatin1", "canEncode", "(C)Z"⟩ : MethodName)) hown (mvT hZ (hw _ (List.mem_of_getElem? (i := 51) rfl))) (mvT hZ (hw _ (List.mem_of_getElem? (i := 52) rfl))) (mvT hZ (hw _ (List.mem_of_getElem? (i := 53) rfl))) (mvT hZ (hw _ (List.mem_of_getElem? (i := 54) rfl))) (by decide) (backOf (W := 0) (rmCE l Z a0 hw [] q h0 n0 Z0 hc) hZ (hw _ (List.mem_of_getElem? (i := 54) rfl)) (hw _ (List.mem_of_getElem? (i := 53) rfl)) (by decide) (by decide)) (g := (mkF m 18 #[.val (.ref a), .val (.int q)] [(.int q)])) rfl (by rw [hml]; rfl) (argsL := [(.int q)]) (rest := []) (lenOf pd_2 rfl) rfl (by show 2 * 0 + _ ≤ _; exact Nat.le_of_eq rfl) (hb hby d6_18) (fun _ _ => ⟨rfl, heq3, (by decide : 0 + 0 ≤ _), (by decide : 0 + 0 ≤ _)⟩)
  dsimp only [Pt.U, Pt.locs, Pt.cells, Pt.slots] at X4 l4 y4 z4 st4 hQ4
  subst l4 y4 z4
  obtain ⟨rfl, N4q, heq4⟩ := hQ4
  have N4 := Fr.app N3 N4q
  refine own_by (S' := T4.setTop (mkF m 21 #[.val (.ref a), .val (.int q)] [(.int (1 : Int32))])) (fun tZ kZ => st4 _ kZ) ?_
  refine own_by (S' := T4.setTop (mkF m 24 #[.val (.ref a), .val (.int q)] [])) (fun tZ kZ => XS.ifNo X4.here hx rfl (hb hby d6_21) rfl ((if0 _ _).trans (feq (by decide)).1) kZ) ?_
  refine own_by (S' := T4.setTop (mkF m 25 #[.val (.ref a), .val (.int q)] [(.ref a)])) (fun tZ kZ => XS.aloadN X4.here hx rfl (hb hby d6_24) rfl rfl kZ) ?_
  obtain ⟨T5, X5, e5, st5⟩ := getF X4 hx hZ hown (host := "") (Or.inl (hw _ (List.mem_of_getElem? (i := 23) rfl))) Via.refl heq4 Fv (g := (mkF m 25 #[.val (.ref a), .val (.int q)] [(.ref a)])) rfl rfl (hb hby d6_25)
  refine own_by (S' := T5.setTop (mkF m 28 #[.val (.ref a), .val (.int q)] [(.ref v)])) st5 ?_
  refine own_by (S' := T5.setTop (mkF m 29 #[.val (.ref a), .val (.int q)] [(.ref a), (.ref v)])) (fun tZ kZ => XS.aloadN X5.here hx rfl (hb hby d6_28) rfl rfl kZ) ?_
  refine own_by (S' := T5.setTop (mkF m 30 #[.val (.ref a), .val (.int q)] [(.ref a), (.ref a), (.ref v)])) (fun tZ kZ => XS.dup X5.here hx rfl (hb hby d6_29) rfl rfl kZ) ?_
  obtain ⟨T6, X6, e6, st6⟩ := getF X5 hx hZ hown (host := "") (Or.inl (hw _ (List.mem_of_getElem? (i := 39) rfl))) Via.refl e5 Fn (g := (mkF m 30 #[.val (.ref a), .val (.int q)] [(.ref a), (.ref a), (.ref v)])) rfl rfl (hb hby d6_30)
  refine own_by (S' := T6.setTop (mkF m 33 #[.val (.ref a), .val (.int q)] [(.int n), (.ref a), (.ref v)])) st6 ?_
  refine own_by (S' := T6.setTop (mkF m 34 #[.val (.ref a), .val (.int q)] [(.int n), (.ref a), (.int n), (.ref v)])) (fun tZ kZ => XS.dupX1 X6.here hx rfl (hb hby d6_33) rfl rfl rfl kZ) ?_
  refine own_by (S' := T6.setTop (mkF m 35 #[.val (.ref a), .val (.int q)] [(.int (1 : Int32)), (.int n), (.ref a), (.int n), (.ref v)])) (fun tZ kZ => XS.iconst X6.here hx rfl (hb hby d6_34) kZ) ?_
  refine own_by (S' := T6.setTop (mkF m 36 #[.val (.ref a), .val (.int q)] [(.int (n + (1 : Int32))), (.ref a), (.int n), (.ref v)])) (fun tZ kZ => XS.iadd X6.here hx rfl (hb hby d6_35) rfl kZ) ?_
  obtain ⟨T7, h7, X7, e7, W7, st7⟩ := putF X6 hx hZ hown (host := "") (Or.inl (hw _ (List.mem_of_getElem? (i := 39) rfl))) Via.refl e6 Fn Ea (Or.inl (hw _ (List.mem_of_getElem? (i := 40) rfl))) (hw _ (List.mem_of_getElem? (i := 7) rfl)) (ty := .int) (by decide) rfl rfl (g := (mkF m 36 #[.val (.ref a), .val (.int q)] [(.int (n + (1 : Int32))), (.ref a), (.int n), (.ref v)])) rfl rfl (hb hby d6_36)
  have N7 := Fr.snoc X7 N4 g_a
  have Ea_7 := Ea.wr W7
  have Fv_7 := Fv.other W7 (Or.inr (slot_ne (Or.inl (hw _ (List.mem_of_getElem? (i := 24) rfl))) (Or.inl (hw _ (List.mem_of_getElem? (i := 40) rfl))) (by decide) (t := (.array .byte)) (t' := .int) (by decide) (by decide)))
  have Fc_7 := Fc.other W7 (Or.inr (slot_ne (Or.inl (hw _ (List.mem_of_getElem? (i := 26) rfl))) (Or.inl (hw _ (List.mem_of_getElem? (i := 40) rfl))) (by decide) (t := .byte) (t' := .int) (by decide) (by decide)))
  have Fn_7 := Fn.same W7
  have V_v_7 := V_v.other W7 (Ne.symm ne_a_v)
  have Ev_7 := Ev.wr W7
  have Zs7 : n0 ≤ h7.size := Nat.le_trans Z0 (Keep.of_wr W7).1
  have K7 := (Keep.refl h0 [a, v]).wr W7 (Or.inl (List.mem_of_getElem? (i := 0) rfl))
  refine own_by (S' := T7.setTop (mkF m 39 #[.val (.ref a), .val (.int q)] [(.int n), (.ref v)])) st7 ?_
  refine own_by (S' := T7.setTop (mkF m 40 #[.val (.ref a), .val (.int q)] [(.int q), (.int n), (.ref v)])) (fun tZ kZ => XS.iloadN X7.here hx rfl (hb hby d6_39) rfl kZ) ?_
  refine own_by (S' := T7.setTop (mkF m 41 #[.val (.ref a), .val (.int q)] [(.int (q.toInt8.toInt32)), (.int n), (.ref v)])) (fun tZ kZ => XS.i2b X7.here hx rfl (hb hby d6_40) rfl kZ) ?_
  obtain ⟨cc8, Ar8, hc8, hl8⟩ := id V_v_7
  have hin8 := OwnA.inb (j := n) hl8 hn hnl
  obtain ⟨T8, h8, X8, e8, W8, st8⟩ := stB X7 hx hZ e7 Ar8 (j := n) hin8 (g := (mkF m 41 #[.val (.ref a), .val (.int q)] [(.int (q.toInt8.toInt32)), (.int n), (.ref v)])) rfl rfl (hb hby d6_41)
  have N8 := Fr.snoc X8 N7 g_v
  have Ea_8 := Ea_7.wr W8
  have Fv_8 := Fv_7.other W8 (Or.inl ne_a_v)
  have Fc_8 := Fc_7.other W8 (Or.inl ne_a_v)
  have Fn_8 := Fn_7.other W8 (Or.inl ne_a_v)
  have Ev_8 := Ev_7.wr W8
  have Zs8 : n0 ≤ h8.size := Nat.le_trans Zs7 (Keep.of_wr W8).1
  have K8 := K7.wr W8 (Or.inl (List.mem_of_getElem? (i := 1) rfl))
  have V_v_w8 := V_v_7.set W8
  refine own_by (S' := T8.setTop (mkF m 42 #[.val (.ref a), .val (.int q)] [])) st8 ?_
  refine own_by (S' := T8.setTop (mkF m 75 #[.val (.ref a), .val (.int q)] [])) (fun tZ kZ => XS.goto X8.here hx rfl (pc0 := 42) (pc' := 75) rfl (hb hby d6_42) (by decide) (by decide) kZ) ?_
  refine own_by (S' := T8.setTop (mkF m 76 #[.val (.ref a), .val (.int q)] [(.ref a)])) (fun tZ kZ => XS.aloadN X8.here hx rfl (hb hby d6_75) rfl rfl kZ) ?_
  exact own_retA X8 hx Bd.returns rfl rfl (hb hby d6_76) Bd.notSynchronized (by decide) (by decide) (show QSBA Z a v kv (vs.set n.toNatClampNeg (.int q.toInt8.toInt32)) (n + 1) (some (.ref a)) h0 n0 _ T8.heap _ from by rw [e8]; exact ⟨rfl, N8, K8, Ea_8, Fv_8, Fc_8, Fn_8, (own_b2b q ▸ V_v_w8), Ev_8⟩)
theorem d5_0 : decode jdk_67_method_14_code 0 = .ok (.aload_n 0, 1) := by decide +kernel
theorem d5_1 : decode jdk_67_method_14_code 1 = .ok (.iload_n 1, 1) := by decide +kernel
theorem d5_2 : decode jdk_67_method_14_code 2 = .ok (.invokespecial 50, 3) := by decide +kernel
theorem d5_5 : decode jdk_67_method_14_code 5 = .ok (.pop, 1) := by decide +kernel
theorem d5_6 : decode jdk_67_method_14_code 6 = .ok (.aload_n 0, 1) := by decide +kernel
theorem d5_7 : decode jdk_67_method_14_code 7 = .ok (.areturn, 1) := by decide +kernel
theorem ef_rmSA (m : MethodId) (a : Addr) (q : Int32) : entryFrame m #[(.ref a), (.int q)] 2 = mkF m 0 #[.val (.ref a), .val (.int q)] [] := by first | (simp [entryFrame, mkF, argsToLocals, Value.category, maxLocals]; done) | rfl
set_option maxRecDepth 65536 in
set_option maxHeartbeats 40000000 in
theorem rmSA (l : Launch) (Z : State) (a0 : Array Value) (hw : ∀ d ∈ tables_1, d.before a0 Z = true) (ws : List Jvm.Cond) (a v : Addr) (kv : ClassId) (vs : List Value) (n q z cz : Int32) (h0 : Heap) (n0 : Nat) (Z0 : n0 ≤ h0.size) (B : OwnSB Z h0 a v kv vs n) (hl : vs.length = z.toNatClampNeg) (hz : ¬ z < 0) (hn : ¬ n < 0) (hq : ¬ (0 : Int32) < (n + 1) - z) (hnl : n.toNatClampNeg < vs.length) (hc : ¬ (255 : Int32) < q) (g_a : n0 ≤ a) (g_v : n0 ≤ v) (Sc : Sta Z h0 "java/lang/String" "COMPACT_STRINGS" "Z" (.int cz)) (hcz : ¬ cz = 0) :
    MetFree l (⟨"java/lang/StringBuilder", "append", "(C)Ljava/lang/StringBuilder;"⟩ : MethodName) (head1 (Jvm.Cond.code (⟨"java/lang/StringBuilder", "append", "(C)Ljava/lang/StringBuilder;"⟩ : MethodName) jdk_67_method_14_code (2 : Nat) (Option.some (Jvm.ClassFile.FieldType.object "java/lang/StringBuilder")) :: ws) ({ frames := 2, cells := 0, slots := 0, locals := 27 } : Room)) (fun aZ UZ => aZ = #[(.ref a), (.int q)] ∧ Z.Warmed39 UZ.vm ∧ UZ.heap = h0) (fun _ _ _ _ _ => True) (fun _ UZ oZ VZ => ∃ vZ LZ, oZ = .returned vZ ∧ (QSBA Z a v kv (vs.set n.toNatClampNeg (.int q.toInt8.toInt32)) (n + 1) (some (.ref a)) h0 n0) vZ VZ.heap LZ ∧ FrameEnd UZ oZ VZ LZ ({ frames := 2, cells := 0, slots := 0, locals := 27 } : Room).cells ({ frames := 2, cells := 0, slots := 0, locals := 27 } : Room).slots) := by
  refine MetFree.of_bodySF (plainFor_of_name pn_1) hisR ?_
  intro p e s m args below meth c s₁ Bd hml0 hP hK
  obtain ⟨rfl, hZ, hh⟩ := hP
  have hx := Bd.exec
  have hby := Bd.bytes
  have hml : c.maxLocals = 2 := hml0
  have hown : s.vm.findClass "java/lang/StringBuilder" = some m.cls := findClass_of_methodNamed Bd.named
  have hnm := (name_of_methodNamed Bd.named Bd.method).1
  have X0 : Stand p l e ({ frames := 2, cells := 0, slots := 0, locals := 27 } : Room) s m #[(.ref a), (.int q)] below meth c s₁ [] 0 0 := Stand.of_body Bd
  have e0 : s₁.heap = h0 := by rw [← hh, Bd.state]; rfl
  have N0 := Fr.nil n0
  show OwnG p e below (OwnE s (QSBA Z a v kv (vs.set n.toNatClampNeg (.int q.toInt8.toInt32)) (n + 1) (some (.ref a)) h0 n0) ({ frames := 2, cells := 0, slots := 0, locals := 27 } : Room).cells ({ frames := 2, cells := 0, slots := 0, locals := 27 } : Room).slots) _
  refine own_by (S' := s₁.setTop (mkF m 0 #[.val (.ref a), .val (.int q)] [])) (fun tZ kZ => castTop (ef_rmSA m a q) kZ) ?_
  refine own_by (S' := s₁.setTop (mkF m 1 #[.val (.ref a), .val (.int q)] [(.ref a)])) (fun tZ kZ => XS.aloadN X0.here hx rfl (hb hby d5_0) rfl rfl kZ) ?_
  refine own_by (S' := s₁.setTop (mkF m 2 #[.val (.ref a), .val (.int q)] [(.int q), (.ref a)])) (fun tZ kZ => XS.iloadN X0.here hx rfl (hb hby d5_1) rfl kZ) ?_
  obtain ⟨_, _, ⟨T1, L1, k1, n1⟩, -, X1, ⟨Lc1, hQ1, l1, y1, z1⟩, st1⟩ := superBack X0 hx hZ (y := (⟨"java/lang/AbstractStringBuilder", "append", "(C)Ljava/lang/AbstractStringBuilder;"⟩ : MethodName)) hown (hw _ (List.mem_of_getElem? (i := 34) rfl)) (own_same (y := (⟨"java/lang/AbstractStringBuilder", "append", "(C)Ljava/lang/AbstractStringBuilder;"⟩ : MethodName)) (hw _ (List.mem_of_getElem? (i := 37) rfl)) (hw _ (List.mem_of_getElem? (i := 44) rfl)) rfl (by decide)) (hw _ (List.mem_of_getElem? (i := 35) rfl)) (hw _ (List.mem_of_getElem? (i := 36) rfl)) (by decide) (backOf (W := 0) (rmAA l Z a0 hw [] a v kv vs n q z cz h0 n0 Z0 B hl hz hn hq hnl hc g_a g_v Sc hcz) hZ (hw _ (List.mem_of_getElem? (i := 38) rfl)) (hw _ (List.mem_of_getElem? (i := 16) rfl)) (by decide) (by decide)) e0 (Ins.self B.1) (g := (mkF m 2 #[.val (.ref a), .val (.int q)] [(.int q), (.ref a)])) rfl (by rw [hml]; rfl) (hw _ (List.mem_of_getElem? (i := 38) rfl)) (argsL := [(.int q)]) (rest := []) (lenOf pd_3 rfl) rfl (by show 2 * 0 + _ ≤ _; exact Nat.le_of_eq rfl) (hb hby d5_2) (fun _ _ => ⟨rfl, e0, (by decide : 0 + 0 ≤ _), (by decide : 0 + 0 ≤ _)⟩)
  dsimp only [Pt.U, Pt.locs, Pt.cells, Pt.slots] at X1 l1 y1 z1 st1 hQ1
  subst l1 y1 z1
  obtain ⟨rfl, N1q, Kc1, R1⟩ := hQ1
  have N1 := Fr.app N0 N1q
  refine own_by (S' := T1.setTop (mkF m 5 #[.val (.ref a), .val (.int q)] [(.ref a)])) (fun tZ kZ => st1.trans kZ) ?_
  refine own_by (S' := T1.setTop (mkF m 6 #[.val (.ref a), .val (.int q)] [])) (fun tZ kZ => XS.pop X1.here hx rfl (hb hby d5_5) rfl rfl kZ) ?_
  refine own_by (S' := T1.setTop (mkF m 7 #[.val (.ref a), .val (.int q)] [(.ref a)])) (fun tZ kZ => XS.aloadN X1.here hx rfl (hb hby d5_6) rfl rfl kZ) ?_
  exact own_retA X1 hx Bd.returns rfl rfl (hb hby d5_7) Bd.notSynchronized (by decide) (by decide) ⟨rfl, N1, Kc1, R1⟩
theorem d13_0 : decode jdk_68_method_64_code 0 = .ok (.aload_n 0, 1) := by decide +kernel
theorem d13_1 : decode jdk_68_method_64_code 1 = .ok (.getfield 15, 3) := by decide +kernel
theorem d13_4 : decode jdk_68_method_64_code 4 = .ok (.areturn, 1) := by decide +kernel
theorem ef_rmGV (m : MethodId) (a : Addr) : entryFrame m #[(.ref a)] 1 = mkF m 0 #[.val (.ref a)] [] := by first | (simp [entryFrame, mkF, argsToLocals, Value.category, maxLocals]; done) | rfl
set_option maxRecDepth 65536 in
set_option maxHeartbeats 40000000 in
theorem rmGV (l : Launch) (Z : State) (a0 : Array Value) (hw : ∀ d ∈ tables_1, d.before a0 Z = true) (ws : List Jvm.Cond) (a v : Addr) (kv : ClassId) (vs : List Value) (n : Int32) (h0 : Heap) (n0 : Nat) (Z0 : n0 ≤ h0.size) (B : OwnSB Z h0 a v kv vs n) :
    MetFree l (⟨"java/lang/AbstractStringBuilder", "getValue", "()[B"⟩ : MethodName) (head1 (Jvm.Cond.code (⟨"java/lang/AbstractStringBuilder", "getValue", "()[B"⟩ : MethodName) jdk_68_method_64_code (1 : Nat) (Option.some (Jvm.ClassFile.FieldType.array Jvm.ClassFile.FieldType.byte)) :: ws) ({ frames := 0, cells := 0, slots := 0, locals := 0 } : Room)) (fun aZ UZ => aZ = #[(.ref a)] ∧ Z.Warmed39 UZ.vm ∧ UZ.heap = h0) (fun _ _ _ _ _ => True) (fun _ UZ oZ VZ => ∃ vZ LZ, oZ = .returned vZ ∧ (QSame (some (.ref v)) h0 n0) vZ VZ.heap LZ ∧ FrameEnd UZ oZ VZ LZ ({ frames := 0, cells := 0, slots := 0, locals := 0 } : Room).cells ({ frames := 0, cells := 0, slots := 0, locals := 0 } : Room).slots) := by
  refine MetFree.of_bodySF (plainFor_of_name pn_0) hisR ?_
  intro p e s m args below meth c s₁ Bd hml0 hP hK
  obtain ⟨rfl, hZ, hh⟩ := hP
  have hx := Bd.exec
  have hby := Bd.bytes
  have hml : c.maxLocals = 1 := hml0
  have hown : s.vm.findClass "java/lang/AbstractStringBuilder" = some m.cls := findClass_of_methodNamed Bd.named
  have hnm := (name_of_methodNamed Bd.named Bd.method).1
  have X0 : Stand p l e ({ frames := 0, cells := 0, slots := 0, locals := 0 } : Room) s m #[(.ref a)] below meth c s₁ [] 0 0 := Stand.of_body Bd
  have e0 : s₁.heap = h0 := by rw [← hh, Bd.state]; rfl
  have N0 := Fr.nil n0
  show OwnG p e below (OwnE s (QSame (some (.ref v)) h0 n0) ({ frames := 0, cells := 0, slots := 0, locals := 0 } : Room).cells ({ frames := 0, cells := 0, slots := 0, locals := 0 } : Room).slots) _
  refine own_by (S' := s₁.setTop (mkF m 0 #[.val (.ref a)] [])) (fun tZ kZ => castTop (ef_rmGV m a) kZ) ?_
  refine own_by (S' := s₁.setTop (mkF m 1 #[.val (.ref a)] [(.ref a)])) (fun tZ kZ => XS.aloadN X0.here hx rfl (hb hby d13_0) rfl rfl kZ) ?_
  obtain ⟨T1, X1, e1, st1⟩ := getF X0 hx hZ hown (host := "") (Or.inl (hw _ (List.mem_of_getElem? (i := 23) rfl))) Via.refl e0 B.2.1 (g := (mkF m 1 #[.val (.ref a)] [(.ref a)])) rfl rfl (hb hby d13_1)
  refine own_by (S' := T1.setTop (mkF m 4 #[.val (.ref a)] [(.ref v)])) st1 ?_
  exact own_retA X1 hx Bd.returns rfl rfl (hb hby d13_4) Bd.notSynchronized (by decide) (by decide) ⟨rfl, N0, e1⟩
theorem d15_0 : decode jdk_68_method_6_code 0 = .ok (.aload_n 0, 1) := by decide +kernel
theorem d15_1 : decode jdk_68_method_6_code 1 = .ok (.getfield 79, 3) := by decide +kernel
theorem d15_4 : decode jdk_68_method_6_code 4 = .ok (.ireturn, 1) := by decide +kernel
theorem ef_rmAN (m : MethodId) (a : Addr) : entryFrame m #[(.ref a)] 1 = mkF m 0 #[.val (.ref a)] [] := by first | (simp [entryFrame, mkF, argsToLocals, Value.category, maxLocals]; done) | rfl
set_option maxRecDepth 65536 in
set_option maxHeartbeats 40000000 in
theorem rmAN (l : Launch) (Z : State) (a0 : Array Value) (hw : ∀ d ∈ tables_1, d.before a0 Z = true) (ws : List Jvm.Cond) (a v : Addr) (kv : ClassId) (vs : List Value) (n : Int32) (h0 : Heap) (n0 : Nat) (Z0 : n0 ≤ h0.size) (B : OwnSB Z h0 a v kv vs n) :
    MetFree l (⟨"java/lang/AbstractStringBuilder", "length", "()I"⟩ : MethodName) (head1 (Jvm.Cond.code (⟨"java/lang/AbstractStringBuilder", "length", "()I"⟩ : MethodName) jdk_68_method_6_code (1 : Nat) (Option.some Jvm.ClassFile.FieldType.int) :: ws) ({ frames := 0, cells := 0, slots := 0, locals := 0 } : Room)) (fun aZ UZ => aZ = #[(.ref a)] ∧ Z.Warmed39 UZ.vm ∧ UZ.heap = h0) (fun _ _ _ _ _ => True) (fun _ UZ oZ VZ => ∃ vZ LZ, oZ = .returned vZ ∧ (QSame (some (.int n)) h0 n0) vZ VZ.heap LZ ∧ FrameEnd UZ oZ VZ LZ ({ frames := 0, cells := 0, slots := 0, locals := 0 } : Room).cells ({ frames := 0, cells := 0, slots := 0, locals := 0 } : Room).slots) := by
  refine MetFree.of_bodySF (plainFor_of_name pn_0) hisR ?_
  intro p e s m args below meth c s₁ Bd hml0 hP hK
  obtain ⟨rfl, hZ, hh⟩ := hP
  have hx := Bd.exec
  have hby := Bd.bytes
  have hml : c.maxLocals = 1 := hml0
  have hown : s.vm.findClass "java/lang/AbstractStringBuilder" = some m.cls := findClass_of_methodNamed Bd.named
  have hnm := (name_of_methodNamed Bd.named Bd.method).1
  have X0 : Stand p l e ({ frames := 0, cells := 0, slots := 0, locals := 0 } : Room) s m #[(.ref a)] below meth c s₁ [] 0 0 := Stand.of_body Bd
  have e0 : s₁.heap = h0 := by rw [← hh, Bd.state]; rfl
  have N0 := Fr.nil n0
  show OwnG p e below (OwnE s (QSame (some (.int n)) h0 n0) ({ frames := 0, cells := 0, slots := 0, locals := 0 } : Room).cells ({ frames := 0, cells := 0, slots := 0, locals := 0 } : Room).slots) _
  refine own_by (S' := s₁.setTop (mkF m 0 #[.val (.ref a)] [])) (fun tZ kZ => castTop (ef_rmAN m a) kZ) ?_
  refine own_by (S' := s₁.setTop (mkF m 1 #[.val (.ref a)] [(.ref a)])) (fun tZ kZ => XS.aloadN X0.here hx rfl (hb hby d15_0) rfl rfl kZ) ?_
  obtain ⟨T1, X1, e1, st1⟩ := getF X0 hx hZ hown (host := "") (Or.inl (hw _ (List.mem_of_getElem? (i := 39) rfl))) Via.refl e0 B.2.2.2.1 (g := (mkF m 1 #[.val (.ref a)] [(.ref a)])) rfl rfl (hb hby d15_1)
  refine own_by (S' := T1.setTop (mkF m 4 #[.val (.ref a)] [(.int n)])) st1 ?_
  exact own_retI X1 hx (t := .int) Bd.returns (by simp) rfl (hb hby d15_4) Bd.notSynchronized (by decide) (by decide) ⟨rfl, N0, e1⟩
theorem d14_0 : decode jdk_67_method_93_code 0 = .ok (.aload_n 0, 1) := by decide +kernel
theorem d14_1 : decode jdk_67_method_93_code 1 = .ok (.invokespecial 343, 3) := by decide +kernel
theorem d14_4 : decode jdk_67_method_93_code 4 = .ok (.ireturn, 1) := by decide +kernel
theorem ef_rmSN (m : MethodId) (a : Addr) : entryFrame m #[(.ref a)] 1 = mkF m 0 #[.val (.ref a)] [] := by first | (simp [entryFrame, mkF, argsToLocals, Value.category, maxLocals]; done) | rfl
set_option maxRecDepth 65536 in
set_option maxHeartbeats 40000000 in
theorem rmSN (l : Launch) (Z : State) (a0 : Array Value) (hw : ∀ d ∈ tables_1, d.before a0 Z = true) (ws : List Jvm.Cond) (a v : Addr) (kv : ClassId) (vs : List Value) (n : Int32) (h0 : Heap) (n0 : Nat) (Z0 : n0 ≤ h0.size) (B : OwnSB Z h0 a v kv vs n) :
    MetFree l (⟨"java/lang/StringBuilder", "length", "()I"⟩ : MethodName) (head1 (Jvm.Cond.code (⟨"java/lang/StringBuilder", "length", "()I"⟩ : MethodName) jdk_67_method_93_code (1 : Nat) (Option.some Jvm.ClassFile.FieldType.int) :: ws) ({ frames := 1, cells := 0, slots := 0, locals := 12 } : Room)) (fun aZ UZ => aZ = #[(.ref a)] ∧ Z.Warmed39 UZ.vm ∧ UZ.heap = h0) (fun _ _ _ _ _ => True) (fun _ UZ oZ VZ => ∃ vZ LZ, oZ = .returned vZ ∧ (QSame (some (.int n)) h0 n0) vZ VZ.heap LZ ∧ FrameEnd UZ oZ VZ LZ ({ frames := 1, cells := 0, slots := 0, locals := 12 } : Room).cells ({ frames := 1, cells := 0, slots := 0, locals := 12 } : Room).slots) := by
  refine MetFree.of_bodySF (plainFor_of_name pn_1) hisR ?_
  intro p e s m args below meth c s₁ Bd hml0 hP hK
  obtain ⟨rfl, hZ, hh⟩ := hP
  have hx := Bd.exec
  have hby := Bd.bytes
  have hml : c.maxLocals = 1 := hml0
  have hown : s.vm.findClass "java/lang/StringBuilder" = some m.cls := findClass_of_methodNamed Bd.named
  have hnm := (name_of_methodNamed Bd.named Bd.method).1
  have X0 : Stand p l e ({ frames := 1, cells := 0, slots := 0, locals := 12 } : Room) s m #[(.ref a)] below meth c s₁ [] 0 0 := Stand.of_body Bd
  have e0 : s₁.heap = h0 := by rw [← hh, Bd.state]; rfl
  have N0 := Fr.nil n0
  show OwnG p e below (OwnE s (QSame (some (.int n)) h0 n0) ({ frames := 1, cells := 0, slots := 0, locals := 12 } : Room).cells ({ frames := 1, cells := 0, slots := 0, locals := 12 } : Room).slots) _
  refine own_by (S' := s₁.setTop (mkF m 0 #[.val (.ref a)] [])) (fun tZ kZ => castTop (ef_rmSN m a) kZ) ?_
  refine own_by (S' := s₁.setTop (mkF m 1 #[.val (.ref a)] [(.ref a)])) (fun tZ kZ => XS.aloadN X0.here hx rfl (hb hby d14_0) rfl rfl kZ) ?_
  obtain ⟨_, _, ⟨T1, L1, k1, n1⟩, -, X1, ⟨Lc1, hQ1, l1, y1, z1⟩, st1⟩ := superBack X0 hx hZ (y := (⟨"java/lang/AbstractStringBuilder", "length", "()I"⟩ : MethodName)) hown (hw _ (List.mem_of_getElem? (i := 81) rfl)) (own_same (y := (⟨"java/lang/AbstractStringBuilder", "length", "()I"⟩ : MethodName)) (hw _ (List.mem_of_getElem? (i := 76) rfl)) (hw _ (List.mem_of_getElem? (i := 44) rfl)) rfl (by decide)) (hw _ (List.mem_of_getElem? (i := 77) rfl)) (hw _ (List.mem_of_getElem? (i := 36) rfl)) (by decide) (backOf (W := 0) (rmAN l Z a0 hw [] a v kv vs n h0 n0 Z0 B) hZ (hw _ (List.mem_of_getElem? (i := 82) rfl)) (hw _ (List.mem_of_getElem? (i := 16) rfl)) (by decide) (by decide)) e0 (Ins.self B.1) (g := (mkF m 1 #[.val (.ref a)] [(.ref a)])) rfl (by rw [hml]; rfl) (hw _ (List.mem_of_getElem? (i := 82) rfl)) (argsL := []) (rest := []) (lenOf pd_4 rfl) rfl (by show 2 * 0 + _ ≤ _; exact Nat.le_of_eq rfl) (hb hby d14_1) (fun _ _ => ⟨rfl, e0, (by decide : 0 + 0 ≤ _), (by decide : 0 + 0 ≤ _)⟩)
  dsimp only [Pt.U, Pt.locs, Pt.cells, Pt.slots] at X1 l1 y1 z1 st1 hQ1
  subst l1 y1 z1
  obtain ⟨rfl, N1q, heq1⟩ := hQ1
  have N1 := Fr.app N0 N1q
  refine own_by (S' := T1.setTop (mkF m 4 #[.val (.ref a)] [(.int n)])) (fun tZ kZ => st1.trans kZ) ?_
  exact own_retI X1 hx (t := .int) Bd.returns (by simp) rfl (hb hby d14_4) Bd.notSynchronized (by decide) (by decide) ⟨rfl, N1, heq1⟩
def QRng (Z : State) (vs : List Value) (h0 : Heap) (n0 : Nat) (v : Option Value) (h : Heap) (L : List Loc) : Prop := ∃ b kb, v = some (.ref b) ∧ Fr n0 L ∧ Keep h0 h [] ∧ n0 ≤ b ∧ h0.size ≤ b ∧ OwnA Z h b kb .byte vs
def QStr (Z : State) (vs : List Value) (h0 : Heap) (n0 : Nat) (v : Option Value) (h : Heap) (L : List Loc) : Prop := ∃ r b kb, v = some (.ref r) ∧ Fr n0 L ∧ Keep h0 h [] ∧ Exa Z h r "java/lang/String" ∧ Fld Z h r "java/lang/String" "value" "[B" (.ref b) ∧ Fld Z h r "java/lang/String" "coder" "B" (.int 0) ∧ OwnA Z h b kb .byte vs
def QStrI (Z : State) (r : Addr) (vs : List Value) (h0 : Heap) (n0 : Nat) (v : Option Value) (h : Heap) (L : List Loc) : Prop := v = none ∧ Fr n0 L ∧ Keep h0 h [r] ∧ Exa Z h r "java/lang/String" ∧ ∃ b kb, Fld Z h r "java/lang/String" "value" "[B" (.ref b) ∧ Fld Z h r "java/lang/String" "coder" "B" (.int 0) ∧ OwnA Z h b kb .byte vs
theorem own_size_le {vs : List Value} {c : Cell} {n : Int32} {k : Nat} (h : c.slots.toList = vs) (hl : vs.length = n.toNatClampNeg) (hk : n.toNatClampNeg ≤ k) : c.slots.size ≤ k := by rw [OwnA.size h hl]; exact hk
theorem own_fitC {Z : State} {h : Heap} {a : Addr} {c : Cell} {ty : FieldType} {vs : List Value} (A : Arr Z h a c ty) (hv : c.slots.toList = vs) (hf : ∀ v ∈ vs, fits ty v = true) : FitC Z c := fitC_of A fun i hi v e => hf v (by rw [← hv]; exact List.mem_of_getElem? (by rw [Array.getElem?_toList]; exact e))
theorem d16_0 : decode jdk_65_method_132_code 0 = .ok (.iload_n 1, 1) := by decide +kernel
theorem d16_1 : decode jdk_65_method_132_code 1 = .ok (.ifCond .ne 9, 3) := by decide +kernel
theorem d16_4 : decode jdk_65_method_132_code 4 = .ok (.iload_n 2, 1) := by decide +kernel
theorem d16_5 : decode jdk_65_method_132_code 5 = .ok (.aload_n 0, 1) := by decide +kernel
theorem d16_6 : decode jdk_65_method_132_code 6 = .ok (.arraylength, 1) := by decide +kernel
theorem d16_7 : decode jdk_65_method_132_code 7 = .ok (.if_icmp .eq 10, 3) := by decide +kernel
theorem d16_10 : decode jdk_65_method_132_code 10 = .ok (.aload_n 0, 1) := by decide +kernel
theorem d16_11 : decode jdk_65_method_132_code 11 = .ok (.iload_n 1, 1) := by decide +kernel
theorem d16_12 : decode jdk_65_method_132_code 12 = .ok (.iload_n 2, 1) := by decide +kernel
theorem d16_13 : decode jdk_65_method_132_code 13 = .ok (.invokestatic 339, 3) := by decide +kernel
theorem d16_16 : decode jdk_65_method_132_code 16 = .ok (.areturn, 1) := by decide +kernel
theorem d16_17 : decode jdk_65_method_132_code 17 = .ok (.aload_n 0, 1) := by decide +kernel
theorem d16_18 : decode jdk_65_method_132_code 18 = .ok (.invokevirtual 310, 3) := by decide +kernel
theorem d16_21 : decode jdk_65_method_132_code 21 = .ok (.checkcast 311, 3) := by decide +kernel
theorem d16_24 : decode jdk_65_method_132_code 24 = .ok (.areturn, 1) := by decide +kernel
theorem pn_3 : plainName "java/util/Arrays" = true := by first | (simp [plainName, overriddenIn]; done) | decide +kernel
theorem ef_rmCR (m : MethodId) (v : Addr) (n : Int32) : entryFrame m #[(.ref v), (.int (0 : Int32)), (.int n)] 3 = mkF m 0 #[.val (.ref v), .val (.int (0 : Int32)), .val (.int n)] [] := by first | (simp [entryFrame, mkF, argsToLocals, Value.category, maxLocals]; done) | rfl
set_option maxRecDepth 65536 in
set_option maxHeartbeats 40000000 in
theorem rmCR (l : Launch) (Z : State) (a0 : Array Value) (hw : ∀ d ∈ tables_1, d.before a0 Z = true) (ws : List Jvm.Cond) (kv : ClassId) (vs : List Value) (v : Addr) (n : Int32) (h0 : Heap) (n0 : Nat) (Z0 : n0 ≤ h0.size) (V : OwnA Z h0 v kv .byte vs) (Ev : Exa Z h0 v "[B") (hl : vs.length = n.toNatClampNeg) (hn : ¬ n < 0) (hcap : n.toNatClampNeg ≤ 13) (hfit : ∀ v ∈ vs, fits .byte v = true) :
    MetFree l (⟨"java/util/Arrays", "copyOfRange", "([BII)[B"⟩ : MethodName) (head1 (Jvm.Cond.code (⟨"java/util/Arrays", "copyOfRange", "([BII)[B"⟩ : MethodName) jdk_65_method_132_code (3 : Nat) (Option.some (Jvm.ClassFile.FieldType.array Jvm.ClassFile.FieldType.byte)) :: ws) ({ frames := 1, cells := 1, slots := 13, locals := 14 } : Room)) (fun aZ UZ => aZ = #[(.ref v), (.int (0 : Int32)), (.int n)] ∧ Z.Warmed39 UZ.vm ∧ UZ.heap = h0) (fun _ _ _ _ _ => True) (fun _ UZ oZ VZ => ∃ vZ LZ, oZ = .returned vZ ∧ (QRng Z vs h0 n0) vZ VZ.heap LZ ∧ FrameEnd UZ oZ VZ LZ ({ frames := 1, cells := 1, slots := 13, locals := 14 } : Room).cells ({ frames := 1, cells := 1, slots := 13, locals := 14 } : Room).slots) := by
  refine MetFree.of_bodySF (plainFor_of_name pn_3) hisR ?_
  intro p e s m args below meth c s₁ Bd hml0 hP hK
  obtain ⟨rfl, hZ, hh⟩ := hP
  have hx := Bd.exec
  have hby := Bd.bytes
  have hml : c.maxLocals = 3 := hml0
  have hown : s.vm.findClass "java/util/Arrays" = some m.cls := findClass_of_methodNamed Bd.named
  have hnm := (name_of_methodNamed Bd.named Bd.method).1
  have X0 : Stand p l e ({ frames := 1, cells := 1, slots := 13, locals := 14 } : Room) s m #[(.ref v), (.int (0 : Int32)), (.int n)] below meth c s₁ [] 0 0 := Stand.of_body Bd
  have e0 : s₁.heap = h0 := by rw [← hh, Bd.state]; rfl
  have N0 := Fr.nil n0
  show OwnG p e below (OwnE s (QRng Z vs h0 n0) ({ frames := 1, cells := 1, slots := 13, locals := 14 } : Room).cells ({ frames := 1, cells := 1, slots := 13, locals := 14 } : Room).slots) _
  refine own_by (S' := s₁.setTop (mkF m 0 #[.val (.ref v), .val (.int (0 : Int32)), .val (.int n)] [])) (fun tZ kZ => castTop (ef_rmCR m v n) kZ) ?_
  refine own_by (S' := s₁.setTop (mkF m 1 #[.val (.ref v), .val (.int (0 : Int32)), .val (.int n)] [(.int (0 : Int32))])) (fun tZ kZ => XS.iloadN X0.here hx rfl (hb hby d16_0) rfl kZ) ?_
  refine own_by (S' := s₁.setTop (mkF m 4 #[.val (.ref v), .val (.int (0 : Int32)), .val (.int n)] [])) (fun tZ kZ => XS.ifNo X0.here hx rfl (hb hby d16_1) rfl ((if0 _ _).trans (teq rfl).2) kZ) ?_
  refine own_by (S' := s₁.setTop (mkF m 5 #[.val (.ref v), .val (.int (0 : Int32)), .val (.int n)] [(.int n)])) (fun tZ kZ => XS.iloadN X0.here hx rfl (hb hby d16_4) rfl kZ) ?_
  refine own_by (S' := s₁.setTop (mkF m 6 #[.val (.ref v), .val (.int (0 : Int32)), .val (.int n)] [(.ref v), (.int n)])) (fun tZ kZ => XS.aloadN X0.here hx rfl (hb hby d16_5) rfl rfl kZ) ?_
  obtain ⟨cc1, Ar1, hc1, hl1⟩ := id V
  refine own_by (S' := s₁.setTop (mkF m 7 #[.val (.ref v), .val (.int (0 : Int32)), .val (.int n)] [(.int n), (.int n)])) (fun tZ kZ => X0.arraylength hx (by rw [e0]; exact Ar1.1) (State.isArrayOf_alike hZ.alike Ar1.2.1) (g := (mkF m 6 #[.val (.ref v), .val (.int (0 : Int32)), .val (.int n)] [(.ref v), (.int n)])) rfl rfl (hb hby d16_6) _ (by rw [len_of (OwnA.size (z := n) hl1 hl) hn]; exact kZ)) ?_
  refine own_by (S' := s₁.setTop (mkF m 17 #[.val (.ref v), .val (.int (0 : Int32)), .val (.int n)] [])) (fun tZ kZ => XS.icmpYes X0.here hx rfl (pc0 := 7) (pc' := 17) rfl (hb hby d16_7) rfl (teq rfl).1 (by decide) (by decide) kZ) ?_
  refine own_by (S' := s₁.setTop (mkF m 18 #[.val (.ref v), .val (.int (0 : Int32)), .val (.int n)] [(.ref v)])) (fun tZ kZ => XS.aloadN X0.here hx rfl (hb hby d16_17) rfl rfl kZ) ?_
  obtain ⟨cc2, Ar2, hc2, hl2⟩ := id V
  obtain ⟨T2, h2, X2, e2, E2, A2, Eb2, st2⟩ := cloneA X0 hx hZ hown (hw _ (List.mem_of_getElem? (i := 90) rfl)) (hw _ (List.mem_of_getElem? (i := 91) rfl)) (hw _ (List.mem_of_getElem? (i := 95) rfl)) (hw _ (List.mem_of_getElem? (i := 93) rfl)) (hw _ (List.mem_of_getElem? (i := 94) rfl)) (hw _ (List.mem_of_getElem? (i := 96) rfl)) e0 Ar2 Ev (own_fitC Ar2 hl2 hfit) (g := (mkF m 18 #[.val (.ref v), .val (.int (0 : Int32)), .val (.int n)] [(.ref v)])) rfl (by rw [hml]; rfl) rfl (hb hby d16_18) (by decide) (W := 0) (cap := 13) (by show 2 * 0 + _ ≤ _; exact Nat.le_of_eq rfl) (by decide) (own_size_le hl2 hl hcap) (by decide) (by decide)
  obtain ⟨b2, g2⟩ : ∃ z, z = h0.size := ⟨_, rfl⟩
  rw [← g2] at A2 Eb2 st2
  have g_b2 : n0 ≤ b2 := Nat.le_trans Z0 (Nat.le_of_eq g2.symm)
  have sz_b2 : h0.size ≤ b2 := Nat.le_trans (Keep.refl h0 []).1 (Nat.le_of_eq g2.symm)
  have Zs2 : n0 ≤ h2.size := Nat.le_trans Z0 E2.1
  have K2 := (Keep.refl h0 []).ext E2
  have V_b2 : OwnA Z h2 b2 cc2.cls .byte vs := ⟨_, A2, rfl, hl2⟩
  refine own_by (S' := T2.setTop (mkF m 21 #[.val (.ref v), .val (.int (0 : Int32)), .val (.int n)] [(.ref b2)])) st2 ?_
  obtain ⟨T3, X3, e3, st3⟩ := castY X2 hx hZ hown (hw _ (List.mem_of_getElem? (i := 97) rfl)) e2 (Ins.self Eb2) (g := (mkF m 21 #[.val (.ref v), .val (.int (0 : Int32)), .val (.int n)] [(.ref b2)])) rfl rfl (hb hby d16_21)
  refine own_by (S' := T3.setTop (mkF m 24 #[.val (.ref v), .val (.int (0 : Int32)), .val (.int n)] [(.ref b2)])) st3 ?_
  exact own_retA X3 hx Bd.returns rfl rfl (hb hby d16_24) Bd.notSynchronized (by decide) (by decide) (show QRng Z vs h0 n0 _ T3.heap _ from by rw [e3]; exact ⟨_, _, rfl, N0, K2, g_b2, sz_b2, V_b2⟩)
theorem d12_0 : decode jdk_42_method_150_code 0 = .ok (.aload_n 0, 1) := by decide +kernel
theorem d12_1 : decode jdk_42_method_150_code 1 = .ok (.invokespecial 1, 3) := by decide +kernel
theorem d12_4 : decode jdk_42_method_150_code 4 = .ok (.aload_n 1, 1) := by decide +kernel
theorem d12_5 : decode jdk_42_method_150_code 5 = .ok (.invokevirtual 552, 3) := by decide +kernel
theorem d12_8 : decode jdk_42_method_150_code 8 = .ok (.astore_n 3, 1) := by decide +kernel
theorem d12_9 : decode jdk_42_method_150_code 9 = .ok (.aload_n 1, 1) := by decide +kernel
theorem d12_10 : decode jdk_42_method_150_code 10 = .ok (.invokevirtual 549, 3) := by decide +kernel
theorem d12_13 : decode jdk_42_method_150_code 13 = .ok (.istore 4, 2) := by decide +kernel
theorem d12_15 : decode jdk_42_method_150_code 15 = .ok (.aload_n 1, 1) := by decide +kernel
theorem d12_16 : decode jdk_42_method_150_code 16 = .ok (.invokevirtual 1047, 3) := by decide +kernel
theorem d12_19 : decode jdk_42_method_150_code 19 = .ok (.ifCond .eq 22, 3) := by decide +kernel
theorem d12_22 : decode jdk_42_method_150_code 22 = .ok (.aload_n 0, 1) := by decide +kernel
theorem d12_23 : decode jdk_42_method_150_code 23 = .ok (.iconst 0, 1) := by decide +kernel
theorem d12_24 : decode jdk_42_method_150_code 24 = .ok (.putfield 15, 3) := by decide +kernel
theorem d12_27 : decode jdk_42_method_150_code 27 = .ok (.aload_n 0, 1) := by decide +kernel
theorem d12_28 : decode jdk_42_method_150_code 28 = .ok (.aload_n 3, 1) := by decide +kernel
theorem d12_29 : decode jdk_42_method_150_code 29 = .ok (.iconst 0, 1) := by decide +kernel
theorem d12_30 : decode jdk_42_method_150_code 30 = .ok (.iload 4, 2) := by decide +kernel
theorem d12_32 : decode jdk_42_method_150_code 32 = .ok (.invokestatic 54, 3) := by decide +kernel
theorem d12_35 : decode jdk_42_method_150_code 35 = .ok (.putfield 9, 3) := by decide +kernel
theorem d12_38 : decode jdk_42_method_150_code 38 = .ok (.goto 59, 3) := by decide +kernel
theorem d12_41 : decode jdk_42_method_150_code 41 = .ok (.getstatic 38, 3) := by decide +kernel
theorem d12_44 : decode jdk_42_method_150_code 44 = .ok (.ifCond .eq 35, 3) := by decide +kernel
theorem d12_47 : decode jdk_42_method_150_code 47 = .ok (.aload_n 1, 1) := by decide +kernel
theorem d12_48 : decode jdk_42_method_150_code 48 = .ok (.getfield 1048, 3) := by decide +kernel
theorem d12_51 : decode jdk_42_method_150_code 51 = .ok (.ifCond .eq 28, 3) := by decide +kernel
theorem d12_54 : decode jdk_42_method_150_code 54 = .ok (.aload_n 0, 1) := by decide +kernel
theorem d12_55 : decode jdk_42_method_150_code 55 = .ok (.aload_n 3, 1) := by decide +kernel
theorem d12_56 : decode jdk_42_method_150_code 56 = .ok (.iconst 0, 1) := by decide +kernel
theorem d12_57 : decode jdk_42_method_150_code 57 = .ok (.iload 4, 2) := by decide +kernel
theorem d12_59 : decode jdk_42_method_150_code 59 = .ok (.invokestatic 1051, 3) := by decide +kernel
theorem d12_62 : decode jdk_42_method_150_code 62 = .ok (.putfield 9, 3) := by decide +kernel
theorem d12_65 : decode jdk_42_method_150_code 65 = .ok (.aload_n 0, 1) := by decide +kernel
theorem d12_66 : decode jdk_42_method_150_code 66 = .ok (.aload_n 0, 1) := by decide +kernel
theorem d12_67 : decode jdk_42_method_150_code 67 = .ok (.getfield 9, 3) := by decide +kernel
theorem d12_70 : decode jdk_42_method_150_code 70 = .ok (.iload 4, 2) := by decide +kernel
theorem d12_72 : decode jdk_42_method_150_code 72 = .ok (.invokestatic 47, 3) := by decide +kernel
theorem d12_75 : decode jdk_42_method_150_code 75 = .ok (.putfield 15, 3) := by decide +kernel
theorem d12_78 : decode jdk_42_method_150_code 78 = .ok (.return_, 1) := by decide +kernel
theorem d12_79 : decode jdk_42_method_150_code 79 = .ok (.aload_n 0, 1) := by decide +kernel
theorem d12_80 : decode jdk_42_method_150_code 80 = .ok (.iconst 1, 1) := by decide +kernel
theorem d12_81 : decode jdk_42_method_150_code 81 = .ok (.putfield 15, 3) := by decide +kernel
theorem d12_84 : decode jdk_42_method_150_code 84 = .ok (.aload_n 0, 1) := by decide +kernel
theorem d12_85 : decode jdk_42_method_150_code 85 = .ok (.aload_n 3, 1) := by decide +kernel
theorem d12_86 : decode jdk_42_method_150_code 86 = .ok (.iconst 0, 1) := by decide +kernel
theorem d12_87 : decode jdk_42_method_150_code 87 = .ok (.iload 4, 2) := by decide +kernel
theorem d12_89 : decode jdk_42_method_150_code 89 = .ok (.iconst 1, 1) := by decide +kernel
theorem d12_90 : decode jdk_42_method_150_code 90 = .ok (.ishl, 1) := by decide +kernel
theorem d12_91 : decode jdk_42_method_150_code 91 = .ok (.invokestatic 54, 3) := by decide +kernel
theorem d12_94 : decode jdk_42_method_150_code 94 = .ok (.putfield 9, 3) := by decide +kernel
theorem d12_97 : decode jdk_42_method_150_code 97 = .ok (.return_, 1) := by decide +kernel
theorem pn_4 : plainName "java/lang/String" = true := by first | (simp [plainName, overriddenIn]; done) | decide +kernel
theorem ef_rmSB1 (m : MethodId) (r : Addr) (a : Addr) : entryFrame m #[(.ref r), (.ref a), .null] 5 = mkF m 0 #[.val (.ref r), .val (.ref a), .val .null, .unset, .unset] [] := by first | (simp [entryFrame, mkF, argsToLocals, Value.category, maxLocals]; done) | rfl
set_option maxRecDepth 65536 in
set_option maxHeartbeats 40000000 in
theorem rmSB1 (l : Launch) (Z : State) (a0 : Array Value) (hw : ∀ d ∈ tables_1, d.before a0 Z = true) (ws : List Jvm.Cond) (r a v : Addr) (kv : ClassId) (vs : List Value) (n cz : Int32) (h0 : Heap) (n0 : Nat) (Z0 : n0 ≤ h0.size) (Er : Exa Z h0 r "java/lang/String") (Rv : Fld Z h0 r "java/lang/String" "value" "[B" .null) (Rc : Fld Z h0 r "java/lang/String" "coder" "B" (.int 0)) (g_r : n0 ≤ r) (ne_a_r : a ≠ r) (ne_v_r : v ≠ r) (B : OwnSB Z h0 a v kv vs n) (hl : vs.length = n.toNatClampNeg) (hn : ¬ n < 0) (hcap : n.toNatClampNeg ≤ 13) (hfit : ∀ v ∈ vs, fits .byte v = true) (Sc : Sta Z h0 "java/lang/String" "COMPACT_STRINGS" "Z" (.int cz)) (hcz : ¬ cz = 0) :
    MetFree l (⟨"java/lang/String", "<init>", "(Ljava/lang/AbstractStringBuilder;Ljava/lang/Void;)V"⟩ : MethodName) (head1 (Jvm.Cond.code (⟨"java/lang/String", "<init>", "(Ljava/lang/AbstractStringBuilder;Ljava/lang/Void;)V"⟩ : MethodName) jdk_42_method_150_code (5 : Nat) (Option.none : Option Jvm.ClassFile.FieldType) :: ws) ({ frames := 2, cells := 1, slots := 13, locals := 29 } : Room)) (fun aZ UZ => aZ = #[(.ref r), (.ref a), .null] ∧ Z.Warmed39 UZ.vm ∧ UZ.heap = h0) (fun _ _ _ _ _ => True) (fun _ UZ oZ VZ => ∃ vZ LZ, oZ = .returned vZ ∧ (QStrI Z r vs h0 n0) vZ VZ.heap LZ ∧ FrameEnd UZ oZ VZ LZ ({ frames := 2, cells := 1, slots := 13, locals := 29 } : Room).cells ({ frames := 2, cells := 1, slots := 13, locals := 29 } : Room).slots) := by
  refine MetFree.of_bodySF (plainFor_of_name pn_4) hisR ?_
  intro p e s m args below meth c s₁ Bd hml0 hP hK
  obtain ⟨rfl, hZ, hh⟩ := hP
  have hx := Bd.exec
  have hby := Bd.bytes
  have hml : c.maxLocals = 5 := hml0
  have hown : s.vm.findClass "java/lang/String" = some m.cls := findClass_of_methodNamed Bd.named
  have hnm := (name_of_methodNamed Bd.named Bd.method).1
  have X0 : Stand p l e ({ frames := 2, cells := 1, slots := 13, locals := 29 } : Room) s m #[(.ref r), (.ref a), .null] below meth c s₁ [] 0 0 := Stand.of_body Bd
  have e0 : s₁.heap = h0 := by rw [← hh, Bd.state]; rfl
  have N0 := Fr.nil n0
  show OwnG p e below (OwnE s (QStrI Z r vs h0 n0) ({ frames := 2, cells := 1, slots := 13, locals := 29 } : Room).cells ({ frames := 2, cells := 1, slots := 13, locals := 29 } : Room).slots) _
  refine own_by (S' := s₁.setTop (mkF m 0 #[.val (.ref r), .val (.ref a), .val .null, .unset, .unset] [])) (fun tZ kZ => castTop (ef_rmSB1 m r a) kZ) ?_
  obtain ⟨Ea, Fv, Fc, Fn, V_v, Ev⟩ := id B
  refine own_by (S' := s₁.setTop (mkF m 1 #[.val (.ref r), .val (.ref a), .val .null, .unset, .unset] [(.ref r)])) (fun tZ kZ => XS.aloadN X0.here hx rfl (hb hby d12_0) rfl rfl kZ) ?_
  obtain ⟨T1, X1, e1, st1⟩ := initO X0 hx hZ hown (hw _ (List.mem_of_getElem? (i := 69) rfl)) (hw _ (List.mem_of_getElem? (i := 19) rfl)) (hw _ (List.mem_of_getElem? (i := 20) rfl)) e0 (g := (mkF m 1 #[.val (.ref r), .val (.ref a), .val .null, .unset, .unset] [(.ref r)])) rfl (by rw [hml]; rfl) rfl (hb hby d12_1) (by decide) (W := 0) (by show 2 * 0 + _ ≤ _; exact Nat.le_of_eq rfl) (by decide)
  refine own_by (S' := T1.setTop (mkF m 4 #[.val (.ref r), .val (.ref a), .val .null, .unset, .unset] [])) st1 ?_
  refine own_by (S' := T1.setTop (mkF m 5 #[.val (.ref r), .val (.ref a), .val .null, .unset, .unset] [(.ref a)])) (fun tZ kZ => XS.aloadN X1.here hx rfl (hb hby d12_4) rfl rfl kZ) ?_
  obtain ⟨cq2, kq2, q2a, q2b, q2c⟩ := isOf hZ e1 Ea
  obtain ⟨_, _, ⟨T2, L2, k2, n2⟩, -, X2, ⟨Lc2, hQ2, l2, y2, z2⟩, st2⟩ := X1.virtualBack hx (y := (⟨"java/lang/AbstractStringBuilder", "getValue", "()[B"⟩ : MethodName)) (z := (⟨"java/lang/AbstractStringBuilder", "getValue", "()[B"⟩ : MethodName)) hown (mvT hZ (hw _ (List.mem_of_getElem? (i := 70) rfl))) (mvT hZ (hw _ (List.mem_of_getElem? (i := 71) rfl))) (notFace_of_selects (args := #[]) (mvT hZ (hw _ (List.mem_of_getElem? (i := 73) rfl)))) (mvT hZ (hw _ (List.mem_of_getElem? (i := 73) rfl))) (mvT hZ (hw _ (List.mem_of_getElem? (i := 72) rfl))) (by decide) (backOf (W := 0) (rmGV l Z a0 hw [] a v kv vs n h0 n0 Z0 B) hZ (hw _ (List.mem_of_getElem? (i := 74) rfl)) (hw _ (List.mem_of_getElem? (i := 16) rfl)) (by decide) (by decide)) q2a q2c (g := (mkF m 5 #[.val (.ref r), .val (.ref a), .val .null, .unset, .unset] [(.ref a)])) rfl (by rw [hml]; rfl) (Steps.refl _) (argsL := []) (rest := []) (lenOf pd_5 rfl) rfl (by show 2 * 0 + _ ≤ _; exact Nat.le_of_eq rfl) (hb hby d12_5) (fun _ _ => ⟨rfl, e1, (by decide : 0 + 0 ≤ _), (by decide : 0 + 0 ≤ _)⟩)
  dsimp only [Pt.U, Pt.locs, Pt.cells, Pt.slots] at X2 l2 y2 z2 st2 hQ2
  subst l2 y2 z2
  obtain ⟨rfl, N2q, heq2⟩ := hQ2
  have N2 := Fr.app N0 N2q
  refine own_by (S' := T2.setTop (mkF m 8 #[.val (.ref r), .val (.ref a), .val .null, .unset, .unset] [(.ref v)])) (fun tZ kZ => st2.trans kZ) ?_
  refine own_by (S' := T2.setTop (mkF m 9 #[.val (.ref r), .val (.ref a), .val .null, .val (.ref v), .unset] [])) (fun tZ kZ => XS.astoreN X2.here hx rfl (hb hby d12_8) rfl rfl (l' := #[.val (.ref r), .val (.ref a), .val .null, .val (.ref v), .unset]) rfl kZ) ?_
  refine own_by (S' := T2.setTop (mkF m 10 #[.val (.ref r), .val (.ref a), .val .null, .val (.ref v), .unset] [(.ref a)])) (fun tZ kZ => XS.aloadN X2.here hx rfl (hb hby d12_9) rfl rfl kZ) ?_
  obtain ⟨cq3, kq3, q3a, q3b, q3c⟩ := isOf hZ heq2 Ea
  obtain ⟨_, _, ⟨T3, L3, k3, n3⟩, -, X3, ⟨Lc3, hQ3, l3, y3, z3⟩, st3⟩ := X2.virtualBack hx (y := (⟨"java/lang/AbstractStringBuilder", "length", "()I"⟩ : MethodName)) (z := (⟨"java/lang/StringBuilder", "length", "()I"⟩ : MethodName)) hown (mvT hZ (hw _ (List.mem_of_getElem? (i := 75) rfl))) (mvT hZ (hw _ (List.mem_of_getElem? (i := 76) rfl))) (own_nf (mvT hZ (hw _ (List.mem_of_getElem? (i := 49) rfl)) (args := #[])) rfl) (mvT hZ (hw _ (List.mem_of_getElem? (i := 78) rfl))) (mvT hZ (hw _ (List.mem_of_getElem? (i := 79) rfl))) (by decide) (backOf (W := 0) (rmSN l Z a0 hw [] a v kv vs n h0 n0 Z0 B) hZ (hw _ (List.mem_of_getElem? (i := 80) rfl)) (hw _ (List.mem_of_getElem? (i := 8) rfl)) (by decide) (by decide)) q3a q3c (g := (mkF m 10 #[.val (.ref r), .val (.ref a), .val .null, .val (.ref v), .unset] [(.ref a)])) rfl (by rw [hml]; rfl) (Steps.refl _) (argsL := []) (rest := []) (lenOf pd_4 rfl) rfl (by show 2 * 0 + _ ≤ _; exact Nat.le_of_eq rfl) (hb hby d12_10) (fun _ _ => ⟨rfl, heq2, (by decide : 0 + 0 ≤ _), (by decide : 0 + 0 ≤ _)⟩)
  dsimp only [Pt.U, Pt.locs, Pt.cells, Pt.slots] at X3 l3 y3 z3 st3 hQ3
  subst l3 y3 z3
  obtain ⟨rfl, N3q, heq3⟩ := hQ3
  have N3 := Fr.app N2 N3q
  refine own_by (S' := T3.setTop (mkF m 13 #[.val (.ref r), .val (.ref a), .val .null, .val (.ref v), .unset] [(.int n)])) (fun tZ kZ => st3.trans kZ) ?_
  refine own_by (S' := T3.setTop (mkF m 15 #[.val (.ref r), .val (.ref a), .val .null, .val (.ref v), .val (.int n)] [])) (fun tZ kZ => XS.istore X3.here hx rfl (hb hby d12_13) rfl (l' := #[.val (.ref r), .val (.ref a), .val .null, .val (.ref v), .val (.int n)]) rfl kZ) ?_
  refine own_by (S' := T3.setTop (mkF m 16 #[.val (.ref r), .val (.ref a), .val .null, .val (.ref v), .val (.int n)] [(.ref a)])) (fun tZ kZ => XS.aloadN X3.here hx rfl (hb hby d12_15) rfl rfl kZ) ?_
  obtain ⟨cq4, kq4, q4a, q4b, q4c⟩ := isOf hZ heq3 Ea
  obtain ⟨_, _, ⟨T4, L4, k4, n4⟩, -, X4, ⟨Lc4, hQ4, l4, y4, z4⟩, st4⟩ := X3.virtualBack hx (y := (⟨"java/lang/AbstractStringBuilder", "isLatin1", "()Z"⟩ : MethodName)) (z := (⟨"java/lang/AbstractStringBuilder", "isLatin1", "()Z"⟩ : MethodName)) hown (mvT hZ (hw _ (List.mem_of_getElem? (i := 83) rfl))) (mvT hZ (hw _ (List.mem_of_getElem? (i := 47) rfl))) (notFace_of_selects (args := #[]) (mvT hZ (hw _ (List.mem_of_getElem? (i := 49) rfl)))) (mvT hZ (hw _ (List.mem_of_getElem? (i := 49) rfl))) (mvT hZ (hw _ (List.mem_of_getElem? (i := 48) rfl))) (by decide) (backOf (W := 0) (rmAL l Z a0 hw [] a cz h0 n0 Z0 Fc Sc hcz) hZ (hw _ (List.mem_of_getElem? (i := 50) rfl)) (hw _ (List.mem_of_getElem? (i := 16) rfl)) (by decide) (by decide)) q4a q4c (g := (mkF m 16 #[.val (.ref r), .val (.ref a), .val .null, .val (.ref v), .val (.int n)] [(.ref a)])) rfl (by rw [hml]; rfl) (Steps.refl _) (argsL := []) (rest := []) (lenOf pd_1 rfl) rfl (by show 2 * 0 + _ ≤ _; exact Nat.le_of_eq rfl) (hb hby d12_16) (fun _ _ => ⟨rfl, heq3, (by decide : 0 + 0 ≤ _), (by decide : 0 + 0 ≤ _)⟩)
  dsimp only [Pt.U, Pt.locs, Pt.cells, Pt.slots] at X4 l4 y4 z4 st4 hQ4
  subst l4 y4 z4
  obtain ⟨rfl, N4q, heq4⟩ := hQ4
  have N4 := Fr.app N3 N4q
  refine own_by (S' := T4.setTop (mkF m 19 #[.val (.ref r), .val (.ref a), .val .null, .val (.ref v), .val (.int n)] [(.int (1 : Int32))])) (fun tZ kZ => st4.trans kZ) ?_
  refine own_by (S' := T4.setTop (mkF m 22 #[.val (.ref r), .val (.ref a), .val .null, .val (.ref v), .val (.int n)] [])) (fun tZ kZ => XS.ifNo X4.here hx rfl (hb hby d12_19) rfl ((if0 _ _).trans (feq (by decide)).1) kZ) ?_
  refine own_by (S' := T4.setTop (mkF m 23 #[.val (.ref r), .val (.ref a), .val .null, .val (.ref v), .val (.int n)] [(.ref r)])) (fun tZ kZ => XS.aloadN X4.here hx rfl (hb hby d12_22) rfl rfl kZ) ?_
  refine own_by (S' := T4.setTop (mkF m 24 #[.val (.ref r), .val (.ref a), .val .null, .val (.ref v), .val (.int n)] [(.int (0 : Int32)), (.ref r)])) (fun tZ kZ => XS.iconst X4.here hx rfl (hb hby d12_23) kZ) ?_
  obtain ⟨T5, h5, X5, e5, W5, st5⟩ := putFN X4 hx hZ hown (hw _ (List.mem_of_getElem? (i := 84) rfl)) Via.refl heq4 Rc Er (Or.inr ⟨(hw _ (List.mem_of_getElem? (i := 85) rfl)), rfl, hnm⟩) (hw _ (List.mem_of_getElem? (i := 61) rfl)) (ty := .byte) (v' := (.int (0 : Int32))) (by decide) rfl rfl (g := (mkF m 24 #[.val (.ref r), .val (.ref a), .val .null, .val (.ref v), .val (.int n)] [(.int (0 : Int32)), (.ref r)])) rfl rfl (hb hby d12_24)
  have N5 := Fr.snoc X5 N4 g_r
  have Er_5 := Er.wr W5
  have Rv_5 := Rv.other W5 (Or.inr (slot_ne (Or.inr (hw _ (List.mem_of_getElem? (i := 100) rfl))) (Or.inr (hw _ (List.mem_of_getElem? (i := 85) rfl))) (by decide) (t := (.array .byte)) (t' := .byte) (by decide) (by decide)))
  have Rc_5 := Rc.same W5
  have V_v_5 := V_v.other W5 ne_v_r
  have Ev_5 := Ev.wr W5
  have Zs5 : n0 ≤ h5.size := Nat.le_trans Z0 (Keep.of_wr W5).1
  have K5 := (Keep.refl h0 [r]).wr W5 (Or.inl (List.mem_of_getElem? (i := 0) rfl))
  refine own_by (S' := T5.setTop (mkF m 27 #[.val (.ref r), .val (.ref a), .val .null, .val (.ref v), .val (.int n)] [])) st5 ?_
  refine own_by (S' := T5.setTop (mkF m 28 #[.val (.ref r), .val (.ref a), .val .null, .val (.ref v), .val (.int n)] [(.ref r)])) (fun tZ kZ => XS.aloadN X5.here hx rfl (hb hby d12_27) rfl rfl kZ) ?_
  refine own_by (S' := T5.setTop (mkF m 29 #[.val (.ref r), .val (.ref a), .val .null, .val (.ref v), .val (.int n)] [(.ref v), (.ref r)])) (fun tZ kZ => XS.aloadN X5.here hx rfl (hb hby d12_28) rfl rfl kZ) ?_
  refine own_by (S' := T5.setTop (mkF m 30 #[.val (.ref r), .val (.ref a), .val .null, .val (.ref v), .val (.int n)] [(.int (0 : Int32)), (.ref v), (.ref r)])) (fun tZ kZ => XS.iconst X5.here hx rfl (hb hby d12_29) kZ) ?_
  refine own_by (S' := T5.setTop (mkF m 32 #[.val (.ref r), .val (.ref a), .val .null, .val (.ref v), .val (.int n)] [(.int n), (.int (0 : Int32)), (.ref v), (.ref r)])) (fun tZ kZ => XS.iload X5.here hx rfl (hb hby d12_30) rfl kZ) ?_
  obtain ⟨_, _, ⟨T6, L6, k6, n6⟩, -, X6, ⟨Lc6, hQ6, l6, y6, z6⟩, st6⟩ := Jvm.LawKit.callS X5 hx (y := (⟨"java/util/Arrays", "copyOfRange", "([BII)[B"⟩ : MethodName)) hown (mvT hZ (hw _ (List.mem_of_getElem? (i := 86) rfl))) (mvT hZ (hw _ (List.mem_of_getElem? (i := 87) rfl))) (mvT hZ (hw _ (List.mem_of_getElem? (i := 88) rfl))) (mvT hZ (hw _ (List.mem_of_getElem? (i := 89) rfl))) (by decide) (backOf (W := 1) (rmCR l Z a0 hw [] kv vs v n h5 n0 Zs5 V_v_5 Ev_5 hl hn hcap hfit) hZ (hw _ (List.mem_of_getElem? (i := 89) rfl)) (hw _ (List.mem_of_getElem? (i := 88) rfl)) (by decide) (by decide)) (g := (mkF m 32 #[.val (.ref r), .val (.ref a), .val .null, .val (.ref v), .val (.int n)] [(.int n), (.int (0 : Int32)), (.ref v), (.ref r)])) rfl (by rw [hml]; rfl) (argsL := [(.ref v), (.int (0 : Int32)), (.int n)]) (rest := [(.ref r)]) (lenOf pd_6 rfl) rfl (by show 2 * 0 + _ ≤ _; exact Nat.le_of_eq rfl) (hb hby d12_32) (fun _ _ => ⟨rfl, e5, (by decide : 0 + 1 ≤ _), (by decide : 0 + 13 ≤ _)⟩)
  dsimp only [Pt.U, Pt.locs, Pt.cells, Pt.slots] at X6 l6 y6 z6 st6 hQ6
  subst l6 y6 z6
  obtain ⟨b6, kb6, rfl, N6q, Kc6, gb6, sb6, Vb6⟩ := hQ6
  have N6 := Fr.app N5 N6q
  have Zs6 := Nat.le_trans Zs5 Kc6.1
  have Ec6 := own_ext0 Kc6
  have K6 := K5.ext Ec6
  have Er_6 := Er_5.ext Ec6
  have Rv_6 := Rv_5.ext Ec6
  have Rc_6 := Rc_5.ext Ec6
  have V_v_6 := V_v_5.ext Ec6
  have Ev_6 := Ev_5.ext Ec6
  refine own_by (S' := T6.setTop (mkF m 35 #[.val (.ref r), .val (.ref a), .val .null, .val (.ref v), .val (.int n)] [(.ref b6), (.ref r)])) (fun tZ kZ => st6 _ kZ) ?_
  have ne_b_r : b6 ≠ r := Ne.symm (Nat.ne_of_lt (Nat.lt_of_lt_of_le Er.lt (Nat.le_trans K5.1 sb6)))
  obtain ⟨T7, h7, X7, e7, W7, st7⟩ := putF X6 hx hZ hown (host := "") (Or.inl (hw _ (List.mem_of_getElem? (i := 99) rfl))) Via.refl rfl Rv_6 Er_6 (Or.inr ⟨(hw _ (List.mem_of_getElem? (i := 100) rfl)), rfl, hnm⟩) (hw _ (List.mem_of_getElem? (i := 61) rfl)) (ty := (.array .byte)) (by decide) rfl rfl (g := (mkF m 35 #[.val (.ref r), .val (.ref a), .val .null, .val (.ref v), .val (.int n)] [(.ref b6), (.ref r)])) rfl rfl (hb hby d12_35)
  have N7 := Fr.snoc X7 N6 g_r
  have Er_7 := Er_6.wr W7
  have Rv_7 := Rv_6.same W7
  have Rc_7 := Rc_6.other W7 (Or.inr (slot_ne (Or.inr (hw _ (List.mem_of_getElem? (i := 85) rfl))) (Or.inr (hw _ (List.mem_of_getElem? (i := 100) rfl))) (by decide) (t := .byte) (t' := (.array .byte)) (by decide) (by decide)))
  have V_v_7 := V_v_6.other W7 ne_v_r
  have Ev_7 := Ev_6.wr W7
  have Vb6_7 := Vb6.other W7 ne_b_r
  have Zs7 : n0 ≤ h7.size := Nat.le_trans Zs6 (Keep.of_wr W7).1
  have K7 := K6.wr W7 (Or.inl (List.mem_of_getElem? (i := 0) rfl))
  refine own_by (S' := T7.setTop (mkF m 38 #[.val (.ref r), .val (.ref a), .val .null, .val (.ref v), .val (.int n)] [])) st7 ?_
  refine own_by (S' := T7.setTop (mkF m 97 #[.val (.ref r), .val (.ref a), .val .null, .val (.ref v), .val (.int n)] [])) (fun tZ kZ => XS.goto X7.here hx rfl (pc0 := 38) (pc' := 97) rfl (hb hby d12_38) (by decide) (by decide) kZ) ?_
  exact own_ret0 X7 hx Bd.returns (hb hby d12_97) Bd.notSynchronized (by decide) (by decide) (show QStrI Z r vs h0 n0 none T7.heap _ from by rw [e7]; exact ⟨rfl, N7, K7, Er_7, _, _, Rv_7, Rc_7, Vb6_7⟩)
theorem d11_0 : decode jdk_42_method_53_code 0 = .ok (.aload_n 0, 1) := by decide +kernel
theorem d11_1 : decode jdk_42_method_53_code 1 = .ok (.aload_n 1, 1) := by decide +kernel
theorem d11_2 : decode jdk_42_method_53_code 2 = .ok (.aconst_null, 1) := by decide +kernel
theorem d11_3 : decode jdk_42_method_53_code 3 = .ok (.invokespecial 489, 3) := by decide +kernel
theorem d11_6 : decode jdk_42_method_53_code 6 = .ok (.return_, 1) := by decide +kernel
theorem ef_rmSB2 (m : MethodId) (r : Addr) (a : Addr) : entryFrame m #[(.ref r), (.ref a)] 2 = mkF m 0 #[.val (.ref r), .val (.ref a)] [] := by first | (simp [entryFrame, mkF, argsToLocals, Value.category, maxLocals]; done) | rfl
set_option maxRecDepth 65536 in
set_option maxHeartbeats 40000000 in
theorem rmSB2 (l : Launch) (Z : State) (a0 : Array Value) (hw : ∀ d ∈ tables_1, d.before a0 Z = true) (ws : List Jvm.Cond) (r a v : Addr) (kv : ClassId) (vs : List Value) (n cz : Int32) (h0 : Heap) (n0 : Nat) (Z0 : n0 ≤ h0.size) (Er : Exa Z h0 r "java/lang/String") (Rv : Fld Z h0 r "java/lang/String" "value" "[B" .null) (Rc : Fld Z h0 r "java/lang/String" "coder" "B" (.int 0)) (g_r : n0 ≤ r) (ne_a_r : a ≠ r) (ne_v_r : v ≠ r) (B : OwnSB Z h0 a v kv vs n) (hl : vs.length = n.toNatClampNeg) (hn : ¬ n < 0) (hcap : n.toNatClampNeg ≤ 13) (hfit : ∀ v ∈ vs, fits .byte v = true) (Sc : Sta Z h0 "java/lang/String" "COMPACT_STRINGS" "Z" (.int cz)) (hcz : ¬ cz = 0) :
    MetFree l (⟨"java/lang/String", "<init>", "(Ljava/lang/StringBuilder;)V"⟩ : MethodName) (head1 (Jvm.Cond.code (⟨"java/lang/String", "<init>", "(Ljava/lang/StringBuilder;)V"⟩ : MethodName) jdk_42_method_53_code (2 : Nat) (Option.none : Option Jvm.ClassFile.FieldType) :: ws) ({ frames := 3, cells := 1, slots := 13, locals := 45 } : Room)) (fun aZ UZ => aZ = #[(.ref r), (.ref a)] ∧ Z.Warmed39 UZ.vm ∧ UZ.heap = h0) (fun _ _ _ _ _ => True) (fun _ UZ oZ VZ => ∃ vZ LZ, oZ = .returned vZ ∧ (QStrI Z r vs h0 n0) vZ VZ.heap LZ ∧ FrameEnd UZ oZ VZ LZ ({ frames := 3, cells := 1, slots := 13, locals := 45 } : Room).cells ({ frames := 3, cells := 1, slots := 13, locals := 45 } : Room).slots) := by
  refine MetFree.of_bodySF (plainFor_of_name pn_4) hisR ?_
  intro p e s m args below meth c s₁ Bd hml0 hP hK
  obtain ⟨rfl, hZ, hh⟩ := hP
  have hx := Bd.exec
  have hby := Bd.bytes
  have hml : c.maxLocals = 2 := hml0
  have hown : s.vm.findClass "java/lang/String" = some m.cls := findClass_of_methodNamed Bd.named
  have hnm := (name_of_methodNamed Bd.named Bd.method).1
  have X0 : Stand p l e ({ frames := 3, cells := 1, slots := 13, locals := 45 } : Room) s m #[(.ref r), (.ref a)] below meth c s₁ [] 0 0 := Stand.of_body Bd
  have e0 : s₁.heap = h0 := by rw [← hh, Bd.state]; rfl
  have N0 := Fr.nil n0
  show OwnG p e below (OwnE s (QStrI Z r vs h0 n0) ({ frames := 3, cells := 1, slots := 13, locals := 45 } : Room).cells ({ frames := 3, cells := 1, slots := 13, locals := 45 } : Room).slots) _
  refine own_by (S' := s₁.setTop (mkF m 0 #[.val (.ref r), .val (.ref a)] [])) (fun tZ kZ => castTop (ef_rmSB2 m r a) kZ) ?_
  refine own_by (S' := s₁.setTop (mkF m 1 #[.val (.ref r), .val (.ref a)] [(.ref r)])) (fun tZ kZ => XS.aloadN X0.here hx rfl (hb hby d11_0) rfl rfl kZ) ?_
  refine own_by (S' := s₁.setTop (mkF m 2 #[.val (.ref r), .val (.ref a)] [(.ref a), (.ref r)])) (fun tZ kZ => XS.aloadN X0.here hx rfl (hb hby d11_1) rfl rfl kZ) ?_
  refine own_by (S' := s₁.setTop (mkF m 3 #[.val (.ref r), .val (.ref a)] [.null, (.ref a), (.ref r)])) (fun tZ kZ => XS.aconstNull X0.here hx rfl (hb hby d11_2) kZ) ?_
  obtain ⟨_, _, ⟨T1, L1, k1, n1⟩, -, X1, ⟨Lc1, hQ1, l1, y1, z1⟩, st1⟩ := X0.specialBack hx (y := (⟨"java/lang/String", "<init>", "(Ljava/lang/AbstractStringBuilder;Ljava/lang/Void;)V"⟩ : MethodName)) rfl hown (mvT hZ (hw _ (List.mem_of_getElem? (i := 66) rfl))) (mvT hZ (hw _ (List.mem_of_getElem? (i := 67) rfl))) (mvT hZ (hw _ (List.mem_of_getElem? (i := 68) rfl))) (by decide) (backOf (W := 0) (rmSB1 l Z a0 hw [] r a v kv vs n cz h0 n0 Z0 Er Rv Rc g_r ne_a_r ne_v_r B hl hn hcap hfit Sc hcz) hZ (hw _ (List.mem_of_getElem? (i := 68) rfl)) (hw _ (List.mem_of_getElem? (i := 22) rfl)) (by decide) (by decide)) (g := (mkF m 3 #[.val (.ref r), .val (.ref a)] [.null, (.ref a), (.ref r)])) rfl (by rw [hml]; rfl) (Steps.refl _) (a := r) (argsL := [(.ref a), .null]) (rest := []) (lenOf pd_7 rfl) rfl (by show 2 * 0 + _ ≤ _; exact Nat.le_of_eq rfl) (hb hby d11_3) (fun _ _ => ⟨rfl, e0, (by decide : 0 + 1 ≤ _), (by decide : 0 + 13 ≤ _)⟩)
  dsimp only [Pt.U, Pt.locs, Pt.cells, Pt.slots] at X1 l1 y1 z1 st1 hQ1
  subst l1 y1 z1
  obtain ⟨rfl, N1q, R1⟩ := hQ1
  have N1 := Fr.app N0 N1q
  refine own_by (S' := T1.setTop (mkF m 6 #[.val (.ref r), .val (.ref a)] [])) (fun tZ kZ => st1.trans kZ) ?_
  exact own_ret0 X1 hx Bd.returns (hb hby d11_6) Bd.notSynchronized (by decide) (by decide) ⟨rfl, N1, R1⟩
theorem d10_0 : decode jdk_67_method_42_code 0 = .ok (.new 18, 3) := by decide +kernel
theorem d10_3 : decode jdk_67_method_42_code 3 = .ok (.dup, 1) := by decide +kernel
theorem d10_4 : decode jdk_67_method_42_code 4 = .ok (.aload_n 0, 1) := by decide +kernel
theorem d10_5 : decode jdk_67_method_42_code 5 = .ok (.invokespecial 137, 3) := by decide +kernel
theorem d10_8 : decode jdk_67_method_42_code 8 = .ok (.areturn, 1) := by decide +kernel
theorem ef_rmTS (m : MethodId) (a : Addr) : entryFrame m #[(.ref a)] 1 = mkF m 0 #[.val (.ref a)] [] := by first | (simp [entryFrame, mkF, argsToLocals, Value.category, maxLocals]; done) | rfl
set_option maxRecDepth 65536 in
set_option maxHeartbeats 40000000 in
theorem rmTS (l : Launch) (Z : State) (a0 : Array Value) (hw : ∀ d ∈ tables_1, d.before a0 Z = true) (ws : List Jvm.Cond) (a v : Addr) (kv : ClassId) (vs : List Value) (n cz : Int32) (h0 : Heap) (n0 : Nat) (Z0 : n0 ≤ h0.size) (B : OwnSB Z h0 a v kv vs n) (hl : vs.length = n.toNatClampNeg) (hn : ¬ n < 0) (hcap : n.toNatClampNeg ≤ 13) (hfit : ∀ v ∈ vs, fits .byte v = true) (Sc : Sta Z h0 "java/lang/String" "COMPACT_STRINGS" "Z" (.int cz)) (hcz : ¬ cz = 0) :
    MetFree l (⟨"java/lang/StringBuilder", "toString", "()Ljava/lang/String;"⟩ : MethodName) (head1 (Jvm.Cond.code (⟨"java/lang/StringBuilder", "toString", "()Ljava/lang/String;"⟩ : MethodName) jdk_67_method_42_code (1 : Nat) (Option.some (Jvm.ClassFile.FieldType.object "java/lang/String")) :: ws) ({ frames := 4, cells := 2, slots := 17, locals := 59 } : Room)) (fun aZ UZ => aZ = #[(.ref a)] ∧ Z.Warmed39 UZ.vm ∧ UZ.heap = h0) (fun _ _ _ _ _ => True) (fun _ UZ oZ VZ => ∃ vZ LZ, oZ = .returned vZ ∧ (QStr Z vs h0 n0) vZ VZ.heap LZ ∧ FrameEnd UZ oZ VZ LZ ({ frames := 4, cells := 2, slots := 17, locals := 59 } : Room).cells ({ frames := 4, cells := 2, slots := 17, locals := 59 } : Room).slots) := by
  refine MetFree.of_bodySF (plainFor_of_name pn_1) hisR ?_
  intro p e s m args below meth c s₁ Bd hml0 hP hK
  obtain ⟨rfl, hZ, hh⟩ := hP
  have hx := Bd.exec
  have hby := Bd.bytes
  have hml : c.maxLocals = 1 := hml0
  have hown : s.vm.findClass "java/lang/StringBuilder" = some m.cls := findClass_of_methodNamed Bd.named
  have hnm := (name_of_methodNamed Bd.named Bd.method).1
  have X0 : Stand p l e ({ frames := 4, cells := 2, slots := 17, locals := 59 } : Room) s m #[(.ref a)] below meth c s₁ [] 0 0 := Stand.of_body Bd
  have e0 : s₁.heap = h0 := by rw [← hh, Bd.state]; rfl
  have N0 := Fr.nil n0
  show OwnG p e below (OwnE s (QStr Z vs h0 n0) ({ frames := 4, cells := 2, slots := 17, locals := 59 } : Room).cells ({ frames := 4, cells := 2, slots := 17, locals := 59 } : Room).slots) _
  refine own_by (S' := s₁.setTop (mkF m 0 #[.val (.ref a)] [])) (fun tZ kZ => castTop (ef_rmTS m a) kZ) ?_
  obtain ⟨T1, h1, X1, e1, E1, A1, D1, -, st1⟩ := newO X0 hx hZ hown (hw _ (List.mem_of_getElem? (i := 60) rfl)) (hw _ (List.mem_of_getElem? (i := 61) rfl)) (hw _ (List.mem_of_getElem? (i := 22) rfl)) e0 (g := (mkF m 0 #[.val (.ref a)] [])) rfl (hb hby d10_0) (by decide) (by decide)
  obtain ⟨b1, g1⟩ : ∃ z, z = h0.size := ⟨_, rfl⟩
  rw [← g1] at A1 D1 st1
  have g_b1 : n0 ≤ b1 := Nat.le_trans Z0 (Nat.le_of_eq g1.symm)
  have sz_b1 : h0.size ≤ b1 := Nat.le_trans (Keep.refl h0 []).1 (Nat.le_of_eq g1.symm)
  have Zs1 : n0 ≤ h1.size := Nat.le_trans Z0 E1.1
  have K1 := (Keep.refl h0 []).ext E1
  have Ex_b1 := A1
  have F_coder_b1 : Fld Z h1 b1 "java/lang/String" "coder" "B" (.int (0 : Int32)) := D1 (Or.inr (hw _ (List.mem_of_getElem? (i := 85) rfl))) (ty := .byte) (by decide)
  have F_value_b1 : Fld Z h1 b1 "java/lang/String" "value" "[B" .null := D1 (Or.inr (hw _ (List.mem_of_getElem? (i := 100) rfl))) (ty := (.array .byte)) (by decide)
  refine own_by (S' := T1.setTop (mkF m 3 #[.val (.ref a)] [(.ref b1)])) st1 ?_
  refine own_by (S' := T1.setTop (mkF m 4 #[.val (.ref a)] [(.ref b1), (.ref b1)])) (fun tZ kZ => XS.dup X1.here hx rfl (hb hby d10_3) rfl rfl kZ) ?_
  refine own_by (S' := T1.setTop (mkF m 5 #[.val (.ref a)] [(.ref a), (.ref b1), (.ref b1)])) (fun tZ kZ => XS.aloadN X1.here hx rfl (hb hby d10_4) rfl rfl kZ) ?_
  have Bx := B.ext E1
  have na : a ≠ b1 := Nat.ne_of_lt (Nat.lt_of_lt_of_le B.1.lt (Nat.le_of_eq g1.symm))
  have nv : v ≠ b1 := Nat.ne_of_lt (Nat.lt_of_lt_of_le B.2.2.2.2.1.lt (Nat.le_of_eq g1.symm))
  obtain ⟨_, _, ⟨T2, L2, k2, n2⟩, -, X2, ⟨Lc2, hQ2, l2, y2, z2⟩, st2⟩ := X1.specialBack hx (y := (⟨"java/lang/String", "<init>", "(Ljava/lang/StringBuilder;)V"⟩ : MethodName)) rfl hown (mvT hZ (hw _ (List.mem_of_getElem? (i := 62) rfl))) (mvT hZ (hw _ (List.mem_of_getElem? (i := 63) rfl))) (mvT hZ (hw _ (List.mem_of_getElem? (i := 65) rfl))) (by decide) (backOf (W := 1) (rmSB2 l Z a0 hw [] b1 a v kv vs n cz h1 n0 Zs1 Ex_b1 F_value_b1 F_coder_b1 g_b1 na nv Bx hl hn hcap hfit (Sc.ext E1) hcz) hZ (hw _ (List.mem_of_getElem? (i := 65) rfl)) (hw _ (List.mem_of_getElem? (i := 22) rfl)) (by decide) (by decide)) (g := (mkF m 5 #[.val (.ref a)] [(.ref a), (.ref b1), (.ref b1)])) rfl (by rw [hml]; rfl) (Steps.refl _) (a := b1) (argsL := [(.ref a)]) (rest := [(.ref b1)]) (lenOf pd_8 rfl) rfl (by show 2 * 0 + _ ≤ _; exact Nat.le_of_eq rfl) (hb hby d10_5) (fun _ _ => ⟨rfl, e1, (by decide : 1 + 1 ≤ _), (by decide : 4 + 13 ≤ _)⟩)
  dsimp only [Pt.U, Pt.locs, Pt.cells, Pt.slots] at X2 l2 y2 z2 st2 hQ2
  subst l2 y2 z2
  obtain ⟨rfl, N2q, Kc2, Er2, bb2, kb2, Fv2, Fc2, Vb2⟩ := hQ2
  have N2 := Fr.app N0 N2q
  have Zs2 := Nat.le_trans Zs1 Kc2.1
  have K2 := K1.trans Kc2 (fun x hx => by
      simp only [List.mem_cons, List.not_mem_nil, or_false] at hx
      rcases hx with rfl
      · exact Or.inr sz_b1)
  have Ex_b1_2 := Ex_b1.keep Kc2
  refine own_by (S' := T2.setTop (mkF m 8 #[.val (.ref a)] [(.ref b1)])) (fun tZ kZ => st2.trans kZ) ?_
  exact own_retA X2 hx Bd.returns rfl rfl (hb hby d10_8) Bd.notSynchronized (by decide) (by decide) ⟨_, _, _, rfl, N2, K2, Er2, Fv2, Fc2, Vb2⟩
def alphaI (k : Nat) : Int32 := Int32.ofNat (if k < 26 then 65 + k else 24 + k)
def idx (D N j : Nat) : Nat := if 5 * (j + 1) ≤ 8 * N then D / 2 ^ (59 - 5 * j) % 32 else D / 2 ^ (64 - 8 * N) * 2 ^ (5 * (j + 1) - 8 * N) % 32
def encL (D N c : Nat) : List Value := (List.range ((8 * N + 4) / 5)).map (fun j => if j < c then .int (alphaI (idx D N j)) else .int 0)
theorem idx_lt (D N j : Nat) : idx D N j < 32 := by unfold idx; split <;> exact Nat.mod_lt _ (by decide)
theorem alpha_fin : ∀ k : Fin 32, (alphaI k.1).toInt8.toInt32 = alphaI k.1 ∧ ¬ (255 : Int32) < alphaI k.1 ∧ (alphaI k.1 &&& 255) = alphaI k.1 ∧ fits .byte (.int (alphaI k.1)) = true ∧ (alphaI k.1).toInt = (if k.1 < 26 then 65 + (k.1 : Int) else 24 + (k.1 : Int)) := by decide +kernel
theorem encL_len (D N c : Nat) : (encL D N c).length = (8 * N + 4) / 5 := by simp [encL]
theorem encL_zero (D N : Nat) : encL D N 0 = List.replicate ((8 * N + 4) / 5) (.int 0) := by
  unfold encL
  apply List.ext_getElem
  · simp
  · intro i h1 h2
    simp
theorem encL_set (D N c : Nat) : (encL D N c).set c (.int (alphaI (idx D N c))) = encL D N (c + 1) := by
  apply List.ext_getElem
  · simp [encL]
  · intro i h1 h2
    rw [List.getElem_set]
    simp only [encL, List.getElem_map, List.getElem_range]
    split
    · rename_i q; subst q; rw [if_pos (Nat.lt_succ_self _)]
    · rename_i q
      by_cases h : i < c
      · rw [if_pos h, if_pos (Nat.lt_succ_of_lt h)]
      · rw [if_neg h, if_neg (by omega)]
theorem encL_fit (D N c : Nat) : ∀ v ∈ encL D N c, fits .byte v = true := by
  intro v hv
  simp only [encL, List.mem_map] at hv
  obtain ⟨j, -, rfl⟩ := hv
  split
  · exact (alpha_fin ⟨_, idx_lt D N j⟩).2.2.2.1
  · decide
theorem encL_at (D N j : Nat) (h : j < (8 * N + 4) / 5) : (encL D N ((8 * N + 4) / 5))[j]? = some (.int (alphaI (idx D N j))) := by
  simp [encL, h]
theorem own_divs (D i : Nat) (h : i < 8) : D / 2 ^ (64 - 8 * i) = D / 2 ^ (64 - 8 * (i + 1)) / 256 := by
  rw [Nat.div_div_eq_div_mul, show (256 : Nat) = 2 ^ 8 from rfl, ← Nat.pow_add]
  congr 2; omega
/-- the buffer takes one byte more -/
theorem own_buf (D i : Nat) (hi : i < 8) (buf b : Int32) (hb : (buf.toInt - ((D / 2 ^ (64 - 8 * i) : Nat) : Int)) % 4294967296 = 0) (hy : (b &&& 255).toInt = ((D / 2 ^ (64 - 8 * (i + 1)) % 256 : Nat) : Int)) :
    (((buf <<< ((8 : Int32) &&& 31)) ||| (b &&& 255)).toInt - ((D / 2 ^ (64 - 8 * (i + 1)) : Nat) : Int)) % 4294967296 = 0 := by
  have h1 := c_ishl buf 8 8 (by decide)
  have h2 := c_or (buf <<< ((8 : Int32) &&& 31)) (b &&& 255) 8 (by decide) 256 rfl
  have h3 := own_divs D i hi
  rw [h3] at hb
  generalize D / 2 ^ (64 - 8 * (i + 1)) = q at *
  omega
theorem own_lit (x : Int32) (k : Nat) (y : Int32) (hx : x.toInt = k) (hy : y.toInt = k) : x = y := Int32.toInt_inj.mp (hx.trans hy.symm)
/-- the five bits above the last r -/
theorem own_char (B r : Nat) (hr : r ≤ 7) (buf vb : Int32) (hb : (buf.toInt - (B : Int)) % 4294967296 = 0) (hvb : vb.toInt = r) :
    (((buf.toUInt32 >>> (vb &&& 31).toUInt32).toInt32) &&& (31 : Int32)).toInt = ((B / 2 ^ r % 32 : Nat) : Int) := by
  have hm := c_mask ((buf.toUInt32 >>> (vb &&& 31).toUInt32).toInt32) 31 5 (by decide) (by decide)
  rw [hm]
  have hR := rng32 buf
  rcases (by omega : r = 0 ∨ r = 1 ∨ r = 2 ∨ r = 3 ∨ r = 4 ∨ r = 5 ∨ r = 6 ∨ r = 7) with rfl | rfl | rfl | rfl | rfl | rfl | rfl | rfl
  · obtain rfl : vb = 0 := own_lit _ 0 _ hvb rfl
    have e : (buf.toUInt32 >>> ((0 : Int32) &&& 31).toUInt32).toInt32 = buf := by
      have : (((0 : Int32) &&& 31).toUInt32) = 0 := by decide
      rw [this]; simp
    rw [e]; omega
  · obtain rfl : vb = 1 := own_lit _ 1 _ hvb rfl
    have h := c_iushr buf 1 1 (by decide) (by decide)
    rw [h]; omega
  · obtain rfl : vb = 2 := own_lit _ 2 _ hvb rfl
    have h := c_iushr buf 2 2 (by decide) (by decide)
    rw [h]; omega
  · obtain rfl : vb = 3 := own_lit _ 3 _ hvb rfl
    have h := c_iushr buf 3 3 (by decide) (by decide)
    rw [h]; omega
  · obtain rfl : vb = 4 := own_lit _ 4 _ hvb rfl
    have h := c_iushr buf 4 4 (by decide) (by decide)
    rw [h]; omega
  · obtain rfl : vb = 5 := own_lit _ 5 _ hvb rfl
    have h := c_iushr buf 5 5 (by decide) (by decide)
    rw [h]; omega
  · obtain rfl : vb = 6 := own_lit _ 6 _ hvb rfl
    have h := c_iushr buf 6 6 (by decide) (by decide)
    rw [h]; omega
  · obtain rfl : vb = 7 := own_lit _ 7 _ hvb rfl
    have h := c_iushr buf 7 7 (by decide) (by decide)
    rw [h]; omega
theorem own_last (B r : Nat) (hr : 1 ≤ r) (hr4 : r ≤ 4) (buf vb : Int32) (hb : (buf.toInt - (B : Int)) % 4294967296 = 0) (hvb : vb.toInt = r) :
    ((buf <<< (((5 : Int32) - vb) &&& 31)) &&& (31 : Int32)).toInt = ((B * 2 ^ (5 - r) % 32 : Nat) : Int) := by
  have hm := c_mask (buf <<< (((5 : Int32) - vb) &&& 31)) 31 5 (by decide) (by decide)
  rw [hm]
  rcases (by omega : r = 1 ∨ r = 2 ∨ r = 3 ∨ r = 4) with rfl | rfl | rfl | rfl
  · obtain rfl : vb = 1 := own_lit _ 1 _ hvb rfl
    have h := c_ishl buf (5 - 1) 4 (by decide)
    omega
  · obtain rfl : vb = 2 := own_lit _ 2 _ hvb rfl
    have h := c_ishl buf (5 - 2) 3 (by decide)
    omega
  · obtain rfl : vb = 3 := own_lit _ 3 _ hvb rfl
    have h := c_ishl buf (5 - 3) 2 (by decide)
    omega
  · obtain rfl : vb = 4 := own_lit _ 4 _ hvb rfl
    have h := c_ishl buf (5 - 4) 1 (by decide)
    omega
theorem own_tn (x : Int32) : x.toNatClampNeg = x.toInt.toNat := rfl
theorem own_ltI {x y : Int32} : x < y ↔ x.toInt < y.toInt := Int32.lt_iff_toInt_lt
theorem own_len8 (vn : Int32) (N : Nat) (h : vn.toInt = N) (hN : N ≤ 8) : ((vn * (8 : Int32) + 4) / 5).toInt = (((8 * N + 4) / 5 : Nat) : Int) := by
  have h1 := c_imul vn 8
  rw [show (8 : Int32).toInt = 8 from rfl] at h1
  have h2 := rng32 (vn * 8)
  have h3 := c_iadd (vn * 8) 4
  have h4 := rng32 (vn * 8 + 4)
  have h5 := c_idiv (vn * 8 + 4) 5 5 rfl (by decide)
  have e1 : (8 : Int32).toInt = 8 := rfl
  have e2 : (4 : Int32).toInt = 4 := rfl
  omega
theorem own_len8' (vn : Int32) (N : Nat) (h : vn.toInt = N) (hN : N ≤ 8) : (((8 : Int32) * vn + 4) / 5).toInt = (((8 * N + 4) / 5 : Nat) : Int) := by
  rw [Int32.mul_comm]; exact own_len8 vn N h hN
theorem own_nneg {v : Int32} {c : Nat} (h : v.toInt = c) : ¬ v < 0 := by rw [own_ltI]; have e : (0 : Int32).toInt = 0 := rfl; omega
theorem own_inc {v : Int32} {c : Nat} (h : v.toInt = c) (hc : c ≤ 1000) : (v + 1).toInt = ((c + 1 : Nat) : Int) := by
  have h1 := c_iadd v 1
  have h2 := rng32 (v + 1)
  have e : (1 : Int32).toInt = 1 := rfl
  omega
theorem own_add8 {v : Int32} {c : Nat} (h : v.toInt = c) (hc : c ≤ 1000) : (v + 8).toInt = ((c + 8 : Nat) : Int) := by
  have h1 := c_iadd v 8
  have h2 := rng32 (v + 8)
  have e : (8 : Int32).toInt = 8 := rfl
  omega
theorem own_sub5 {v : Int32} {r : Nat} (h : v.toInt = r) (h5 : 5 ≤ r) (h12 : r ≤ 12) : (v + (-5 : Int32)).toInt = ((r - 5 : Nat) : Int) := by
  have h1 := c_iadd v (-5)
  have h2 := rng32 (v + (-5 : Int32))
  have e : (-5 : Int32).toInt = -5 := by decide
  omega
theorem own_room {v z : Int32} {c L : Nat} (h : v.toInt = c) (hz : z.toInt = L) (hc : c + 1 ≤ L) (hL : L ≤ 1000) : ¬ (0 : Int32) < (v + 1) - z := by
  have h0 := own_inc h (by omega)
  have h1 := c_isub (v + 1) z
  have h2 := rng32 ((v + 1) - z)
  have e : (0 : Int32).toInt = 0 := rfl
  rw [own_ltI]
  omega
theorem own_idx (D N c i r : Nat) (h : 5 * c + r + 5 = 8 * (i + 1)) (hi : i < N) (hN : N ≤ 8) : D / 2 ^ (64 - 8 * (i + 1)) / 2 ^ r % 32 = idx D N c := by
  have h1 : 5 * (c + 1) ≤ 8 * N := by omega
  have h2 : 64 - 8 * (i + 1) + r = 59 - 5 * c := by omega
  unfold idx
  rw [if_pos h1, Nat.div_div_eq_div_mul, ← Nat.pow_add, h2]
theorem own_idxl (D N : Nat) (h : 1 ≤ 8 * N % 5) : D / 2 ^ (64 - 8 * N) * 2 ^ (5 - 8 * N % 5) % 32 = idx D N (8 * N / 5) := by
  have h1 : ¬ 5 * (8 * N / 5 + 1) ≤ 8 * N := by omega
  have h2 : 5 * (8 * N / 5 + 1) - 8 * N = 5 - 8 * N % 5 := by omega
  unfold idx
  rw [if_neg h1, h2]
theorem own_ix0 {q : Int32} {k : Nat} (h : q.toInt = k) (hk : k < 32) : ¬ q < 0 ∧ q < 32 := by
  have e : (32 : Int32).toInt = 32 := rfl
  exact ⟨own_nneg h, by rw [own_ltI]; omega⟩
theorem own_tnc {v : Int32} {c : Nat} (h : v.toInt = c) : v.toNatClampNeg = c := by rw [own_tn, h]; rfl
theorem own_jz {z : Int32} {j : Nat} {N : Nat} {q : Int32} (hc : q < z) (hz : z.toInt = (((8 * N + 4) / 5 : Nat) : Int)) (hj : q.toInt = j := by rfl) : j < (8 * N + 4) / 5 := by rw [own_ltI] at hc; omega
theorem own_os7 {z0 z1 z2 z3 z4 z5 z6 : Value} {s7 : Slot} {v : Int32} (h : One s7) : storeLocals #[.val z0, .val z1, .val z2, .val z3, .val z4, .val z5, .val z6, s7] 7 (.int v) = some #[.val z0, .val z1, .val z2, .val z3, .val z4, .val z5, .val z6, .val (.int v)] := by
  rcases h with rfl | ⟨w, rfl, hw⟩
  · rfl
  · cases w <;> first | rfl | (simp [Value.category] at hw)
theorem d1_0 : decode prog_7_method_2_code 0 = .ok (.new 7, 3) := by decide +kernel
theorem d1_3 : decode prog_7_method_2_code 3 = .ok (.dup, 1) := by decide +kernel
theorem d1_4 : decode prog_7_method_2_code 4 = .ok (.aload_n 0, 1) := by decide +kernel
theorem d1_5 : decode prog_7_method_2_code 5 = .ok (.arraylength, 1) := by decide +kernel
theorem d1_6 : decode prog_7_method_2_code 6 = .ok (.bipush 8, 2) := by decide +kernel
theorem d1_8 : decode prog_7_method_2_code 8 = .ok (.imul, 1) := by decide +kernel
theorem d1_9 : decode prog_7_method_2_code 9 = .ok (.iconst 4, 1) := by decide +kernel
theorem d1_10 : decode prog_7_method_2_code 10 = .ok (.iadd, 1) := by decide +kernel
theorem d1_11 : decode prog_7_method_2_code 11 = .ok (.iconst 5, 1) := by decide +kernel
theorem d1_12 : decode prog_7_method_2_code 12 = .ok (.idiv, 1) := by decide +kernel
theorem d1_13 : decode prog_7_method_2_code 13 = .ok (.invokespecial 11, 3) := by decide +kernel
theorem d1_16 : decode prog_7_method_2_code 16 = .ok (.astore_n 1, 1) := by decide +kernel
theorem d1_17 : decode prog_7_method_2_code 17 = .ok (.iconst 0, 1) := by decide +kernel
theorem d1_18 : decode prog_7_method_2_code 18 = .ok (.istore_n 2, 1) := by decide +kernel
theorem d1_19 : decode prog_7_method_2_code 19 = .ok (.iconst 0, 1) := by decide +kernel
theorem d1_20 : decode prog_7_method_2_code 20 = .ok (.istore_n 3, 1) := by decide +kernel
theorem d1_21 : decode prog_7_method_2_code 21 = .ok (.aload_n 0, 1) := by decide +kernel
theorem d1_22 : decode prog_7_method_2_code 22 = .ok (.astore 4, 2) := by decide +kernel
theorem d1_24 : decode prog_7_method_2_code 24 = .ok (.aload 4, 2) := by decide +kernel
theorem d1_26 : decode prog_7_method_2_code 26 = .ok (.arraylength, 1) := by decide +kernel
theorem d1_27 : decode prog_7_method_2_code 27 = .ok (.istore 5, 2) := by decide +kernel
theorem d1_29 : decode prog_7_method_2_code 29 = .ok (.iconst 0, 1) := by decide +kernel
theorem d1_30 : decode prog_7_method_2_code 30 = .ok (.istore 6, 2) := by decide +kernel
theorem d1_32 : decode prog_7_method_2_code 32 = .ok (.iload 6, 2) := by decide +kernel
theorem d1_34 : decode prog_7_method_2_code 34 = .ok (.iload 5, 2) := by decide +kernel
theorem d1_36 : decode prog_7_method_2_code 36 = .ok (.if_icmp .ge 57, 3) := by decide +kernel
theorem d1_39 : decode prog_7_method_2_code 39 = .ok (.aload 4, 2) := by decide +kernel
theorem d1_41 : decode prog_7_method_2_code 41 = .ok (.iload 6, 2) := by decide +kernel
theorem d1_43 : decode prog_7_method_2_code 43 = .ok (.baload, 1) := by decide +kernel
theorem d1_44 : decode prog_7_method_2_code 44 = .ok (.istore 7, 2) := by decide +kernel
theorem d1_46 : decode prog_7_method_2_code 46 = .ok (.iload_n 2, 1) := by decide +kernel
theorem d1_47 : decode prog_7_method_2_code 47 = .ok (.bipush 8, 2) := by decide +kernel
theorem d1_49 : decode prog_7_method_2_code 49 = .ok (.ishl, 1) := by decide +kernel
theorem d1_50 : decode prog_7_method_2_code 50 = .ok (.iload 7, 2) := by decide +kernel
theorem d1_52 : decode prog_7_method_2_code 52 = .ok (.sipush 255, 3) := by decide +kernel
theorem d1_55 : decode prog_7_method_2_code 55 = .ok (.iand, 1) := by decide +kernel
theorem d1_56 : decode prog_7_method_2_code 56 = .ok (.ior, 1) := by decide +kernel
theorem d1_57 : decode prog_7_method_2_code 57 = .ok (.istore_n 2, 1) := by decide +kernel
theorem d1_58 : decode prog_7_method_2_code 58 = .ok (.iinc 3 8, 3) := by decide +kernel
theorem d1_61 : decode prog_7_method_2_code 61 = .ok (.iload_n 3, 1) := by decide +kernel
theorem d1_62 : decode prog_7_method_2_code 62 = .ok (.iconst 5, 1) := by decide +kernel
theorem d1_63 : decode prog_7_method_2_code 63 = .ok (.if_icmp .lt 24, 3) := by decide +kernel
theorem d1_66 : decode prog_7_method_2_code 66 = .ok (.iinc 3 (-5), 3) := by decide +kernel
theorem d1_69 : decode prog_7_method_2_code 69 = .ok (.aload_n 1, 1) := by decide +kernel
theorem d1_70 : decode prog_7_method_2_code 70 = .ok (.getstatic 14, 3) := by decide +kernel
theorem d1_73 : decode prog_7_method_2_code 73 = .ok (.iload_n 2, 1) := by decide +kernel
theorem d1_74 : decode prog_7_method_2_code 74 = .ok (.iload_n 3, 1) := by decide +kernel
theorem d1_75 : decode prog_7_method_2_code 75 = .ok (.iushr, 1) := by decide +kernel
theorem d1_76 : decode prog_7_method_2_code 76 = .ok (.bipush 31, 2) := by decide +kernel
theorem d1_78 : decode prog_7_method_2_code 78 = .ok (.iand, 1) := by decide +kernel
theorem d1_79 : decode prog_7_method_2_code 79 = .ok (.caload, 1) := by decide +kernel
theorem d1_80 : decode prog_7_method_2_code 80 = .ok (.invokevirtual 18, 3) := by decide +kernel
theorem d1_83 : decode prog_7_method_2_code 83 = .ok (.pop, 1) := by decide +kernel
theorem d1_84 : decode prog_7_method_2_code 84 = .ok (.goto (-23), 3) := by decide +kernel
theorem d1_87 : decode prog_7_method_2_code 87 = .ok (.iinc 6 1, 3) := by decide +kernel
theorem d1_90 : decode prog_7_method_2_code 90 = .ok (.goto (-58), 3) := by decide +kernel
theorem d1_93 : decode prog_7_method_2_code 93 = .ok (.iload_n 3, 1) := by decide +kernel
theorem d1_94 : decode prog_7_method_2_code 94 = .ok (.ifCond .le 20, 3) := by decide +kernel
theorem d1_97 : decode prog_7_method_2_code 97 = .ok (.aload_n 1, 1) := by decide +kernel
theorem d1_98 : decode prog_7_method_2_code 98 = .ok (.getstatic 14, 3) := by decide +kernel
theorem d1_101 : decode prog_7_method_2_code 101 = .ok (.iload_n 2, 1) := by decide +kernel
theorem d1_102 : decode prog_7_method_2_code 102 = .ok (.iconst 5, 1) := by decide +kernel
theorem d1_103 : decode prog_7_method_2_code 103 = .ok (.iload_n 3, 1) := by decide +kernel
theorem d1_104 : decode prog_7_method_2_code 104 = .ok (.isub, 1) := by decide +kernel
theorem d1_105 : decode prog_7_method_2_code 105 = .ok (.ishl, 1) := by decide +kernel
theorem d1_106 : decode prog_7_method_2_code 106 = .ok (.bipush 31, 2) := by decide +kernel
theorem d1_108 : decode prog_7_method_2_code 108 = .ok (.iand, 1) := by decide +kernel
theorem d1_109 : decode prog_7_method_2_code 109 = .ok (.caload, 1) := by decide +kernel
theorem d1_110 : decode prog_7_method_2_code 110 = .ok (.invokevirtual 18, 3) := by decide +kernel
theorem d1_113 : decode prog_7_method_2_code 113 = .ok (.pop, 1) := by decide +kernel
theorem d1_114 : decode prog_7_method_2_code 114 = .ok (.aload_n 1, 1) := by decide +kernel
theorem d1_115 : decode prog_7_method_2_code 115 = .ok (.invokevirtual 22, 3) := by decide +kernel
theorem d1_118 : decode prog_7_method_2_code 118 = .ok (.areturn, 1) := by decide +kernel
theorem pn_5 : plainName "com/example/idpd/idpd/Base32" = true := by first | (simp [plainName, overriddenIn]; done) | decide +kernel
theorem ef_rmEnc (m : MethodId) (a : Addr) : entryFrame m #[(.ref a)] 8 = mkF m 0 #[.val (.ref a), .unset, .unset, .unset, .unset, .unset, .unset, .unset] [] := by first | (simp [entryFrame, mkF, argsToLocals, Value.category, maxLocals]; done) | rfl
set_option maxRecDepth 65536 in
set_option maxHeartbeats 40000000 in
theorem rmEnc (l : Launch) (Z : State) (a0 : Array Value) (hw : ∀ d ∈ tables_1, d.before a0 Z = true) (ws : List Jvm.Cond) (a : Addr) (ka : ClassId) (bs : List Value) (D N : Nat) (vn cz : Int32) (al : Addr) (cal : Cell) (h0 : Heap) (n0 : Nat) (Z0 : n0 ≤ h0.size) (Va : OwnA Z h0 a ka .byte bs) (hbl : bs.length = N) (hN : N ≤ 8) (hD : D < 2 ^ 64) (hvn : vn.toInt = N) (hbs : ∀ j, j < N → ∃ b : Int32, bs[j]? = some (.int b) ∧ (b &&& 255).toInt = ((D / 2 ^ (64 - 8 * (j + 1)) % 256 : Nat) : Int)) (Sal : Sta Z h0 "com/example/idpd/idpd/Base32" "ALPHABET" "[C" (.ref al)) (Aal : Arr Z h0 al cal .char) (hal0 : cal.slots.size = (32 : Int32).toNatClampNeg) (hal : ∀ q : Int32, ∀ k : Nat, k < 32 → q.toInt = k → cal.slots[q.toNatClampNeg]? = some (.int (alphaI k))) (Sc : Sta Z h0 "java/lang/String" "COMPACT_STRINGS" "Z" (.int cz)) (hcz : ¬ cz = 0) :
    MetFree l (⟨"com/example/idpd/idpd/Base32", "encode", "([B)Ljava/lang/String;"⟩ : MethodName) (head1 (Jvm.Cond.code (⟨"com/example/idpd/idpd/Base32", "encode", "([B)Ljava/lang/String;"⟩ : MethodName) prog_7_method_2_code (8 : Nat) (Option.some (Jvm.ClassFile.FieldType.object "java/lang/String")) :: ws) ({ frames := 5, cells := 4, slots := 34, locals := 71 } : Room)) (fun aZ UZ => aZ = #[(.ref a)] ∧ Z.Warmed39 UZ.vm ∧ UZ.heap = h0) (fun _ _ _ _ _ => True) (fun _ UZ oZ VZ => ∃ vZ LZ, oZ = .returned vZ ∧ (QStr Z (encL D N ((8 * N + 4) / 5)) h0 n0) vZ VZ.heap LZ ∧ FrameEnd UZ oZ VZ LZ ({ frames := 5, cells := 4, slots := 34, locals := 71 } : Room).cells ({ frames := 5, cells := 4, slots := 34, locals := 71 } : Room).slots) := by
  refine MetFree.of_bodySF (plainFor_of_name pn_5) hisR ?_
  intro p e s m args below meth c s₁ Bd hml0 hP hK
  obtain ⟨rfl, hZ, hh⟩ := hP
  have hx := Bd.exec
  have hby := Bd.bytes
  have hml : c.maxLocals = 8 := hml0
  have hown : s.vm.findClass "com/example/idpd/idpd/Base32" = some m.cls := findClass_of_methodNamed Bd.named
  have hnm := (name_of_methodNamed Bd.named Bd.method).1
  have X0 : Stand p l e ({ frames := 5, cells := 4, slots := 34, locals := 71 } : Room) s m #[(.ref a)] below meth c s₁ [] 0 0 := Stand.of_body Bd
  have e0 : s₁.heap = h0 := by rw [← hh, Bd.state]; rfl
  have N0 := Fr.nil n0
  show OwnG p e below (OwnE s (QStr Z (encL D N ((8 * N + 4) / 5)) h0 n0) ({ frames := 5, cells := 4, slots := 34, locals := 71 } : Room).cells ({ frames := 5, cells := 4, slots := 34, locals := 71 } : Room).slots) _
  refine own_by (S' := s₁.setTop (mkF m 0 #[.val (.ref a), .unset, .unset, .unset, .unset, .unset, .unset, .unset] [])) (fun tZ kZ => castTop (ef_rmEnc m a) kZ) ?_
  have hlb : bs.length = vn.toNatClampNeg := by rw [own_tnc hvn, hbl]
  have hv0 := own_nneg hvn
  have hzl := own_len8 vn N hvn hN
  obtain ⟨T1, h1, X1, e1, E1, A1, D1, -, st1⟩ := newO X0 hx hZ hown (hw _ (List.mem_of_getElem? (i := 6) rfl)) (hw _ (List.mem_of_getElem? (i := 7) rfl)) (hw _ (List.mem_of_getElem? (i := 8) rfl)) e0 (g := (mkF m 0 #[.val (.ref a), .unset, .unset, .unset, .unset, .unset, .unset, .unset] [])) rfl (hb hby d1_0) (by decide) (by decide)
  obtain ⟨b1, g1⟩ : ∃ z, z = h0.size := ⟨_, rfl⟩
  rw [← g1] at A1 D1 st1
  have g_b1 : n0 ≤ b1 := Nat.le_trans Z0 (Nat.le_of_eq g1.symm)
  have sz_b1 : h0.size ≤ b1 := Nat.le_trans (Keep.refl h0 []).1 (Nat.le_of_eq g1.symm)
  have Zs1 : n0 ≤ h1.size := Nat.le_trans Z0 E1.1
  have K1 := (Keep.refl h0 []).ext E1
  have Ex_b1 := A1
  have F_value_b1 : Fld Z h1 b1 "java/lang/AbstractStringBuilder" "value" "[B" .null := D1 (Or.inl (hw _ (List.mem_of_getElem? (i := 24) rfl))) (ty := (.array .byte)) (by decide)
  have F_coder_b1 : Fld Z h1 b1 "java/lang/AbstractStringBuilder" "coder" "B" (.int (0 : Int32)) := D1 (Or.inl (hw _ (List.mem_of_getElem? (i := 26) rfl))) (ty := .byte) (by decide)
  have F_count_b1 : Fld Z h1 b1 "java/lang/AbstractStringBuilder" "count" "I" (.int (0 : Int32)) := D1 (Or.inl (hw _ (List.mem_of_getElem? (i := 40) rfl))) (ty := .int) (by decide)
  refine own_by (S' := T1.setTop (mkF m 3 #[.val (.ref a), .unset, .unset, .unset, .unset, .unset, .unset, .unset] [(.ref b1)])) st1 ?_
  refine own_by (S' := T1.setTop (mkF m 4 #[.val (.ref a), .unset, .unset, .unset, .unset, .unset, .unset, .unset] [(.ref b1), (.ref b1)])) (fun tZ kZ => XS.dup X1.here hx rfl (hb hby d1_3) rfl rfl kZ) ?_
  refine own_by (S' := T1.setTop (mkF m 5 #[.val (.ref a), .unset, .unset, .unset, .unset, .unset, .unset, .unset] [(.ref a), (.ref b1), (.ref b1)])) (fun tZ kZ => XS.aloadN X1.here hx rfl (hb hby d1_4) rfl rfl kZ) ?_
  have ExK1 := own_ext0 K1
  obtain ⟨cc2, Ar2, hc2, hl2⟩ := id (Va.ext ExK1)
  refine own_by (S' := T1.setTop (mkF m 6 #[.val (.ref a), .unset, .unset, .unset, .unset, .unset, .unset, .unset] [(.int vn), (.ref b1), (.ref b1)])) (fun tZ kZ => X1.arraylength hx (by rw [e1]; exact Ar2.1) (State.isArrayOf_alike hZ.alike Ar2.2.1) (g := (mkF m 5 #[.val (.ref a), .unset, .unset, .unset, .unset, .unset, .unset, .unset] [(.ref a), (.ref b1), (.ref b1)])) rfl rfl (hb hby d1_5) _ (by rw [len_of (OwnA.size (z := vn) hl2 hlb) hv0]; exact kZ)) ?_
  refine own_by (S' := T1.setTop (mkF m 8 #[.val (.ref a), .unset, .unset, .unset, .unset, .unset, .unset, .unset] [(.int (8 : Int32)), (.int vn), (.ref b1), (.ref b1)])) (fun tZ kZ => XS.bipush X1.here hx rfl (hb hby d1_6) kZ) ?_
  refine own_by (S' := T1.setTop (mkF m 9 #[.val (.ref a), .unset, .unset, .unset, .unset, .unset, .unset, .unset] [(.int (vn * (8 : Int32))), (.ref b1), (.ref b1)])) (fun tZ kZ => XS.imul X1.here hx rfl (hb hby d1_8) rfl kZ) ?_
  refine own_by (S' := T1.setTop (mkF m 10 #[.val (.ref a), .unset, .unset, .unset, .unset, .unset, .unset, .unset] [(.int (4 : Int32)), (.int (vn * (8 : Int32))), (.ref b1), (.ref b1)])) (fun tZ kZ => XS.iconst X1.here hx rfl (hb hby d1_9) kZ) ?_
  refine own_by (S' := T1.setTop (mkF m 11 #[.val (.ref a), .unset, .unset, .unset, .unset, .unset, .unset, .unset] [(.int ((vn * (8 : Int32)) + (4 : Int32))), (.ref b1), (.ref b1)])) (fun tZ kZ => XS.iadd X1.here hx rfl (hb hby d1_10) rfl kZ) ?_
  refine own_by (S' := T1.setTop (mkF m 12 #[.val (.ref a), .unset, .unset, .unset, .unset, .unset, .unset, .unset] [(.int (5 : Int32)), (.int ((vn * (8 : Int32)) + (4 : Int32))), (.ref b1), (.ref b1)])) (fun tZ kZ => XS.iconst X1.here hx rfl (hb hby d1_11) kZ) ?_
  refine own_by (S' := T1.setTop (mkF m 13 #[.val (.ref a), .unset, .unset, .unset, .unset, .unset, .unset, .unset] [(.int (((vn * (8 : Int32)) + (4 : Int32)) / (5 : Int32))), (.ref b1), (.ref b1)])) (fun tZ kZ => XS.idiv X1.here hx rfl (hb hby d1_12) rfl (by decide) kZ) ?_
  obtain ⟨z, hz⟩ : ∃ z : Int32, z = (((vn * (8 : Int32)) + (4 : Int32)) / (5 : Int32)) := ⟨_, rfl⟩
  rw [← hz]
  rw [← hz] at hzl
  have hz0 := own_nneg hzl
  have hz1 := own_tnc hzl
  obtain ⟨_, _, ⟨T3, L3, k3, n3⟩, -, X3, ⟨Lc3, hQ3, l3, y3, z3⟩, st3⟩ := X1.specialBack hx (y := (⟨"java/lang/StringBuilder", "<init>", "(I)V"⟩ : MethodName)) rfl hown (mvT hZ (hw _ (List.mem_of_getElem? (i := 9) rfl))) (mvT hZ (hw _ (List.mem_of_getElem? (i := 10) rfl))) (mvT hZ (hw _ (List.mem_of_getElem? (i := 11) rfl))) (by decide) (backOf (W := 1) (rmSI l Z a0 hw [] b1 z cz h1 n0 Zs1 Ex_b1 F_value_b1 F_coder_b1 F_count_b1 g_b1 hz0 (by rw [hz1]; omega) (Sc.ext ExK1) hcz) hZ (hw _ (List.mem_of_getElem? (i := 11) rfl)) (hw _ (List.mem_of_getElem? (i := 8) rfl)) (by decide) (by decide)) (g := (mkF m 13 #[.val (.ref a), .unset, .unset, .unset, .unset, .unset, .unset, .unset] [(.int z), (.ref b1), (.ref b1)])) rfl (by rw [hml]; rfl) (Steps.refl _) (a := b1) (argsL := [(.int z)]) (rest := [(.ref b1)]) (lenOf pd_0 rfl) rfl (by show 2 * 0 + _ ≤ _; exact Nat.le_of_eq rfl) (hb hby d1_13) (fun _ _ => ⟨rfl, e1, (by decide : 1 + 1 ≤ _), (by decide : 4 + 13 ≤ _)⟩)
  dsimp only [Pt.U, Pt.locs, Pt.cells, Pt.slots] at X3 l3 y3 z3 st3 hQ3
  subst l3 y3 z3
  obtain ⟨rfl, N3q, Kc3, bv, kv, g_bv, sz_bv0, B3⟩ := hQ3
  have N3 := Fr.app N0 N3q
  have Zs3 := Nat.le_trans Zs1 Kc3.1
  have K3 := K1.trans Kc3 (fun x hx => by
      simp only [List.mem_cons, List.not_mem_nil, or_false] at hx
      rcases hx with rfl
      · exact Or.inr sz_b1)
  have Ex_b1_3 := Ex_b1.keep Kc3
  refine own_by (S' := T3.setTop (mkF m 16 #[.val (.ref a), .unset, .unset, .unset, .unset, .unset, .unset, .unset] [(.ref b1)])) (fun tZ kZ => st3.trans kZ) ?_
  have sz_bv : h0.size ≤ bv := Nat.le_trans K1.1 sz_bv0
  rw [hz1, ← encL_zero D N] at B3
  have hlz : ∀ c, (encL D N c).length = z.toNatClampNeg := fun c => by rw [encL_len, hz1]
  refine own_by (S' := T3.setTop (mkF m 17 #[.val (.ref a), .val (.ref b1), .unset, .unset, .unset, .unset, .unset, .unset] [])) (fun tZ kZ => XS.astoreN X3.here hx rfl (hb hby d1_16) rfl rfl (l' := #[.val (.ref a), .val (.ref b1), .unset, .unset, .unset, .unset, .unset, .unset]) rfl kZ) ?_
  refine own_by (S' := T3.setTop (mkF m 18 #[.val (.ref a), .val (.ref b1), .unset, .unset, .unset, .unset, .unset, .unset] [(.int (0 : Int32))])) (fun tZ kZ => XS.iconst X3.here hx rfl (hb hby d1_17) kZ) ?_
  refine own_by (S' := T3.setTop (mkF m 19 #[.val (.ref a), .val (.ref b1), .val (.int (0 : Int32)), .unset, .unset, .unset, .unset, .unset] [])) (fun tZ kZ => XS.istoreN X3.here hx rfl (hb hby d1_18) rfl (l' := #[.val (.ref a), .val (.ref b1), .val (.int (0 : Int32)), .unset, .unset, .unset, .unset, .unset]) rfl kZ) ?_
  refine own_by (S' := T3.setTop (mkF m 20 #[.val (.ref a), .val (.ref b1), .val (.int (0 : Int32)), .unset, .unset, .unset, .unset, .unset] [(.int (0 : Int32))])) (fun tZ kZ => XS.iconst X3.here hx rfl (hb hby d1_19) kZ) ?_
  refine own_by (S' := T3.setTop (mkF m 21 #[.val (.ref a), .val (.ref b1), .val (.int (0 : Int32)), .val (.int (0 : Int32)), .unset, .unset, .unset, .unset] [])) (fun tZ kZ => XS.istoreN X3.here hx rfl (hb hby d1_20) rfl (l' := #[.val (.ref a), .val (.ref b1), .val (.int (0 : Int32)), .val (.int (0 : Int32)), .unset, .unset, .unset, .unset]) rfl kZ) ?_
  refine own_by (S' := T3.setTop (mkF m 22 #[.val (.ref a), .val (.ref b1), .val (.int (0 : Int32)), .val (.int (0 : Int32)), .unset, .unset, .unset, .unset] [(.ref a)])) (fun tZ kZ => XS.aloadN X3.here hx rfl (hb hby d1_21) rfl rfl kZ) ?_
  refine own_by (S' := T3.setTop (mkF m 24 #[.val (.ref a), .val (.ref b1), .val (.int (0 : Int32)), .val (.int (0 : Int32)), .val (.ref a), .unset, .unset, .unset] [])) (fun tZ kZ => XS.astore X3.here hx rfl (hb hby d1_22) rfl rfl (l' := #[.val (.ref a), .val (.ref b1), .val (.int (0 : Int32)), .val (.int (0 : Int32)), .val (.ref a), .unset, .unset, .unset]) rfl kZ) ?_
  refine own_by (S' := T3.setTop (mkF m 26 #[.val (.ref a), .val (.ref b1), .val (.int (0 : Int32)), .val (.int (0 : Int32)), .val (.ref a), .unset, .unset, .unset] [(.ref a)])) (fun tZ kZ => XS.aload X3.here hx rfl (hb hby d1_24) rfl rfl kZ) ?_
  have ExK3 := own_ext0 K3
  obtain ⟨cc4, Ar4, hc4, hl4⟩ := id (Va.ext ExK3)
  refine own_by (S' := T3.setTop (mkF m 27 #[.val (.ref a), .val (.ref b1), .val (.int (0 : Int32)), .val (.int (0 : Int32)), .val (.ref a), .unset, .unset, .unset] [(.int vn)])) (fun tZ kZ => X3.arraylength hx Ar4.1 (State.isArrayOf_alike hZ.alike Ar4.2.1) (g := (mkF m 26 #[.val (.ref a), .val (.ref b1), .val (.int (0 : Int32)), .val (.int (0 : Int32)), .val (.ref a), .unset, .unset, .unset] [(.ref a)])) rfl rfl (hb hby d1_26) _ (by rw [len_of (OwnA.size (z := vn) hl4 hlb) hv0]; exact kZ)) ?_
  refine own_by (S' := T3.setTop (mkF m 29 #[.val (.ref a), .val (.ref b1), .val (.int (0 : Int32)), .val (.int (0 : Int32)), .val (.ref a), .val (.int vn), .unset, .unset] [])) (fun tZ kZ => XS.istore X3.here hx rfl (hb hby d1_27) rfl (l' := #[.val (.ref a), .val (.ref b1), .val (.int (0 : Int32)), .val (.int (0 : Int32)), .val (.ref a), .val (.int vn), .unset, .unset]) rfl kZ) ?_
  refine own_by (S' := T3.setTop (mkF m 30 #[.val (.ref a), .val (.ref b1), .val (.int (0 : Int32)), .val (.int (0 : Int32)), .val (.ref a), .val (.int vn), .unset, .unset] [(.int (0 : Int32))])) (fun tZ kZ => XS.iconst X3.here hx rfl (hb hby d1_29) kZ) ?_
  refine own_by (S' := T3.setTop (mkF m 32 #[.val (.ref a), .val (.ref b1), .val (.int (0 : Int32)), .val (.int (0 : Int32)), .val (.ref a), .val (.int vn), .val (.int (0 : Int32)), .unset] [])) (fun tZ kZ => XS.istore X3.here hx rfl (hb hby d1_30) rfl (l' := #[.val (.ref a), .val (.ref b1), .val (.int (0 : Int32)), .val (.int (0 : Int32)), .val (.ref a), .val (.int vn), .val (.int (0 : Int32)), .unset]) rfl kZ) ?_
  have J93 : ∀ (Tj5 : State) (Lj5 : List Loc) (hj5 : Heap) (vi vb buf vc : Int32) (s7 : Slot) (Xj5 : Stand p l e ({ frames := 5, cells := 4, slots := 34, locals := 71 } : Room) s m #[(.ref a)] below meth c Tj5 Lj5 2 17) (ej5 : Tj5.heap = hj5) (Nj5 : Fr n0 Lj5) (Kj5 : Keep h0 hj5 []) (hvb : vb.toInt = ((8 * N % 5 : Nat) : Int)) (hbuf : (buf.toInt - ((D / 2 ^ (64 - 8 * N) : Nat) : Int)) % 4294967296 = 0) (hvc : vc.toInt = ((8 * N / 5 : Nat) : Int)) (SBj : OwnSB Z hj5 b1 bv kv (encL D N (8 * N / 5)) vc) (hs7 : One s7), OwnG p e below (OwnE s (QStr Z (encL D N ((8 * N + 4) / 5)) h0 n0) ({ frames := 5, cells := 4, slots := 34, locals := 71 } : Room).cells ({ frames := 5, cells := 4, slots := 34, locals := 71 } : Room).slots) (Tj5.setTop (mkF m 93 #[.val (.ref a), .val (.ref b1), .val (.int buf), .val (.int vb), .val (.ref a), .val (.int vn), .val (.int vi), s7] [])) := by
    intro Tj5 Lj5 hj5 vi vb buf vc s7 Xj5 ej5 Nj5 Kj5 hvb hbuf hvc SBj hs7
    refine own_by (S' := Tj5.setTop (mkF m 94 #[.val (.ref a), .val (.ref b1), .val (.int buf), .val (.int vb), .val (.ref a), .val (.int vn), .val (.int vi), s7] [(.int vb)])) (fun tZ kZ => XS.iloadN Xj5.here hx rfl (hb hby d1_93) rfl kZ) ?_
    by_cases hz5 : (0 : Int32) < vb
    · refine own_by (S' := Tj5.setTop (mkF m 97 #[.val (.ref a), .val (.ref b1), .val (.int buf), .val (.int vb), .val (.ref a), .val (.int vn), .val (.int vi), s7] [])) (fun tZ kZ => XS.ifNo Xj5.here hx rfl (hb hby d1_94) rfl ((if0 _ _).trans (tlt hz5).2.2.2) kZ) ?_
      have hb1 : 1 ≤ 8 * N % 5 := by rw [own_ltI] at hz5; have e : (0 : Int32).toInt = 0 := rfl; omega
      have hc8 : (8 * N + 4) / 5 = 8 * N / 5 + 1 := by omega
      have hix := own_last _ (8 * N % 5) hb1 (by omega) buf vb hbuf hvb
      rw [own_idxl D N hb1] at hix
      refine own_by (S' := Tj5.setTop (mkF m 98 #[.val (.ref a), .val (.ref b1), .val (.int buf), .val (.int vb), .val (.ref a), .val (.int vn), .val (.int vi), s7] [(.ref b1)])) (fun tZ kZ => XS.aloadN Xj5.here hx rfl (hb hby d1_97) rfl rfl kZ) ?_
      have ExKj5 := own_ext0 Kj5
      obtain ⟨T7, X7, e7, st7⟩ := getS2 Xj5 hx hZ hown (host := "") (Or.inl (hw _ (List.mem_of_getElem? (i := 27) rfl))) Via.refl ej5 (Sal.ext ExKj5) (g := (mkF m 98 #[.val (.ref a), .val (.ref b1), .val (.int buf), .val (.int vb), .val (.ref a), .val (.int vn), .val (.int vi), s7] [(.ref b1)])) rfl (hb hby d1_98)
      refine own_by (S' := T7.setTop (mkF m 101 #[.val (.ref a), .val (.ref b1), .val (.int buf), .val (.int vb), .val (.ref a), .val (.int vn), .val (.int vi), s7] [(.ref al), (.ref b1)])) st7 ?_
      refine own_by (S' := T7.setTop (mkF m 102 #[.val (.ref a), .val (.ref b1), .val (.int buf), .val (.int vb), .val (.ref a), .val (.int vn), .val (.int vi), s7] [(.int buf), (.ref al), (.ref b1)])) (fun tZ kZ => XS.iloadN X7.here hx rfl (hb hby d1_101) rfl kZ) ?_
      refine own_by (S' := T7.setTop (mkF m 103 #[.val (.ref a), .val (.ref b1), .val (.int buf), .val (.int vb), .val (.ref a), .val (.int vn), .val (.int vi), s7] [(.int (5 : Int32)), (.int buf), (.ref al), (.ref b1)])) (fun tZ kZ => XS.iconst X7.here hx rfl (hb hby d1_102) kZ) ?_
      refine own_by (S' := T7.setTop (mkF m 104 #[.val (.ref a), .val (.ref b1), .val (.int buf), .val (.int vb), .val (.ref a), .val (.int vn), .val (.int vi), s7] [(.int vb), (.int (5 : Int32)), (.int buf), (.ref al), (.ref b1)])) (fun tZ kZ => XS.iloadN X7.here hx rfl (hb hby d1_103) rfl kZ) ?_
      refine own_by (S' := T7.setTop (mkF m 105 #[.val (.ref a), .val (.ref b1), .val (.int buf), .val (.int vb), .val (.ref a), .val (.int vn), .val (.int vi), s7] [(.int ((5 : Int32) - vb)), (.int buf), (.ref al), (.ref b1)])) (fun tZ kZ => XS.isub X7.here hx rfl (hb hby d1_104) rfl kZ) ?_
      refine own_by (S' := T7.setTop (mkF m 106 #[.val (.ref a), .val (.ref b1), .val (.int buf), .val (.int vb), .val (.ref a), .val (.int vn), .val (.int vi), s7] [(.int (buf <<< (((5 : Int32) - vb) &&& 31))), (.ref al), (.ref b1)])) (fun tZ kZ => XS.ishl X7.here hx rfl (hb hby d1_105) rfl kZ) ?_
      refine own_by (S' := T7.setTop (mkF m 108 #[.val (.ref a), .val (.ref b1), .val (.int buf), .val (.int vb), .val (.ref a), .val (.int vn), .val (.int vi), s7] [(.int (31 : Int32)), (.int (buf <<< (((5 : Int32) - vb) &&& 31))), (.ref al), (.ref b1)])) (fun tZ kZ => XS.bipush X7.here hx rfl (hb hby d1_106) kZ) ?_
      refine own_by (S' := T7.setTop (mkF m 109 #[.val (.ref a), .val (.ref b1), .val (.int buf), .val (.int vb), .val (.ref a), .val (.int vn), .val (.int vi), s7] [(.int ((buf <<< (((5 : Int32) - vb) &&& 31)) &&& (31 : Int32))), (.ref al), (.ref b1)])) (fun tZ kZ => XS.iand X7.here hx rfl (hb hby d1_108) rfl kZ) ?_
      have hqv := hal _ _ (idx_lt D N (8 * N / 5)) hix
      have hlt := idx_lt D N (8 * N / 5)
      have af := alpha_fin ⟨_, hlt⟩
      refine own_by (S' := T7.setTop (mkF m 110 #[.val (.ref a), .val (.ref b1), .val (.int buf), .val (.int vb), .val (.ref a), .val (.int vn), .val (.int vi), s7] [(.int (alphaI (idx D N (8 * N / 5)))), (.ref b1)])) (fun tZ kZ => X7.caload hx (j := ((buf <<< (((5 : Int32) - vb) &&& 31)) &&& (31 : Int32))) (v := (.int (alphaI (idx D N (8 * N / 5))))) (by rw [e7]; exact (Aal.ext ExKj5).1) (State.isArrayOf_alike hZ.alike (Aal.ext ExKj5).2.1) (Aal.ext ExKj5).2.2 (own_in hal0 (own_ix0 hix hlt).1 (own_ix0 hix hlt).2) hqv (g := (mkF m 109 #[.val (.ref a), .val (.ref b1), .val (.int buf), .val (.int vb), .val (.ref a), .val (.int vn), .val (.int vi), s7] [(.int ((buf <<< (((5 : Int32) - vb) &&& 31)) &&& (31 : Int32))), (.ref al), (.ref b1)])) rfl rfl (hb hby d1_109) _ kZ) ?_
      have hq255 := af.2.1
      have hcn0 := own_nneg hvc
      have hcv1 := own_inc hvc (by omega)
      have hcn1 := own_room hvc hzl (by omega) (by omega)
      have hcn2 : vc.toNatClampNeg < (encL D N (8 * N / 5)).length := by rw [encL_len, own_tnc hvc]; omega
      obtain ⟨cq8, kq8, q8a, q8b, q8c⟩ := isOf hZ e7 SBj.1
      obtain ⟨_, _, ⟨T8, L8, k8, n8⟩, -, X8, ⟨Lc8, hQ8, l8, y8, z8⟩, st8⟩ := X7.virtualBack hx (y := (⟨"java/lang/StringBuilder", "append", "(C)Ljava/lang/StringBuilder;"⟩ : MethodName)) (z := (⟨"java/lang/StringBuilder", "append", "(C)Ljava/lang/StringBuilder;"⟩ : MethodName)) hown (mvT hZ (hw _ (List.mem_of_getElem? (i := 29) rfl))) (mvT hZ (hw _ (List.mem_of_getElem? (i := 30) rfl))) (notFace_of_selects (args := #[]) (mvT hZ (hw _ (List.mem_of_getElem? (i := 32) rfl)))) (mvT hZ (hw _ (List.mem_of_getElem? (i := 32) rfl))) (mvT hZ (hw _ (List.mem_of_getElem? (i := 31) rfl))) (by decide) (backOf (W := 0) (rmSA l Z a0 hw [] b1 bv kv (encL D N (8 * N / 5)) vc (alphaI (idx D N (8 * N / 5))) z cz hj5 n0 (Nat.le_trans Z0 Kj5.1) SBj (hlz _) hz0 hcn0 hcn1 hcn2 hq255 g_b1 g_bv (Sc.ext ExKj5) hcz) hZ (hw _ (List.mem_of_getElem? (i := 33) rfl)) (hw _ (List.mem_of_getElem? (i := 8) rfl)) (by decide) (by decide)) q8a q8c (g := (mkF m 110 #[.val (.ref a), .val (.ref b1), .val (.int buf), .val (.int vb), .val (.ref a), .val (.int vn), .val (.int vi), s7] [(.int (alphaI (idx D N (8 * N / 5)))), (.ref b1)])) rfl (by rw [hml]; rfl) (Steps.refl _) (argsL := [(.int (alphaI (idx D N (8 * N / 5))))]) (rest := []) (lenOf pd_10 rfl) rfl (by show 2 * 0 + _ ≤ _; exact Nat.le_of_eq rfl) (hb hby d1_110) (fun _ _ => ⟨rfl, e7, (by decide : 2 + 0 ≤ _), (by decide : 17 + 0 ≤ _)⟩)
      dsimp only [Pt.U, Pt.locs, Pt.cells, Pt.slots] at X8 l8 y8 z8 st8 hQ8
      subst l8 y8 z8
      obtain ⟨rfl, N8q, Kc8, B8⟩ := hQ8
      have N8 := Fr.app Nj5 N8q
      have Zs8 := Nat.le_trans (Nat.le_trans Z0 Kj5.1) Kc8.1
      have K8 := Kj5.trans Kc8 (fun x hx => by
          simp only [List.mem_cons, List.not_mem_nil, or_false] at hx
          rcases hx with rfl | rfl
          · exact Or.inr sz_b1
          · exact Or.inr sz_bv)
      refine own_by (S' := T8.setTop (mkF m 113 #[.val (.ref a), .val (.ref b1), .val (.int buf), .val (.int vb), .val (.ref a), .val (.int vn), .val (.int vi), s7] [(.ref b1)])) (fun tZ kZ => st8.trans kZ) ?_
      rw [af.1, own_tnc hvc, encL_set, ← hc8] at B8
      rw [← hc8] at hcv1
      have hcnt0 := own_nneg hcv1
      have hcnt1 : (vc + 1).toNatClampNeg ≤ 13 := by rw [own_tnc hcv1]; omega
      refine own_by (S' := T8.setTop (mkF m 114 #[.val (.ref a), .val (.ref b1), .val (.int buf), .val (.int vb), .val (.ref a), .val (.int vn), .val (.int vi), s7] [])) (fun tZ kZ => XS.pop X8.here hx rfl (hb hby d1_113) rfl rfl kZ) ?_
      refine own_by (S' := T8.setTop (mkF m 115 #[.val (.ref a), .val (.ref b1), .val (.int buf), .val (.int vb), .val (.ref a), .val (.int vn), .val (.int vi), s7] [(.ref b1)])) (fun tZ kZ => XS.aloadN X8.here hx rfl (hb hby d1_114) rfl rfl kZ) ?_
      have ExK8 := own_ext0 K8
      obtain ⟨cq9, kq9, q9a, q9b, q9c⟩ := isOf hZ rfl B8.1
      obtain ⟨_, _, ⟨T9, L9, k9, n9⟩, -, X9, ⟨Lc9, hQ9, l9, y9, z9⟩, st9⟩ := X8.virtualBack hx (y := (⟨"java/lang/StringBuilder", "toString", "()Ljava/lang/String;"⟩ : MethodName)) (z := (⟨"java/lang/StringBuilder", "toString", "()Ljava/lang/String;"⟩ : MethodName)) hown (mvT hZ (hw _ (List.mem_of_getElem? (i := 55) rfl))) (mvT hZ (hw _ (List.mem_of_getElem? (i := 56) rfl))) (notFace_of_selects (args := #[]) (mvT hZ (hw _ (List.mem_of_getElem? (i := 58) rfl)))) (mvT hZ (hw _ (List.mem_of_getElem? (i := 58) rfl))) (mvT hZ (hw _ (List.mem_of_getElem? (i := 57) rfl))) (by decide) (backOf (W := 0) (rmTS l Z a0 hw [] b1 bv kv (encL D N ((8 * N + 4) / 5)) (vc + 1) cz T8.heap n0 Zs8 B8 (by rw [encL_len, own_tnc hcv1]) hcnt0 hcnt1 (encL_fit _ _ _) (Sc.ext ExK8) hcz) hZ (hw _ (List.mem_of_getElem? (i := 59) rfl)) (hw _ (List.mem_of_getElem? (i := 8) rfl)) (by decide) (by decide)) q9a q9c (g := (mkF m 115 #[.val (.ref a), .val (.ref b1), .val (.int buf), .val (.int vb), .val (.ref a), .val (.int vn), .val (.int vi), s7] [(.ref b1)])) rfl (by rw [hml]; rfl) (Steps.refl _) (argsL := []) (rest := []) (lenOf pd_9 rfl) rfl (by show 2 * 0 + _ ≤ _; exact Nat.le_of_eq rfl) (hb hby d1_115) (fun _ _ => ⟨rfl, rfl, (by decide : 2 + 2 ≤ _), (by decide : 17 + 17 ≤ _)⟩)
      dsimp only [Pt.U, Pt.locs, Pt.cells, Pt.slots] at X9 l9 y9 z9 st9 hQ9
      subst l9 y9 z9
      obtain ⟨r9, t9, kt9, rfl, N9q, Kc9, Er9, Fr9, Fc9, Vr9⟩ := hQ9
      have N9 := Fr.app N8 N9q
      have Zs9 := Nat.le_trans Zs8 Kc9.1
      have Ec9 := own_ext0 Kc9
      have K9 := K8.ext Ec9
      refine own_by (S' := T9.setTop (mkF m 118 #[.val (.ref a), .val (.ref b1), .val (.int buf), .val (.int vb), .val (.ref a), .val (.int vn), .val (.int vi), s7] [(.ref r9)])) (fun tZ kZ => st9.trans kZ) ?_
      exact own_retA X9 hx Bd.returns rfl rfl (hb hby d1_118) Bd.notSynchronized (by decide) (by decide) ⟨_, _, _, rfl, N9, K9, Er9, Fr9, Fc9, Vr9⟩
    · refine own_by (S' := Tj5.setTop (mkF m 114 #[.val (.ref a), .val (.ref b1), .val (.int buf), .val (.int vb), .val (.ref a), .val (.int vn), .val (.int vi), s7] [])) (fun tZ kZ => XS.ifYes Xj5.here hx rfl (pc0 := 94) (pc' := 114) rfl (hb hby d1_94) rfl ((if0 _ _).trans (flt hz5).2.2.2) (by decide) (by decide) kZ) ?_
      have h8 : 8 * N % 5 = 0 := by rw [own_ltI] at hz5; have e : (0 : Int32).toInt = 0 := rfl; omega
      have hc8 : 8 * N / 5 = (8 * N + 4) / 5 := by omega
      rw [hc8] at SBj hvc
      have hcnt0 := own_nneg hvc
      have hcnt1 : vc.toNatClampNeg ≤ 13 := by rw [own_tnc hvc]; omega
      refine own_by (S' := Tj5.setTop (mkF m 115 #[.val (.ref a), .val (.ref b1), .val (.int buf), .val (.int vb), .val (.ref a), .val (.int vn), .val (.int vi), s7] [(.ref b1)])) (fun tZ kZ => XS.aloadN Xj5.here hx rfl (hb hby d1_114) rfl rfl kZ) ?_
      have ExKj5 := own_ext0 Kj5
      obtain ⟨cq6, kq6, q6a, q6b, q6c⟩ := isOf hZ ej5 SBj.1
      obtain ⟨_, _, ⟨T6, L6, k6, n6⟩, -, X6, ⟨Lc6, hQ6, l6, y6, z6⟩, st6⟩ := Xj5.virtualBack hx (y := (⟨"java/lang/StringBuilder", "toString", "()Ljava/lang/String;"⟩ : MethodName)) (z := (⟨"java/lang/StringBuilder", "toString", "()Ljava/lang/String;"⟩ : MethodName)) hown (mvT hZ (hw _ (List.mem_of_getElem? (i := 55) rfl))) (mvT hZ (hw _ (List.mem_of_getElem? (i := 56) rfl))) (notFace_of_selects (args := #[]) (mvT hZ (hw _ (List.mem_of_getElem? (i := 58) rfl)))) (mvT hZ (hw _ (List.mem_of_getElem? (i := 58) rfl))) (mvT hZ (hw _ (List.mem_of_getElem? (i := 57) rfl))) (by decide) (backOf (W := 0) (rmTS l Z a0 hw [] b1 bv kv (encL D N ((8 * N + 4) / 5)) vc cz hj5 n0 (Nat.le_trans Z0 Kj5.1) SBj (by rw [encL_len, own_tnc hvc]) hcnt0 hcnt1 (encL_fit _ _ _) (Sc.ext ExKj5) hcz) hZ (hw _ (List.mem_of_getElem? (i := 59) rfl)) (hw _ (List.mem_of_getElem? (i := 8) rfl)) (by decide) (by decide)) q6a q6c (g := (mkF m 115 #[.val (.ref a), .val (.ref b1), .val (.int buf), .val (.int vb), .val (.ref a), .val (.int vn), .val (.int vi), s7] [(.ref b1)])) rfl (by rw [hml]; rfl) (Steps.refl _) (argsL := []) (rest := []) (lenOf pd_9 rfl) rfl (by show 2 * 0 + _ ≤ _; exact Nat.le_of_eq rfl) (hb hby d1_115) (fun _ _ => ⟨rfl, ej5, (by decide : 2 + 2 ≤ _), (by decide : 17 + 17 ≤ _)⟩)
      dsimp only [Pt.U, Pt.locs, Pt.cells, Pt.slots] at X6 l6 y6 z6 st6 hQ6
      subst l6 y6 z6
      obtain ⟨r6, t6, kt6, rfl, N6q, Kc6, Er6, Fr6, Fc6, Vr6⟩ := hQ6
      have N6 := Fr.app Nj5 N6q
      have Zs6 := Nat.le_trans (Nat.le_trans Z0 Kj5.1) Kc6.1
      have Ec6 := own_ext0 Kc6
      have K6 := Kj5.ext Ec6
      refine own_by (S' := T6.setTop (mkF m 118 #[.val (.ref a), .val (.ref b1), .val (.int buf), .val (.int vb), .val (.ref a), .val (.int vn), .val (.int vi), s7] [(.ref r6)])) (fun tZ kZ => st6.trans kZ) ?_
      exact own_retA X6 hx Bd.returns rfl rfl (hb hby d1_118) Bd.notSynchronized (by decide) (by decide) ⟨_, _, _, rfl, N6, K6, Er6, Fr6, Fc6, Vr6⟩
  have J32 : ∀ (kk : Nat) (Tj10 : State) (Lj10 : List Loc) (hj10 : Heap) (i : Nat) (vi vb buf vc : Int32) (s7 : Slot) (Xj10 : Stand p l e ({ frames := 5, cells := 4, slots := 34, locals := 71 } : Room) s m #[(.ref a)] below meth c Tj10 Lj10 2 17) (ej10 : Tj10.heap = hj10) (Nj10 : Fr n0 Lj10) (Kj10 : Keep h0 hj10 []) (hi : i + kk = N) (hvi : vi.toInt = (i : Int)) (hvb : vb.toInt = ((8 * i % 5 : Nat) : Int)) (hbuf : (buf.toInt - ((D / 2 ^ (64 - 8 * i) : Nat) : Int)) % 4294967296 = 0) (hvc : vc.toInt = ((8 * i / 5 : Nat) : Int)) (SBj : OwnSB Z hj10 b1 bv kv (encL D N (8 * i / 5)) vc) (hs7 : One s7), OwnG p e below (OwnE s (QStr Z (encL D N ((8 * N + 4) / 5)) h0 n0) ({ frames := 5, cells := 4, slots := 34, locals := 71 } : Room).cells ({ frames := 5, cells := 4, slots := 34, locals := 71 } : Room).slots) (Tj10.setTop (mkF m 32 #[.val (.ref a), .val (.ref b1), .val (.int buf), .val (.int vb), .val (.ref a), .val (.int vn), .val (.int vi), s7] [])) := by
    intro kk
    induction kk with
    | zero =>
      intro Tj10 Lj10 hj10 i vi vb buf vc s7 Xj10 ej10 Nj10 Kj10 hi hvi hvb hbuf hvc SBj hs7
      have hiN : i = N := by omega
      subst hiN
      refine own_by (S' := Tj10.setTop (mkF m 34 #[.val (.ref a), .val (.ref b1), .val (.int buf), .val (.int vb), .val (.ref a), .val (.int vn), .val (.int vi), s7] [(.int vi)])) (fun tZ kZ => XS.iload Xj10.here hx rfl (hb hby d1_32) rfl kZ) ?_
      refine own_by (S' := Tj10.setTop (mkF m 36 #[.val (.ref a), .val (.ref b1), .val (.int buf), .val (.int vb), .val (.ref a), .val (.int vn), .val (.int vi), s7] [(.int vn), (.int vi)])) (fun tZ kZ => XS.iload Xj10.here hx rfl (hb hby d1_34) rfl kZ) ?_
      refine own_by (S' := Tj10.setTop (mkF m 93 #[.val (.ref a), .val (.ref b1), .val (.int buf), .val (.int vb), .val (.ref a), .val (.int vn), .val (.int vi), s7] [])) (fun tZ kZ => XS.icmpYes Xj10.here hx rfl (pc0 := 36) (pc' := 93) rfl (hb hby d1_36) rfl (flt (by rw [own_ltI]; omega)).2.1 (by decide) (by decide) kZ) ?_
      exact J93 _ _ _ vi vb buf vc s7 Xj10 ej10 Nj10 Kj10 hvb hbuf hvc SBj hs7
    | succ kk ih =>
      intro Tj10 Lj10 hj10 i vi vb buf vc s7 Xj10 ej10 Nj10 Kj10 hi hvi hvb hbuf hvc SBj hs7
      have hiN : i < N := by omega
      obtain ⟨by0, hb0, hb1⟩ := hbs i hiN
      refine own_by (S' := Tj10.setTop (mkF m 34 #[.val (.ref a), .val (.ref b1), .val (.int buf), .val (.int vb), .val (.ref a), .val (.int vn), .val (.int vi), s7] [(.int vi)])) (fun tZ kZ => XS.iload Xj10.here hx rfl (hb hby d1_32) rfl kZ) ?_
      refine own_by (S' := Tj10.setTop (mkF m 36 #[.val (.ref a), .val (.ref b1), .val (.int buf), .val (.int vb), .val (.ref a), .val (.int vn), .val (.int vi), s7] [(.int vn), (.int vi)])) (fun tZ kZ => XS.iload Xj10.here hx rfl (hb hby d1_34) rfl kZ) ?_
      refine own_by (S' := Tj10.setTop (mkF m 39 #[.val (.ref a), .val (.ref b1), .val (.int buf), .val (.int vb), .val (.ref a), .val (.int vn), .val (.int vi), s7] [])) (fun tZ kZ => XS.icmpNo Xj10.here hx rfl (hb hby d1_36) rfl (tlt (by rw [own_ltI]; omega)).2.1 kZ) ?_
      refine own_by (S' := Tj10.setTop (mkF m 41 #[.val (.ref a), .val (.ref b1), .val (.int buf), .val (.int vb), .val (.ref a), .val (.int vn), .val (.int vi), s7] [(.ref a)])) (fun tZ kZ => XS.aload Xj10.here hx rfl (hb hby d1_39) rfl rfl kZ) ?_
      refine own_by (S' := Tj10.setTop (mkF m 43 #[.val (.ref a), .val (.ref b1), .val (.int buf), .val (.int vb), .val (.ref a), .val (.int vn), .val (.int vi), s7] [(.int vi), (.ref a)])) (fun tZ kZ => XS.iload Xj10.here hx rfl (hb hby d1_41) rfl kZ) ?_
      have ExKj10 := own_ext0 Kj10
      obtain ⟨cc11, Ar11, hc11, hl11⟩ := id (Va.ext ExKj10)
      refine own_by (S' := Tj10.setTop (mkF m 44 #[.val (.ref a), .val (.ref b1), .val (.int buf), .val (.int vb), .val (.ref a), .val (.int vn), .val (.int vi), s7] [(.int by0)])) (fun tZ kZ => Xj10.baloadBytes hx (j := vi) (v := (.int by0)) (by rw [ej10]; exact Ar11.1) (State.isArrayOf_alike hZ.alike Ar11.2.1) Ar11.2.2 (OwnA.inb (j := vi) hl11 (by rw [own_ltI]; have e : (0 : Int32).toInt = 0 := rfl; omega) (by rw [hbl, own_tn]; omega)) (OwnA.at (j := vi) hl11 (by rw [own_tn, hvi]; exact hb0)) (g := (mkF m 43 #[.val (.ref a), .val (.ref b1), .val (.int buf), .val (.int vb), .val (.ref a), .val (.int vn), .val (.int vi), s7] [(.int vi), (.ref a)])) rfl rfl (hb hby d1_43) _ kZ) ?_
      refine own_by (S' := Tj10.setTop (mkF m 46 #[.val (.ref a), .val (.ref b1), .val (.int buf), .val (.int vb), .val (.ref a), .val (.int vn), .val (.int vi), .val (.int by0)] [])) (fun tZ kZ => XS.istore Xj10.here hx rfl (hb hby d1_44) rfl (l' := #[.val (.ref a), .val (.ref b1), .val (.int buf), .val (.int vb), .val (.ref a), .val (.int vn), .val (.int vi), .val (.int by0)]) (own_os7 hs7) kZ) ?_
      refine own_by (S' := Tj10.setTop (mkF m 47 #[.val (.ref a), .val (.ref b1), .val (.int buf), .val (.int vb), .val (.ref a), .val (.int vn), .val (.int vi), .val (.int by0)] [(.int buf)])) (fun tZ kZ => XS.iloadN Xj10.here hx rfl (hb hby d1_46) rfl kZ) ?_
      refine own_by (S' := Tj10.setTop (mkF m 49 #[.val (.ref a), .val (.ref b1), .val (.int buf), .val (.int vb), .val (.ref a), .val (.int vn), .val (.int vi), .val (.int by0)] [(.int (8 : Int32)), (.int buf)])) (fun tZ kZ => XS.bipush Xj10.here hx rfl (hb hby d1_47) kZ) ?_
      refine own_by (S' := Tj10.setTop (mkF m 50 #[.val (.ref a), .val (.ref b1), .val (.int buf), .val (.int vb), .val (.ref a), .val (.int vn), .val (.int vi), .val (.int by0)] [(.int (buf <<< ((8 : Int32) &&& 31)))])) (fun tZ kZ => XS.ishl Xj10.here hx rfl (hb hby d1_49) rfl kZ) ?_
      refine own_by (S' := Tj10.setTop (mkF m 52 #[.val (.ref a), .val (.ref b1), .val (.int buf), .val (.int vb), .val (.ref a), .val (.int vn), .val (.int vi), .val (.int by0)] [(.int by0), (.int (buf <<< ((8 : Int32) &&& 31)))])) (fun tZ kZ => XS.iload Xj10.here hx rfl (hb hby d1_50) rfl kZ) ?_
      refine own_by (S' := Tj10.setTop (mkF m 55 #[.val (.ref a), .val (.ref b1), .val (.int buf), .val (.int vb), .val (.ref a), .val (.int vn), .val (.int vi), .val (.int by0)] [(.int (255 : Int32)), (.int by0), (.int (buf <<< ((8 : Int32) &&& 31)))])) (fun tZ kZ => XS.sipush Xj10.here hx rfl (hb hby d1_52) kZ) ?_
      refine own_by (S' := Tj10.setTop (mkF m 56 #[.val (.ref a), .val (.ref b1), .val (.int buf), .val (.int vb), .val (.ref a), .val (.int vn), .val (.int vi), .val (.int by0)] [(.int (by0 &&& (255 : Int32))), (.int (buf <<< ((8 : Int32) &&& 31)))])) (fun tZ kZ => XS.iand Xj10.here hx rfl (hb hby d1_55) rfl kZ) ?_
      refine own_by (S' := Tj10.setTop (mkF m 57 #[.val (.ref a), .val (.ref b1), .val (.int buf), .val (.int vb), .val (.ref a), .val (.int vn), .val (.int vi), .val (.int by0)] [(.int ((buf <<< ((8 : Int32) &&& 31)) ||| (by0 &&& (255 : Int32))))])) (fun tZ kZ => XS.ior Xj10.here hx rfl (hb hby d1_56) rfl kZ) ?_
      obtain ⟨bf, hbf⟩ : ∃ z : Int32, z = ((buf <<< ((8 : Int32) &&& 31)) ||| (by0 &&& (255 : Int32))) := ⟨_, rfl⟩
      rw [← hbf]
      refine own_by (S' := Tj10.setTop (mkF m 58 #[.val (.ref a), .val (.ref b1), .val (.int bf), .val (.int vb), .val (.ref a), .val (.int vn), .val (.int vi), .val (.int by0)] [])) (fun tZ kZ => XS.istoreN Xj10.here hx rfl (hb hby d1_57) rfl (l' := #[.val (.ref a), .val (.ref b1), .val (.int bf), .val (.int vb), .val (.ref a), .val (.int vn), .val (.int vi), .val (.int by0)]) rfl kZ) ?_
      refine own_by (S' := Tj10.setTop (mkF m 61 #[.val (.ref a), .val (.ref b1), .val (.int bf), .val (.int (vb + (8 : Int32))), .val (.ref a), .val (.int vn), .val (.int vi), .val (.int by0)] [])) (fun tZ kZ => XS.iinc Xj10.here hx rfl (hb hby d1_58) rfl (l' := #[.val (.ref a), .val (.ref b1), .val (.int bf), .val (.int (vb + (8 : Int32))), .val (.ref a), .val (.int vn), .val (.int vi), .val (.int by0)]) rfl kZ) ?_
      have hbf2 := own_buf D i (by omega) buf by0 hbuf hb1
      rw [← hbf] at hbf2
      have J61 : ∀ (r5 : Nat) (Tj12 : State) (Lj12 : List Loc) (hj12 : Heap) (c5 : Nat) (vr vc5 : Int32) (Xj12 : Stand p l e ({ frames := 5, cells := 4, slots := 34, locals := 71 } : Room) s m #[(.ref a)] below meth c Tj12 Lj12 2 17) (ej12 : Tj12.heap = hj12) (Nj12 : Fr n0 Lj12) (Kj12 : Keep h0 hj12 []) (hc5 : 5 * c5 + r5 = 8 * (i + 1)) (hr5 : r5 ≤ 12) (hvr : vr.toInt = (r5 : Int)) (hvc5 : vc5.toInt = (c5 : Int)) (SB5 : OwnSB Z hj12 b1 bv kv (encL D N c5) vc5), OwnG p e below (OwnE s (QStr Z (encL D N ((8 * N + 4) / 5)) h0 n0) ({ frames := 5, cells := 4, slots := 34, locals := 71 } : Room).cells ({ frames := 5, cells := 4, slots := 34, locals := 71 } : Room).slots) (Tj12.setTop (mkF m 61 #[.val (.ref a), .val (.ref b1), .val (.int bf), .val (.int vr), .val (.ref a), .val (.int vn), .val (.int vi), .val (.int by0)] [])) := by
        intro r5
        induction r5 using Nat.strongRecOn with
        | ind r5 ih5 =>
          intro Tj12 Lj12 hj12 c5 vr vc5 Xj12 ej12 Nj12 Kj12 hc5 hr5 hvr hvc5 SB5
          refine own_by (S' := Tj12.setTop (mkF m 62 #[.val (.ref a), .val (.ref b1), .val (.int bf), .val (.int vr), .val (.ref a), .val (.int vn), .val (.int vi), .val (.int by0)] [(.int vr)])) (fun tZ kZ => XS.iloadN Xj12.here hx rfl (hb hby d1_61) rfl kZ) ?_
          refine own_by (S' := Tj12.setTop (mkF m 63 #[.val (.ref a), .val (.ref b1), .val (.int bf), .val (.int vr), .val (.ref a), .val (.int vn), .val (.int vi), .val (.int by0)] [(.int (5 : Int32)), (.int vr)])) (fun tZ kZ => XS.iconst Xj12.here hx rfl (hb hby d1_62) kZ) ?_
          by_cases hlt5 : vr < (5 : Int32)
          · refine own_by (S' := Tj12.setTop (mkF m 87 #[.val (.ref a), .val (.ref b1), .val (.int bf), .val (.int vr), .val (.ref a), .val (.int vn), .val (.int vi), .val (.int by0)] [])) (fun tZ kZ => XS.icmpYes Xj12.here hx rfl (pc0 := 63) (pc' := 87) rfl (hb hby d1_63) rfl (tlt hlt5).1 (by decide) (by decide) kZ) ?_
            have hr4 : r5 < 5 := by rw [own_ltI] at hlt5; have e : (5 : Int32).toInt = 5 := rfl; omega
            have hcc : c5 = 8 * (i + 1) / 5 := by omega
            have hrr : r5 = 8 * (i + 1) % 5 := by omega
            subst hcc
            rw [hrr] at hvr
            refine own_by (S' := Tj12.setTop (mkF m 90 #[.val (.ref a), .val (.ref b1), .val (.int bf), .val (.int vr), .val (.ref a), .val (.int vn), .val (.int (vi + (1 : Int32))), .val (.int by0)] [])) (fun tZ kZ => XS.iinc Xj12.here hx rfl (hb hby d1_87) rfl (l' := #[.val (.ref a), .val (.ref b1), .val (.int bf), .val (.int vr), .val (.ref a), .val (.int vn), .val (.int (vi + (1 : Int32))), .val (.int by0)]) rfl kZ) ?_
            refine own_by (S' := Tj12.setTop (mkF m 32 #[.val (.ref a), .val (.ref b1), .val (.int bf), .val (.int vr), .val (.ref a), .val (.int vn), .val (.int (vi + (1 : Int32))), .val (.int by0)] [])) (fun tZ kZ => XS.goto Xj12.here hx rfl (pc0 := 90) (pc' := 32) rfl (hb hby d1_90) (by decide) (by decide) kZ) ?_
            exact ih _ _ _ (i + 1) (vi + 1) vr bf vc5 _ Xj12 ej12 Nj12 Kj12 (by omega) (own_inc hvi (by omega)) hvr hbf2 hvc5 SB5 (One.val rfl)
          · refine own_by (S' := Tj12.setTop (mkF m 66 #[.val (.ref a), .val (.ref b1), .val (.int bf), .val (.int vr), .val (.ref a), .val (.int vn), .val (.int vi), .val (.int by0)] [])) (fun tZ kZ => XS.icmpNo Xj12.here hx rfl (hb hby d1_63) rfl (flt hlt5).1 kZ) ?_
            have hr5' : 5 ≤ r5 := by rw [own_ltI] at hlt5; have e : (5 : Int32).toInt = 5 := rfl; omega
            have hvr2 := own_sub5 hvr hr5' hr5
            have hix := own_char _ (r5 - 5) (by omega) bf (vr + (-5 : Int32)) hbf2 hvr2
            rw [own_idx D N c5 i (r5 - 5) (by omega) hiN hN] at hix
            refine own_by (S' := Tj12.setTop (mkF m 69 #[.val (.ref a), .val (.ref b1), .val (.int bf), .val (.int (vr + (-5 : Int32))), .val (.ref a), .val (.int vn), .val (.int vi), .val (.int by0)] [])) (fun tZ kZ => XS.iinc Xj12.here hx rfl (hb hby d1_66) rfl (l' := #[.val (.ref a), .val (.ref b1), .val (.int bf), .val (.int (vr + (-5 : Int32))), .val (.ref a), .val (.int vn), .val (.int vi), .val (.int by0)]) rfl kZ) ?_
            refine own_by (S' := Tj12.setTop (mkF m 70 #[.val (.ref a), .val (.ref b1), .val (.int bf), .val (.int (vr + (-5 : Int32))), .val (.ref a), .val (.int vn), .val (.int vi), .val (.int by0)] [(.ref b1)])) (fun tZ kZ => XS.aloadN Xj12.here hx rfl (hb hby d1_69) rfl rfl kZ) ?_
            have ExKj12 := own_ext0 Kj12
            obtain ⟨T13, X13, e13, st13⟩ := getS2 Xj12 hx hZ hown (host := "") (Or.inl (hw _ (List.mem_of_getElem? (i := 27) rfl))) Via.refl ej12 (Sal.ext ExKj12) (g := (mkF m 70 #[.val (.ref a), .val (.ref b1), .val (.int bf), .val (.int (vr + (-5 : Int32))), .val (.ref a), .val (.int vn), .val (.int vi), .val (.int by0)] [(.ref b1)])) rfl (hb hby d1_70)
            refine own_by (S' := T13.setTop (mkF m 73 #[.val (.ref a), .val (.ref b1), .val (.int bf), .val (.int (vr + (-5 : Int32))), .val (.ref a), .val (.int vn), .val (.int vi), .val (.int by0)] [(.ref al), (.ref b1)])) st13 ?_
            refine own_by (S' := T13.setTop (mkF m 74 #[.val (.ref a), .val (.ref b1), .val (.int bf), .val (.int (vr + (-5 : Int32))), .val (.ref a), .val (.int vn), .val (.int vi), .val (.int by0)] [(.int bf), (.ref al), (.ref b1)])) (fun tZ kZ => XS.iloadN X13.here hx rfl (hb hby d1_73) rfl kZ) ?_
            refine own_by (S' := T13.setTop (mkF m 75 #[.val (.ref a), .val (.ref b1), .val (.int bf), .val (.int (vr + (-5 : Int32))), .val (.ref a), .val (.int vn), .val (.int vi), .val (.int by0)] [(.int (vr + (-5 : Int32))), (.int bf), (.ref al), (.ref b1)])) (fun tZ kZ => XS.iloadN X13.here hx rfl (hb hby d1_74) rfl kZ) ?_
            refine own_by (S' := T13.setTop (mkF m 76 #[.val (.ref a), .val (.ref b1), .val (.int bf), .val (.int (vr + (-5 : Int32))), .val (.ref a), .val (.int vn), .val (.int vi), .val (.int by0)] [(.int ((bf.toUInt32 >>> ((vr + (-5 : Int32)) &&& 31).toUInt32).toInt32)), (.ref al), (.ref b1)])) (fun tZ kZ => XS.iushr X13.here hx rfl (hb hby d1_75) rfl kZ) ?_
            refine own_by (S' := T13.setTop (mkF m 78 #[.val (.ref a), .val (.ref b1), .val (.int bf), .val (.int (vr + (-5 : Int32))), .val (.ref a), .val (.int vn), .val (.int vi), .val (.int by0)] [(.int (31 : Int32)), (.int ((bf.toUInt32 >>> ((vr + (-5 : Int32)) &&& 31).toUInt32).toInt32)), (.ref al), (.ref b1)])) (fun tZ kZ => XS.bipush X13.here hx rfl (hb hby d1_76) kZ) ?_
            refine own_by (S' := T13.setTop (mkF m 79 #[.val (.ref a), .val (.ref b1), .val (.int bf), .val (.int (vr + (-5 : Int32))), .val (.ref a), .val (.int vn), .val (.int vi), .val (.int by0)] [(.int (((bf.toUInt32 >>> ((vr + (-5 : Int32)) &&& 31).toUInt32).toInt32) &&& (31 : Int32))), (.ref al), (.ref b1)])) (fun tZ kZ => XS.iand X13.here hx rfl (hb hby d1_78) rfl kZ) ?_
            have hqv := hal _ _ (idx_lt D N c5) hix
            have hlt := idx_lt D N c5
            have af := alpha_fin ⟨_, hlt⟩
            refine own_by (S' := T13.setTop (mkF m 80 #[.val (.ref a), .val (.ref b1), .val (.int bf), .val (.int (vr + (-5 : Int32))), .val (.ref a), .val (.int vn), .val (.int vi), .val (.int by0)] [(.int (alphaI (idx D N c5))), (.ref b1)])) (fun tZ kZ => X13.caload hx (j := (((bf.toUInt32 >>> ((vr + (-5 : Int32)) &&& 31).toUInt32).toInt32) &&& (31 : Int32))) (v := (.int (alphaI (idx D N c5)))) (by rw [e13]; exact (Aal.ext ExKj12).1) (State.isArrayOf_alike hZ.alike (Aal.ext ExKj12).2.1) (Aal.ext ExKj12).2.2 (own_in hal0 (own_ix0 hix hlt).1 (own_ix0 hix hlt).2) hqv (g := (mkF m 79 #[.val (.ref a), .val (.ref b1), .val (.int bf), .val (.int (vr + (-5 : Int32))), .val (.ref a), .val (.int vn), .val (.int vi), .val (.int by0)] [(.int (((bf.toUInt32 >>> ((vr + (-5 : Int32)) &&& 31).toUInt32).toInt32) &&& (31 : Int32))), (.ref al), (.ref b1)])) rfl rfl (hb hby d1_79) _ kZ) ?_
            have hq255 := af.2.1
            have hcn0 := own_nneg hvc5
            have hcv1 := own_inc hvc5 (by omega)
            have hcn1 := own_room hvc5 hzl (by omega) (by omega)
            have hcn2 : vc5.toNatClampNeg < (encL D N c5).length := by rw [encL_len, own_tnc hvc5]; omega
            obtain ⟨cq14, kq14, q14a, q14b, q14c⟩ := isOf hZ e13 SB5.1
            obtain ⟨_, _, ⟨T14, L14, k14, n14⟩, -, X14, ⟨Lc14, hQ14, l14, y14, z14⟩, st14⟩ := X13.virtualBack hx (y := (⟨"java/lang/StringBuilder", "append", "(C)Ljava/lang/StringBuilder;"⟩ : MethodName)) (z := (⟨"java/lang/StringBuilder", "append", "(C)Ljava/lang/StringBuilder;"⟩ : MethodName)) hown (mvT hZ (hw _ (List.mem_of_getElem? (i := 29) rfl))) (mvT hZ (hw _ (List.mem_of_getElem? (i := 30) rfl))) (notFace_of_selects (args := #[]) (mvT hZ (hw _ (List.mem_of_getElem? (i := 32) rfl)))) (mvT hZ (hw _ (List.mem_of_getElem? (i := 32) rfl))) (mvT hZ (hw _ (List.mem_of_getElem? (i := 31) rfl))) (by decide) (backOf (W := 0) (rmSA l Z a0 hw [] b1 bv kv (encL D N (c5)) vc5 (alphaI (idx D N c5)) z cz hj12 n0 (Nat.le_trans Z0 Kj12.1) SB5 (hlz _) hz0 hcn0 hcn1 hcn2 hq255 g_b1 g_bv (Sc.ext ExKj12) hcz) hZ (hw _ (List.mem_of_getElem? (i := 33) rfl)) (hw _ (List.mem_of_getElem? (i := 8) rfl)) (by decide) (by decide)) q14a q14c (g := (mkF m 80 #[.val (.ref a), .val (.ref b1), .val (.int bf), .val (.int (vr + (-5 : Int32))), .val (.ref a), .val (.int vn), .val (.int vi), .val (.int by0)] [(.int (alphaI (idx D N c5))), (.ref b1)])) rfl (by rw [hml]; rfl) (Steps.refl _) (argsL := [(.int (alphaI (idx D N c5)))]) (rest := []) (lenOf pd_10 rfl) rfl (by show 2 * 0 + _ ≤ _; exact Nat.le_of_eq rfl) (hb hby d1_80) (fun _ _ => ⟨rfl, e13, (by decide : 2 + 0 ≤ _), (by decide : 17 + 0 ≤ _)⟩)
            dsimp only [Pt.U, Pt.locs, Pt.cells, Pt.slots] at X14 l14 y14 z14 st14 hQ14
            subst l14 y14 z14
            obtain ⟨rfl, N14q, Kc14, B14⟩ := hQ14
            have N14 := Fr.app Nj12 N14q
            have Zs14 := Nat.le_trans (Nat.le_trans Z0 Kj12.1) Kc14.1
            have K14 := Kj12.trans Kc14 (fun x hx => by
                simp only [List.mem_cons, List.not_mem_nil, or_false] at hx
                rcases hx with rfl | rfl
                · exact Or.inr sz_b1
                · exact Or.inr sz_bv)
            refine own_by (S' := T14.setTop (mkF m 83 #[.val (.ref a), .val (.ref b1), .val (.int bf), .val (.int (vr + (-5 : Int32))), .val (.ref a), .val (.int vn), .val (.int vi), .val (.int by0)] [(.ref b1)])) (fun tZ kZ => st14.trans kZ) ?_
            rw [af.1, own_tnc hvc5, encL_set] at B14
            refine own_by (S' := T14.setTop (mkF m 84 #[.val (.ref a), .val (.ref b1), .val (.int bf), .val (.int (vr + (-5 : Int32))), .val (.ref a), .val (.int vn), .val (.int vi), .val (.int by0)] [])) (fun tZ kZ => XS.pop X14.here hx rfl (hb hby d1_83) rfl rfl kZ) ?_
            refine own_by (S' := T14.setTop (mkF m 61 #[.val (.ref a), .val (.ref b1), .val (.int bf), .val (.int (vr + (-5 : Int32))), .val (.ref a), .val (.int vn), .val (.int vi), .val (.int by0)] [])) (fun tZ kZ => XS.goto X14.here hx rfl (pc0 := 84) (pc' := 61) rfl (hb hby d1_84) (by decide) (by decide) kZ) ?_
            exact ih5 (r5 - 5) (by omega) _ _ _ (c5 + 1) (vr + (-5 : Int32)) (vc5 + 1) X14 rfl N14 K14 (by omega) (by omega) hvr2 hcv1 B14
      exact J61 (8 * i % 5 + 8) _ _ _ (8 * i / 5) (vb + 8) vc Xj10 ej10 Nj10 Kj10 (by omega) (by omega) (own_add8 hvb (by omega)) hvc SBj
  have own_b0 : ((0 : Int32).toInt - ((D / 2 ^ (64 - 8 * 0) : Nat) : Int)) % 4294967296 = 0 := by
    have q : D / 2 ^ (64 - 8 * 0) = 0 := Nat.div_eq_of_lt hD
    rw [q]; rfl
  exact J32 N _ _ _ 0 0 0 0 0 .unset X3 rfl N3 K3 (by omega) rfl rfl own_b0 rfl B3 One.u
theorem own_u64 (x : Int64) : x.toInt % 18446744073709551616 = (x.toBitVec.toNat : Int) := by
  show x.toBitVec.toInt % 18446744073709551616 = _
  rw [BitVec.toInt_eq_toNat_bmod]
  have h := Int.bmod_emod (x := (x.toBitVec.toNat : Int)) (m := 2 ^ 64)
  have h2 := x.toBitVec.isLt
  omega
theorem own_himask (D k : Nat) (hk : k ≤ 64) (hD : D < 2 ^ 64) : D &&& (2 ^ 64 - 2 ^ k) = D / 2 ^ k * 2 ^ k := by
  have e : 2 ^ 64 - 2 ^ k = (2 ^ (64 - k) - 1) * 2 ^ k := by
    rw [Nat.sub_mul, ← Nat.pow_add, Nat.sub_add_cancel hk, Nat.one_mul]
  rw [e]
  apply Nat.eq_of_testBit_eq
  intro i
  rw [Nat.testBit_and, Nat.testBit_mul_two_pow, Nat.testBit_mul_two_pow, Nat.testBit_div_two_pow, Nat.testBit_two_pow_sub_one]
  by_cases h : k ≤ i
  · simp only [h, decide_true, Bool.true_and]
    by_cases h2 : i < 64
    · have h3 : i - k < 64 - k := by omega
      simp only [h3, decide_true, Bool.and_true]
      congr 1; omega
    · have h3 : D.testBit i = false := Nat.testBit_lt_two_pow (Nat.lt_of_lt_of_le hD (Nat.pow_le_pow_right (by decide) (by omega)))
      have h4 : D.testBit (i - k + k) = false := by rw [Nat.sub_add_cancel h]; exact h3
      simp [h3, h4]
  · simp [h]
theorem own_vmask (d M : Int64) (k : Nat) (hk : k ≤ 64) (hM : M.toBitVec.toNat = 2 ^ 64 - 2 ^ k) : (d &&& M).toBitVec.toNat = d.toBitVec.toNat / 2 ^ k * 2 ^ k := by
  rw [Int64.toBitVec_and, BitVec.toNat_and, hM]
  exact own_himask _ k hk d.toBitVec.isLt
theorem own_vm (d : Int64) (vn : Int32) (N : Nat) (hvn : vn.toInt = N) (hN : N < 8) : (d &&& (((((-1 : Int64).toUInt64 >>> (((8 : Int32) * vn) &&& 0x3f).toInt64.toUInt64).toInt64)) ^^^ (-1 : Int64))).toBitVec.toNat = d.toBitVec.toNat / 2 ^ (64 - 8 * N) * 2 ^ (64 - 8 * N) := by
  rcases (by omega : N = 0 ∨ N = 1 ∨ N = 2 ∨ N = 3 ∨ N = 4 ∨ N = 5 ∨ N = 6 ∨ N = 7) with rfl | rfl | rfl | rfl | rfl | rfl | rfl | rfl
  · obtain rfl : vn = 0 := own_lit _ 0 _ hvn rfl
    exact own_vmask d _ 64 (by decide) (by decide)
  · obtain rfl : vn = 1 := own_lit _ 1 _ hvn rfl
    exact own_vmask d _ 56 (by decide) (by decide)
  · obtain rfl : vn = 2 := own_lit _ 2 _ hvn rfl
    exact own_vmask d _ 48 (by decide) (by decide)
  · obtain rfl : vn = 3 := own_lit _ 3 _ hvn rfl
    exact own_vmask d _ 40 (by decide) (by decide)
  · obtain rfl : vn = 4 := own_lit _ 4 _ hvn rfl
    exact own_vmask d _ 32 (by decide) (by decide)
  · obtain rfl : vn = 5 := own_lit _ 5 _ hvn rfl
    exact own_vmask d _ 24 (by decide) (by decide)
  · obtain rfl : vn = 6 := own_lit _ 6 _ hvn rfl
    exact own_vmask d _ 16 (by decide) (by decide)
  · obtain rfl : vn = 7 := own_lit _ 7 _ hvn rfl
    exact own_vmask d _ 8 (by decide) (by decide)
theorem own_byt (d : Int64) (q : Int32) (k : Nat) (hk : q.toBitVec.toNat % 64 = k) (h0 : 0 < k) (hk2 : k ≤ 56) : (nar .byte ((((d.toUInt64 >>> (q &&& 0x3f).toInt64.toUInt64).toInt64).toInt32).toInt8.toInt32) &&& 255).toInt = ((d.toBitVec.toNat / 2 ^ k % 256 : Nat) : Int) := by
  have h1 := c_lushr d q k hk h0
  have h2 := c_l2i ((d.toUInt64 >>> (q &&& 0x3f).toInt64.toUInt64).toInt64)
  have h3 := c_i2b ((d.toUInt64 >>> (q &&& 0x3f).toInt64.toUInt64).toInt64).toInt32
  have h4 := c_i2b (((d.toUInt64 >>> (q &&& 0x3f).toInt64.toUInt64).toInt64).toInt32).toInt8.toInt32
  have h5 := c_mask (nar .byte ((((d.toUInt64 >>> (q &&& 0x3f).toInt64.toUInt64).toInt64).toInt32).toInt8.toInt32)) 255 8 (by decide) (by decide)
  have h6 := own_u64 d
  rw [h5]
  show ((((d.toUInt64 >>> (q &&& 0x3f).toInt64.toUInt64).toInt64).toInt32).toInt8.toInt32.toInt8.toInt32).toInt % _ = _
  rw [h6] at h1
  have h7 : (d.toBitVec.toNat : Int) / ((2 ^ k : Nat) : Int) = ((d.toBitVec.toNat / 2 ^ k : Nat) : Int) := (Int.natCast_ediv _ _).symm
  rw [h7] at h1
  generalize d.toBitVec.toNat / 2 ^ k = r at *
  omega
theorem own_byt0 (d : Int64) : (nar .byte ((d.toInt32).toInt8.toInt32) &&& 255).toInt = ((d.toBitVec.toNat / 2 ^ 0 % 256 : Nat) : Int) := by
  have h2 := c_l2i d
  have h3 := c_i2b d.toInt32
  have h4 := c_i2b (d.toInt32).toInt8.toInt32
  have h5 := c_mask (nar .byte ((d.toInt32).toInt8.toInt32)) 255 8 (by decide) (by decide)
  have h6 := own_u64 d
  rw [h5]
  show ((d.toInt32).toInt8.toInt32.toInt8.toInt32).toInt % _ = _
  omega
theorem own_chr (v : Int64) (q : Int32) (k : Nat) (hk : q.toBitVec.toNat % 64 = k) (h0 : 0 < k) : ((((v.toUInt64 >>> (q &&& 0x3f).toInt64.toUInt64).toInt64) &&& (31 : Int64)).toInt32).toInt = ((v.toBitVec.toNat / 2 ^ k % 32 : Nat) : Int) := by
  have h1 := c_lushr v q k hk h0
  have h2 := c_maskL ((v.toUInt64 >>> (q &&& 0x3f).toInt64.toUInt64).toInt64) 31 5 (by decide) (by decide)
  have h3 := c_l2i (((v.toUInt64 >>> (q &&& 0x3f).toInt64.toUInt64).toInt64) &&& (31 : Int64))
  have h4 := rng32 ((((v.toUInt64 >>> (q &&& 0x3f).toInt64.toUInt64).toInt64) &&& (31 : Int64)).toInt32)
  have h6 := own_u64 v
  rw [h6] at h1
  have h7 : (v.toBitVec.toNat : Int) / ((2 ^ k : Nat) : Int) = ((v.toBitVec.toNat / 2 ^ k : Nat) : Int) := (Int.natCast_ediv _ _).symm
  rw [h7] at h1
  generalize v.toBitVec.toNat / 2 ^ k = r at *
  omega
theorem own_chr12 (v : Int64) : ((((v &&& (15 : Int64)) <<< ((1 : Int32) &&& 0x3f).toInt64)).toInt32).toInt = ((v.toBitVec.toNat % 16 * 2 : Nat) : Int) := by
  have h2 := c_maskL v 15 4 (by decide) (by decide)
  have h1 := c_lshl (v &&& (15 : Int64)) 1 1 (by decide)
  have h3 := c_l2i ((v &&& (15 : Int64)) <<< ((1 : Int32) &&& 0x3f).toInt64)
  have h4 := rng32 (((v &&& (15 : Int64)) <<< ((1 : Int32) &&& 0x3f).toInt64).toInt32)
  have h5 := rng64 ((v &&& (15 : Int64)) <<< ((1 : Int32) &&& 0x3f).toInt64)
  have h6 := own_u64 v
  omega
theorem own_chk0 (D N V : Nat) (hN : N ≤ 8) (h : 0 < (8 * N + 4) / 5) (hV : V = D / 2 ^ (64 - 8 * N) * 2 ^ (64 - 8 * N)) : V / 2 ^ 59 % 32 = idx D N 0 := by
  subst hV
  rcases (by omega : N = 0 ∨ N = 1 ∨ N = 2 ∨ N = 3 ∨ N = 4 ∨ N = 5 ∨ N = 6 ∨ N = 7 ∨ N = 8) with rfl | rfl | rfl | rfl | rfl | rfl | rfl | rfl | rfl <;> first | (exfalso; omega) | (simp [idx]; done) | (simp [idx]; omega)
theorem own_chk1 (D N V : Nat) (hN : N ≤ 8) (h : 1 < (8 * N + 4) / 5) (hV : V = D / 2 ^ (64 - 8 * N) * 2 ^ (64 - 8 * N)) : V / 2 ^ 54 % 32 = idx D N 1 := by
  subst hV
  rcases (by omega : N = 0 ∨ N = 1 ∨ N = 2 ∨ N = 3 ∨ N = 4 ∨ N = 5 ∨ N = 6 ∨ N = 7 ∨ N = 8) with rfl | rfl | rfl | rfl | rfl | rfl | rfl | rfl | rfl <;> first | (exfalso; omega) | (simp [idx]; done) | (simp [idx]; omega)
theorem own_chk2 (D N V : Nat) (hN : N ≤ 8) (h : 2 < (8 * N + 4) / 5) (hV : V = D / 2 ^ (64 - 8 * N) * 2 ^ (64 - 8 * N)) : V / 2 ^ 49 % 32 = idx D N 2 := by
  subst hV
  rcases (by omega : N = 0 ∨ N = 1 ∨ N = 2 ∨ N = 3 ∨ N = 4 ∨ N = 5 ∨ N = 6 ∨ N = 7 ∨ N = 8) with rfl | rfl | rfl | rfl | rfl | rfl | rfl | rfl | rfl <;> first | (exfalso; omega) | (simp [idx]; done) | (simp [idx]; omega)
theorem own_chk3 (D N V : Nat) (hN : N ≤ 8) (h : 3 < (8 * N + 4) / 5) (hV : V = D / 2 ^ (64 - 8 * N) * 2 ^ (64 - 8 * N)) : V / 2 ^ 44 % 32 = idx D N 3 := by
  subst hV
  rcases (by omega : N = 0 ∨ N = 1 ∨ N = 2 ∨ N = 3 ∨ N = 4 ∨ N = 5 ∨ N = 6 ∨ N = 7 ∨ N = 8) with rfl | rfl | rfl | rfl | rfl | rfl | rfl | rfl | rfl <;> first | (exfalso; omega) | (simp [idx]; done) | (simp [idx]; omega)
theorem own_chk4 (D N V : Nat) (hN : N ≤ 8) (h : 4 < (8 * N + 4) / 5) (hV : V = D / 2 ^ (64 - 8 * N) * 2 ^ (64 - 8 * N)) : V / 2 ^ 39 % 32 = idx D N 4 := by
  subst hV
  rcases (by omega : N = 0 ∨ N = 1 ∨ N = 2 ∨ N = 3 ∨ N = 4 ∨ N = 5 ∨ N = 6 ∨ N = 7 ∨ N = 8) with rfl | rfl | rfl | rfl | rfl | rfl | rfl | rfl | rfl <;> first | (exfalso; omega) | (simp [idx]; done) | (simp [idx]; omega)
theorem own_chk5 (D N V : Nat) (hN : N ≤ 8) (h : 5 < (8 * N + 4) / 5) (hV : V = D / 2 ^ (64 - 8 * N) * 2 ^ (64 - 8 * N)) : V / 2 ^ 34 % 32 = idx D N 5 := by
  subst hV
  rcases (by omega : N = 0 ∨ N = 1 ∨ N = 2 ∨ N = 3 ∨ N = 4 ∨ N = 5 ∨ N = 6 ∨ N = 7 ∨ N = 8) with rfl | rfl | rfl | rfl | rfl | rfl | rfl | rfl | rfl <;> first | (exfalso; omega) | (simp [idx]; done) | (simp [idx]; omega)
theorem own_chk6 (D N V : Nat) (hN : N ≤ 8) (h : 6 < (8 * N + 4) / 5) (hV : V = D / 2 ^ (64 - 8 * N) * 2 ^ (64 - 8 * N)) : V / 2 ^ 29 % 32 = idx D N 6 := by
  subst hV
  rcases (by omega : N = 0 ∨ N = 1 ∨ N = 2 ∨ N = 3 ∨ N = 4 ∨ N = 5 ∨ N = 6 ∨ N = 7 ∨ N = 8) with rfl | rfl | rfl | rfl | rfl | rfl | rfl | rfl | rfl <;> first | (exfalso; omega) | (simp [idx]; done) | (simp [idx]; omega)
theorem own_chk7 (D N V : Nat) (hN : N ≤ 8) (h : 7 < (8 * N + 4) / 5) (hV : V = D / 2 ^ (64 - 8 * N) * 2 ^ (64 - 8 * N)) : V / 2 ^ 24 % 32 = idx D N 7 := by
  subst hV
  rcases (by omega : N = 0 ∨ N = 1 ∨ N = 2 ∨ N = 3 ∨ N = 4 ∨ N = 5 ∨ N = 6 ∨ N = 7 ∨ N = 8) with rfl | rfl | rfl | rfl | rfl | rfl | rfl | rfl | rfl <;> first | (exfalso; omega) | (simp [idx]; done) | (simp [idx]; omega)
theorem own_chk8 (D N V : Nat) (hN : N ≤ 8) (h : 8 < (8 * N + 4) / 5) (hV : V = D / 2 ^ (64 - 8 * N) * 2 ^ (64 - 8 * N)) : V / 2 ^ 19 % 32 = idx D N 8 := by
  subst hV
  rcases (by omega : N = 0 ∨ N = 1 ∨ N = 2 ∨ N = 3 ∨ N = 4 ∨ N = 5 ∨ N = 6 ∨ N = 7 ∨ N = 8) with rfl | rfl | rfl | rfl | rfl | rfl | rfl | rfl | rfl <;> first | (exfalso; omega) | (simp [idx]; done) | (simp [idx]; omega)
theorem own_chk9 (D N V : Nat) (hN : N ≤ 8) (h : 9 < (8 * N + 4) / 5) (hV : V = D / 2 ^ (64 - 8 * N) * 2 ^ (64 - 8 * N)) : V / 2 ^ 14 % 32 = idx D N 9 := by
  subst hV
  rcases (by omega : N = 0 ∨ N = 1 ∨ N = 2 ∨ N = 3 ∨ N = 4 ∨ N = 5 ∨ N = 6 ∨ N = 7 ∨ N = 8) with rfl | rfl | rfl | rfl | rfl | rfl | rfl | rfl | rfl <;> first | (exfalso; omega) | (simp [idx]; done) | (simp [idx]; omega)
theorem own_chk10 (D N V : Nat) (hN : N ≤ 8) (h : 10 < (8 * N + 4) / 5) (hV : V = D / 2 ^ (64 - 8 * N) * 2 ^ (64 - 8 * N)) : V / 2 ^ 9 % 32 = idx D N 10 := by
  subst hV
  rcases (by omega : N = 0 ∨ N = 1 ∨ N = 2 ∨ N = 3 ∨ N = 4 ∨ N = 5 ∨ N = 6 ∨ N = 7 ∨ N = 8) with rfl | rfl | rfl | rfl | rfl | rfl | rfl | rfl | rfl <;> first | (exfalso; omega) | (simp [idx]; done) | (simp [idx]; omega)
theorem own_chk11 (D N V : Nat) (hN : N ≤ 8) (h : 11 < (8 * N + 4) / 5) (hV : V = D / 2 ^ (64 - 8 * N) * 2 ^ (64 - 8 * N)) : V / 2 ^ 4 % 32 = idx D N 11 := by
  subst hV
  rcases (by omega : N = 0 ∨ N = 1 ∨ N = 2 ∨ N = 3 ∨ N = 4 ∨ N = 5 ∨ N = 6 ∨ N = 7 ∨ N = 8) with rfl | rfl | rfl | rfl | rfl | rfl | rfl | rfl | rfl <;> first | (exfalso; omega) | (simp [idx]; done) | (simp [idx]; omega)
theorem own_chk12 (D N V : Nat) (hN : N ≤ 8) (h : 12 < (8 * N + 4) / 5) (hV : V = D / 2 ^ (64 - 8 * N) * 2 ^ (64 - 8 * N)) : V % 16 * 2 = idx D N 12 := by
  subst hV
  rcases (by omega : N = 0 ∨ N = 1 ∨ N = 2 ∨ N = 3 ∨ N = 4 ∨ N = 5 ∨ N = 6 ∨ N = 7 ∨ N = 8) with rfl | rfl | rfl | rfl | rfl | rfl | rfl | rfl | rfl <;> first | (exfalso; omega) | (simp [idx]; done) | (simp [idx]; omega)
theorem own_sym1 {q : Int32} {k : Nat} (h : q.toInt = k) (hk : k < 26) : ((65 : Int32) + q).toUInt32.toUInt16.toUInt32.toInt32 = alphaI k := by
  have a := (alpha_fin ⟨k, by omega⟩).2.2.2.2
  dsimp only at a
  rw [if_pos hk] at a
  have h1 := c_i2c ((65 : Int32) + q)
  have h2 := c_iadd 65 q
  have h3 := rng32 ((65 : Int32) + q)
  have e : (65 : Int32).toInt = 65 := rfl
  apply Int32.toInt_inj.mp
  omega
theorem own_sym2 {q : Int32} {k : Nat} (h : q.toInt = k) (hk : ¬ k < 26) (hk2 : k < 32) : ((50 : Int32) + q - (26 : Int32)).toUInt32.toUInt16.toUInt32.toInt32 = alphaI k := by
  have a := (alpha_fin ⟨k, hk2⟩).2.2.2.2
  dsimp only at a
  rw [if_neg hk] at a
  have h1 := c_i2c ((50 : Int32) + q - (26 : Int32))
  have h2 := c_iadd 50 q
  have h3 := rng32 ((50 : Int32) + q)
  have h4 := c_isub ((50 : Int32) + q) 26
  have h5 := rng32 ((50 : Int32) + q - (26 : Int32))
  have e : (50 : Int32).toInt = 50 := rfl
  have e2 : (26 : Int32).toInt = 26 := rfl
  apply Int32.toInt_inj.mp
  omega
theorem alpha_nar : ∀ k : Fin 32, (alphaI k.1).toUInt32.toUInt16.toUInt32.toInt32 = alphaI k.1 := by decide +kernel
theorem own_narA {k : Nat} (h : k < 32) : narrow .char (.int (alphaI k)) = .int (alphaI k) := congrArg Value.int (alpha_nar ⟨k, h⟩)
def ByteAt (D : Nat) (vs : List Value) (j : Nat) : Prop := ∃ b : Int32, vs[j]? = some (.int b) ∧ (b &&& 255).toInt = ((D / 2 ^ (64 - 8 * (j + 1)) % 256 : Nat) : Int)
theorem own_fill {D N i : Nat} {vs : List Value} {x : Int32} (hl : vs.length = N) (hP : ∀ j, j < i → j < N → ByteAt D vs j) (hi : i < N) (hx : (x &&& 255).toInt = ((D / 2 ^ (64 - 8 * (i + 1)) % 256 : Nat) : Int)) : ∀ j, j < i + 1 → j < N → ByteAt D (vs.set i (.int x)) j := by
  intro j h1 h2
  by_cases h : j = i
  · subst h
    exact ⟨x, by rw [List.getElem?_set_self (by omega)], hx⟩
  · obtain ⟨b, q1, q2⟩ := hP j (by omega) h2
    exact ⟨b, by rw [List.getElem?_set_ne (by omega)]; exact q1, q2⟩
theorem own_skip {D N i : Nat} {vs : List Value} (hP : ∀ j, j < i → j < N → ByteAt D vs j) (hi : ¬ i < N) : ∀ j, j < i + 1 → j < N → ByteAt D vs j := fun j h1 h2 => hP j (by omega) h2
theorem own_n9 (x : Int32) : 0 ≤ ((x &&& 2147483647) % 9).toInt ∧ ((x &&& 2147483647) % 9).toInt < 9 := by
  have h1 := c_mask x 2147483647 31 (by decide) (by decide)
  have h2 := c_irem (x &&& 2147483647) 9 9 rfl
  omega
theorem d18_0 : decode jdk_42_method_152_code 0 = .ok (.getstatic 38, 3) := by decide +kernel
theorem d18_3 : decode jdk_42_method_152_code 3 = .ok (.ifCond .eq 10, 3) := by decide +kernel
theorem d18_6 : decode jdk_42_method_152_code 6 = .ok (.aload_n 0, 1) := by decide +kernel
theorem d18_7 : decode jdk_42_method_152_code 7 = .ok (.getfield 15, 3) := by decide +kernel
theorem d18_10 : decode jdk_42_method_152_code 10 = .ok (.goto 4, 3) := by decide +kernel
theorem d18_13 : decode jdk_42_method_152_code 13 = .ok (.iconst 1, 1) := by decide +kernel
theorem d18_14 : decode jdk_42_method_152_code 14 = .ok (.ireturn, 1) := by decide +kernel
theorem ef_rmCoder (m : MethodId) (a : Addr) : entryFrame m #[(.ref a)] 1 = mkF m 0 #[.val (.ref a)] [] := by first | (simp [entryFrame, mkF, argsToLocals, Value.category, maxLocals]; done) | rfl
set_option maxRecDepth 65536 in
set_option maxHeartbeats 40000000 in
theorem rmCoder (l : Launch) (Z : State) (a0 : Array Value) (hw : ∀ d ∈ tables_1, d.before a0 Z = true) (ws : List Jvm.Cond) (a : Addr) (cz : Int32) (h0 : Heap) (n0 : Nat) (Z0 : n0 ≤ h0.size) (Cc : Fld Z h0 a "java/lang/String" "coder" "B" (.int 0)) (Sc : Sta Z h0 "java/lang/String" "COMPACT_STRINGS" "Z" (.int cz)) (hcz : ¬ cz = 0) :
    MetFree l (⟨"java/lang/String", "coder", "()B"⟩ : MethodName) (head1 (Jvm.Cond.code (⟨"java/lang/String", "coder", "()B"⟩ : MethodName) jdk_42_method_152_code (1 : Nat) (Option.some Jvm.ClassFile.FieldType.byte) :: ws) ({ frames := 0, cells := 0, slots := 0, locals := 0 } : Room)) (fun aZ UZ => aZ = #[(.ref a)] ∧ Z.Warmed39 UZ.vm ∧ UZ.heap = h0) (fun _ _ _ _ _ => True) (fun _ UZ oZ VZ => ∃ vZ LZ, oZ = .returned vZ ∧ (QSame (some (.int 0)) h0 n0) vZ VZ.heap LZ ∧ FrameEnd UZ oZ VZ LZ ({ frames := 0, cells := 0, slots := 0, locals := 0 } : Room).cells ({ frames := 0, cells := 0, slots := 0, locals := 0 } : Room).slots) := by
  refine MetFree.of_bodySF (plainFor_of_name pn_4) hisR ?_
  intro p e s m args below meth c s₁ Bd hml0 hP hK
  obtain ⟨rfl, hZ, hh⟩ := hP
  have hx := Bd.exec
  have hby := Bd.bytes
  have hml : c.maxLocals = 1 := hml0
  have hown : s.vm.findClass "java/lang/String" = some m.cls := findClass_of_methodNamed Bd.named
  have hnm := (name_of_methodNamed Bd.named Bd.method).1
  have X0 : Stand p l e ({ frames := 0, cells := 0, slots := 0, locals := 0 } : Room) s m #[(.ref a)] below meth c s₁ [] 0 0 := Stand.of_body Bd
  have e0 : s₁.heap = h0 := by rw [← hh, Bd.state]; rfl
  have N0 := Fr.nil n0
  show OwnG p e below (OwnE s (QSame (some (.int 0)) h0 n0) ({ frames := 0, cells := 0, slots := 0, locals := 0 } : Room).cells ({ frames := 0, cells := 0, slots := 0, locals := 0 } : Room).slots) _
  refine own_by (S' := s₁.setTop (mkF m 0 #[.val (.ref a)] [])) (fun tZ kZ => castTop (ef_rmCoder m a) kZ) ?_
  obtain ⟨T1, X1, e1, st1⟩ := getS2 X0 hx hZ hown (host := "") (Or.inl (hw _ (List.mem_of_getElem? (i := 111) rfl))) Via.refl e0 Sc (g := (mkF m 0 #[.val (.ref a)] [])) rfl (hb hby d18_0)
  refine own_by (S' := T1.setTop (mkF m 3 #[.val (.ref a)] [(.int cz)])) st1 ?_
  refine own_by (S' := T1.setTop (mkF m 6 #[.val (.ref a)] [])) (fun tZ kZ => XS.ifNo X1.here hx rfl (hb hby d18_3) rfl ((if0 _ _).trans (feq hcz).1) kZ) ?_
  refine own_by (S' := T1.setTop (mkF m 7 #[.val (.ref a)] [(.ref a)])) (fun tZ kZ => XS.aloadN X1.here hx rfl (hb hby d18_6) rfl rfl kZ) ?_
  obtain ⟨T2, X2, e2, st2⟩ := getF X1 hx hZ hown (host := "") (Or.inl (hw _ (List.mem_of_getElem? (i := 84) rfl))) Via.refl e1 Cc (g := (mkF m 7 #[.val (.ref a)] [(.ref a)])) rfl rfl (hb hby d18_7)
  refine own_by (S' := T2.setTop (mkF m 10 #[.val (.ref a)] [(.int (0 : Int32))])) st2 ?_
  refine own_by (S' := T2.setTop (mkF m 14 #[.val (.ref a)] [(.int (0 : Int32))])) (fun tZ kZ => XS.goto X2.here hx rfl (pc0 := 10) (pc' := 14) rfl (hb hby d18_10) (by decide) (by decide) kZ) ?_
  exact own_retI X2 hx (t := .byte) Bd.returns (by simp) rfl (hb hby d18_14) Bd.notSynchronized (by decide) (by decide) ⟨rfl, N0, e2⟩
theorem d17_0 : decode jdk_42_method_54_code 0 = .ok (.aload_n 0, 1) := by decide +kernel
theorem d17_1 : decode jdk_42_method_54_code 1 = .ok (.getfield 9, 3) := by decide +kernel
theorem d17_4 : decode jdk_42_method_54_code 4 = .ok (.arraylength, 1) := by decide +kernel
theorem d17_5 : decode jdk_42_method_54_code 5 = .ok (.aload_n 0, 1) := by decide +kernel
theorem d17_6 : decode jdk_42_method_54_code 6 = .ok (.invokevirtual 335, 3) := by decide +kernel
theorem d17_9 : decode jdk_42_method_54_code 9 = .ok (.ishr, 1) := by decide +kernel
theorem d17_10 : decode jdk_42_method_54_code 10 = .ok (.ireturn, 1) := by decide +kernel
theorem ef_rmLen (m : MethodId) (a : Addr) : entryFrame m #[(.ref a)] 1 = mkF m 0 #[.val (.ref a)] [] := by first | (simp [entryFrame, mkF, argsToLocals, Value.category, maxLocals]; done) | rfl
set_option maxRecDepth 65536 in
set_option maxHeartbeats 40000000 in
theorem rmLen (l : Launch) (Z : State) (a0 : Array Value) (hw : ∀ d ∈ tables_1, d.before a0 Z = true) (ws : List Jvm.Cond) (a t : Addr) (z cz : Int32) (cl : Cell) (h0 : Heap) (n0 : Nat) (Z0 : n0 ≤ h0.size) (Ex : Exa Z h0 a "java/lang/String") (Vv : Fld Z h0 a "java/lang/String" "value" "[B" (.ref t)) (Cc : Fld Z h0 a "java/lang/String" "coder" "B" (.int 0)) (Ar : Arr Z h0 t cl .byte) (Sz : cl.slots.size = z.toNatClampNeg) (Nz : ¬ z < 0) (Sc : Sta Z h0 "java/lang/String" "COMPACT_STRINGS" "Z" (.int cz)) (hcz : ¬ cz = 0) :
    MetFree l (⟨"java/lang/String", "length", "()I"⟩ : MethodName) (head1 (Jvm.Cond.code (⟨"java/lang/String", "length", "()I"⟩ : MethodName) jdk_42_method_54_code (1 : Nat) (Option.some Jvm.ClassFile.FieldType.int) :: ws) ({ frames := 1, cells := 0, slots := 0, locals := 13 } : Room)) (fun aZ UZ => aZ = #[(.ref a)] ∧ Z.Warmed39 UZ.vm ∧ UZ.heap = h0) (fun _ _ _ _ _ => True) (fun _ UZ oZ VZ => ∃ vZ LZ, oZ = .returned vZ ∧ (QSame (some (.int z)) h0 n0) vZ VZ.heap LZ ∧ FrameEnd UZ oZ VZ LZ ({ frames := 1, cells := 0, slots := 0, locals := 13 } : Room).cells ({ frames := 1, cells := 0, slots := 0, locals := 13 } : Room).slots) := by
  refine MetFree.of_bodySF (plainFor_of_name pn_4) hisR ?_
  intro p e s m args below meth c s₁ Bd hml0 hP hK
  obtain ⟨rfl, hZ, hh⟩ := hP
  have hx := Bd.exec
  have hby := Bd.bytes
  have hml : c.maxLocals = 1 := hml0
  have hown : s.vm.findClass "java/lang/String" = some m.cls := findClass_of_methodNamed Bd.named
  have hnm := (name_of_methodNamed Bd.named Bd.method).1
  have X0 : Stand p l e ({ frames := 1, cells := 0, slots := 0, locals := 13 } : Room) s m #[(.ref a)] below meth c s₁ [] 0 0 := Stand.of_body Bd
  have e0 : s₁.heap = h0 := by rw [← hh, Bd.state]; rfl
  have N0 := Fr.nil n0
  show OwnG p e below (OwnE s (QSame (some (.int z)) h0 n0) ({ frames := 1, cells := 0, slots := 0, locals := 13 } : Room).cells ({ frames := 1, cells := 0, slots := 0, locals := 13 } : Room).slots) _
  refine own_by (S' := s₁.setTop (mkF m 0 #[.val (.ref a)] [])) (fun tZ kZ => castTop (ef_rmLen m a) kZ) ?_
  refine own_by (S' := s₁.setTop (mkF m 1 #[.val (.ref a)] [(.ref a)])) (fun tZ kZ => XS.aloadN X0.here hx rfl (hb hby d17_0) rfl rfl kZ) ?_
  obtain ⟨T1, X1, e1, st1⟩ := getF X0 hx hZ hown (host := "") (Or.inl (hw _ (List.mem_of_getElem? (i := 99) rfl))) Via.refl e0 Vv (g := (mkF m 1 #[.val (.ref a)] [(.ref a)])) rfl rfl (hb hby d17_1)
  refine own_by (S' := T1.setTop (mkF m 4 #[.val (.ref a)] [(.ref t)])) st1 ?_
  refine own_by (S' := T1.setTop (mkF m 5 #[.val (.ref a)] [(.int z)])) (fun tZ kZ => X1.arraylength hx (by rw [e1]; exact Ar.1) (State.isArrayOf_alike hZ.alike Ar.2.1) (g := (mkF m 4 #[.val (.ref a)] [(.ref t)])) rfl rfl (hb hby d17_4) _ (by rw [len_of Sz Nz]; exact kZ)) ?_
  refine own_by (S' := T1.setTop (mkF m 6 #[.val (.ref a)] [(.ref a), (.int z)])) (fun tZ kZ => XS.aloadN X1.here hx rfl (hb hby d17_5) rfl rfl kZ) ?_
  obtain ⟨cq2, kq2, q2a, q2b, q2c⟩ := isOf hZ e1 Ex
  obtain ⟨_, _, ⟨T2, L2, k2, n2⟩, -, X2, ⟨Lc2, hQ2, l2, y2, z2⟩, st2⟩ := X1.virtualBack hx (y := (⟨"java/lang/String", "coder", "()B"⟩ : MethodName)) (z := (⟨"java/lang/String", "coder", "()B"⟩ : MethodName)) hown (mvT hZ (hw _ (List.mem_of_getElem? (i := 106) rfl))) (mvT hZ (hw _ (List.mem_of_getElem? (i := 107) rfl))) (notFace_of_selects (args := #[]) (mvT hZ (hw _ (List.mem_of_getElem? (i := 109) rfl)))) (mvT hZ (hw _ (List.mem_of_getElem? (i := 109) rfl))) (mvT hZ (hw _ (List.mem_of_getElem? (i := 108) rfl))) (by decide) (backOf (W := 1) (rmCoder l Z a0 hw [] a cz h0 n0 Z0 Cc Sc hcz) hZ (hw _ (List.mem_of_getElem? (i := 110) rfl)) (hw _ (List.mem_of_getElem? (i := 22) rfl)) (by decide) (by decide)) q2a q2c (g := (mkF m 6 #[.val (.ref a)] [(.ref a), (.int z)])) rfl (by rw [hml]; rfl) (Steps.refl _) (argsL := []) (rest := [(.int z)]) (lenOf pd_11 rfl) rfl (by show 2 * 0 + _ ≤ _; exact Nat.le_of_eq rfl) (hb hby d17_6) (fun _ _ => ⟨rfl, e1, (by decide : 0 + 0 ≤ _), (by decide : 0 + 0 ≤ _)⟩)
  dsimp only [Pt.U, Pt.locs, Pt.cells, Pt.slots] at X2 l2 y2 z2 st2 hQ2
  subst l2 y2 z2
  obtain ⟨rfl, N2q, heq2⟩ := hQ2
  have N2 := Fr.app N0 N2q
  refine own_by (S' := T2.setTop (mkF m 9 #[.val (.ref a)] [(.int (0 : Int32)), (.int z)])) (fun tZ kZ => st2.trans kZ) ?_
  refine own_by (S' := T2.setTop (mkF m 10 #[.val (.ref a)] [(.int (z >>> ((0 : Int32) &&& 31)))])) (fun tZ kZ => XS.ishr X2.here hx rfl (hb hby d17_9) rfl kZ) ?_
  rw [own_shr0]
  exact own_retI X2 hx (t := .int) Bd.returns (by simp) rfl (hb hby d17_10) Bd.notSynchronized (by decide) (by decide) ⟨rfl, N2, heq2⟩
theorem d21_0 : decode jdk_42_method_154_code 0 = .ok (.getstatic 38, 3) := by decide +kernel
theorem d21_3 : decode jdk_42_method_154_code 3 = .ok (.ifCond .eq 14, 3) := by decide +kernel
theorem d21_6 : decode jdk_42_method_154_code 6 = .ok (.aload_n 0, 1) := by decide +kernel
theorem d21_7 : decode jdk_42_method_154_code 7 = .ok (.getfield 15, 3) := by decide +kernel
theorem d21_10 : decode jdk_42_method_154_code 10 = .ok (.ifCond .ne 7, 3) := by decide +kernel
theorem d21_13 : decode jdk_42_method_154_code 13 = .ok (.iconst 1, 1) := by decide +kernel
theorem d21_14 : decode jdk_42_method_154_code 14 = .ok (.goto 4, 3) := by decide +kernel
theorem d21_17 : decode jdk_42_method_154_code 17 = .ok (.iconst 0, 1) := by decide +kernel
theorem d21_18 : decode jdk_42_method_154_code 18 = .ok (.ireturn, 1) := by decide +kernel
theorem ef_rmIsL (m : MethodId) (a : Addr) : entryFrame m #[(.ref a)] 1 = mkF m 0 #[.val (.ref a)] [] := by first | (simp [entryFrame, mkF, argsToLocals, Value.category, maxLocals]; done) | rfl
set_option maxRecDepth 65536 in
set_option maxHeartbeats 40000000 in
theorem rmIsL (l : Launch) (Z : State) (a0 : Array Value) (hw : ∀ d ∈ tables_1, d.before a0 Z = true) (ws : List Jvm.Cond) (a : Addr) (cz : Int32) (h0 : Heap) (n0 : Nat) (Z0 : n0 ≤ h0.size) (Cc : Fld Z h0 a "java/lang/String" "coder" "B" (.int 0)) (Sc : Sta Z h0 "java/lang/String" "COMPACT_STRINGS" "Z" (.int cz)) (hcz : ¬ cz = 0) :
    MetFree l (⟨"java/lang/String", "isLatin1", "()Z"⟩ : MethodName) (head1 (Jvm.Cond.code (⟨"java/lang/String", "isLatin1", "()Z"⟩ : MethodName) jdk_42_method_154_code (1 : Nat) (Option.some Jvm.ClassFile.FieldType.boolean) :: ws) ({ frames := 0, cells := 0, slots := 0, locals := 0 } : Room)) (fun aZ UZ => aZ = #[(.ref a)] ∧ Z.Warmed39 UZ.vm ∧ UZ.heap = h0) (fun _ _ _ _ _ => True) (fun _ UZ oZ VZ => ∃ vZ LZ, oZ = .returned vZ ∧ (QSame (some (.int 1)) h0 n0) vZ VZ.heap LZ ∧ FrameEnd UZ oZ VZ LZ ({ frames := 0, cells := 0, slots := 0, locals := 0 } : Room).cells ({ frames := 0, cells := 0, slots := 0, locals := 0 } : Room).slots) := by
  refine MetFree.of_bodySF (plainFor_of_name pn_4) hisR ?_
  intro p e s m args below meth c s₁ Bd hml0 hP hK
  obtain ⟨rfl, hZ, hh⟩ := hP
  have hx := Bd.exec
  have hby := Bd.bytes
  have hml : c.maxLocals = 1 := hml0
  have hown : s.vm.findClass "java/lang/String" = some m.cls := findClass_of_methodNamed Bd.named
  have hnm := (name_of_methodNamed Bd.named Bd.method).1
  have X0 : Stand p l e ({ frames := 0, cells := 0, slots := 0, locals := 0 } : Room) s m #[(.ref a)] below meth c s₁ [] 0 0 := Stand.of_body Bd
  have e0 : s₁.heap = h0 := by rw [← hh, Bd.state]; rfl
  have N0 := Fr.nil n0
  show OwnG p e below (OwnE s (QSame (some (.int 1)) h0 n0) ({ frames := 0, cells := 0, slots := 0, locals := 0 } : Room).cells ({ frames := 0, cells := 0, slots := 0, locals := 0 } : Room).slots) _
  refine own_by (S' := s₁.setTop (mkF m 0 #[.val (.ref a)] [])) (fun tZ kZ => castTop (ef_rmIsL m a) kZ) ?_
  obtain ⟨T1, X1, e1, st1⟩ := getS2 X0 hx hZ hown (host := "") (Or.inl (hw _ (List.mem_of_getElem? (i := 111) rfl))) Via.refl e0 Sc (g := (mkF m 0 #[.val (.ref a)] [])) rfl (hb hby d21_0)
  refine own_by (S' := T1.setTop (mkF m 3 #[.val (.ref a)] [(.int cz)])) st1 ?_
  refine own_by (S' := T1.setTop (mkF m 6 #[.val (.ref a)] [])) (fun tZ kZ => XS.ifNo X1.here hx rfl (hb hby d21_3) rfl ((if0 _ _).trans (feq hcz).1) kZ) ?_
  refine own_by (S' := T1.setTop (mkF m 7 #[.val (.ref a)] [(.ref a)])) (fun tZ kZ => XS.aloadN X1.here hx rfl (hb hby d21_6) rfl rfl kZ) ?_
  obtain ⟨T2, X2, e2, st2⟩ := getF X1 hx hZ hown (host := "") (Or.inl (hw _ (List.mem_of_getElem? (i := 84) rfl))) Via.refl e1 Cc (g := (mkF m 7 #[.val (.ref a)] [(.ref a)])) rfl rfl (hb hby d21_7)
  refine own_by (S' := T2.setTop (mkF m 10 #[.val (.ref a)] [(.int (0 : Int32))])) st2 ?_
  refine own_by (S' := T2.setTop (mkF m 13 #[.val (.ref a)] [])) (fun tZ kZ => XS.ifNo X2.here hx rfl (hb hby d21_10) rfl ((if0 _ _).trans (teq rfl).2) kZ) ?_
  refine own_by (S' := T2.setTop (mkF m 14 #[.val (.ref a)] [(.int (1 : Int32))])) (fun tZ kZ => XS.iconst X2.here hx rfl (hb hby d21_13) kZ) ?_
  refine own_by (S' := T2.setTop (mkF m 18 #[.val (.ref a)] [(.int (1 : Int32))])) (fun tZ kZ => XS.goto X2.here hx rfl (pc0 := 14) (pc' := 18) rfl (hb hby d21_14) (by decide) (by decide) kZ) ?_
  exact own_retI X2 hx (t := .boolean) Bd.returns (by simp) rfl (hb hby d21_18) Bd.notSynchronized (by decide) (by decide) ⟨rfl, N0, e2⟩
theorem d24_0 : decode jdk_41_method_11_code 0 = .ok (.iload_n 0, 1) := by decide +kernel
theorem d24_1 : decode jdk_41_method_11_code 1 = .ok (.ifCond .lt 8, 3) := by decide +kernel
theorem d24_4 : decode jdk_41_method_11_code 4 = .ok (.iload_n 0, 1) := by decide +kernel
theorem d24_5 : decode jdk_41_method_11_code 5 = .ok (.iload_n 1, 1) := by decide +kernel
theorem d24_6 : decode jdk_41_method_11_code 6 = .ok (.if_icmp .lt 10, 3) := by decide +kernel
theorem d24_9 : decode jdk_41_method_11_code 9 = .ok (.aload_n 2, 1) := by decide +kernel
theorem d24_10 : decode jdk_41_method_11_code 10 = .ok (.iload_n 0, 1) := by decide +kernel
theorem d24_11 : decode jdk_41_method_11_code 11 = .ok (.iload_n 1, 1) := by decide +kernel
theorem d24_12 : decode jdk_41_method_11_code 12 = .ok (.invokestatic 95, 3) := by decide +kernel
theorem d24_15 : decode jdk_41_method_11_code 15 = .ok (.athrow, 1) := by decide +kernel
theorem d24_16 : decode jdk_41_method_11_code 16 = .ok (.iload_n 0, 1) := by decide +kernel
theorem d24_17 : decode jdk_41_method_11_code 17 = .ok (.ireturn, 1) := by decide +kernel
theorem pn_6 : plainName "jdk/internal/util/Preconditions" = true := by first | (simp [plainName, overriddenIn]; done) | decide +kernel
theorem ef_rmPCI (m : MethodId) (i : Int32) (z : Int32) (fm : Value) (rf : fm.isRef = true) : entryFrame m #[(.int i), (.int z), fm] 3 = mkF m 0 #[.val (.int i), .val (.int z), .val fm] [] := by rcases ref_cases rf with rfl | ⟨f, rfl⟩ <;> rfl
set_option maxRecDepth 65536 in
set_option maxHeartbeats 40000000 in
theorem rmPCI (l : Launch) (Z : State) (a0 : Array Value) (hw : ∀ d ∈ tables_1, d.before a0 Z = true) (ws : List Jvm.Cond) (i z : Int32) (fm : Value) (h0 : Heap) (n0 : Nat) (Z0 : n0 ≤ h0.size) (h1 : ¬ i < 0) (h2 : i < z) (rf : fm.isRef = true) :
    MetFree l (⟨"jdk/internal/util/Preconditions", "checkIndex", "(IILjava/util/function/BiFunction;)I"⟩ : MethodName) (head1 (Jvm.Cond.code (⟨"jdk/internal/util/Preconditions", "checkIndex", "(IILjava/util/function/BiFunction;)I"⟩ : MethodName) jdk_41_method_11_code (3 : Nat) (Option.some Jvm.ClassFile.FieldType.int) :: ws) ({ frames := 0, cells := 0, slots := 0, locals := 0 } : Room)) (fun aZ UZ => aZ = #[(.int i), (.int z), fm] ∧ Z.Warmed39 UZ.vm ∧ UZ.heap = h0) (fun _ _ _ _ _ => True) (fun _ UZ oZ VZ => ∃ vZ LZ, oZ = .returned vZ ∧ (QSame (some (.int i)) h0 n0) vZ VZ.heap LZ ∧ FrameEnd UZ oZ VZ LZ ({ frames := 0, cells := 0, slots := 0, locals := 0 } : Room).cells ({ frames := 0, cells := 0, slots := 0, locals := 0 } : Room).slots) := by
  refine MetFree.of_bodySF (plainFor_of_name pn_6) hisR ?_
  intro p e s m args below meth c s₁ Bd hml0 hP hK
  obtain ⟨rfl, hZ, hh⟩ := hP
  have hx := Bd.exec
  have hby := Bd.bytes
  have hml : c.maxLocals = 3 := hml0
  have hown : s.vm.findClass "jdk/internal/util/Preconditions" = some m.cls := findClass_of_methodNamed Bd.named
  have hnm := (name_of_methodNamed Bd.named Bd.method).1
  have X0 : Stand p l e ({ frames := 0, cells := 0, slots := 0, locals := 0 } : Room) s m #[(.int i), (.int z), fm] below meth c s₁ [] 0 0 := Stand.of_body Bd
  have e0 : s₁.heap = h0 := by rw [← hh, Bd.state]; rfl
  have N0 := Fr.nil n0
  show OwnG p e below (OwnE s (QSame (some (.int i)) h0 n0) ({ frames := 0, cells := 0, slots := 0, locals := 0 } : Room).cells ({ frames := 0, cells := 0, slots := 0, locals := 0 } : Room).slots) _
  refine own_by (S' := s₁.setTop (mkF m 0 #[.val (.int i), .val (.int z), .val fm] [])) (fun tZ kZ => castTop (ef_rmPCI m i z fm rf) kZ) ?_
  refine own_by (S' := s₁.setTop (mkF m 1 #[.val (.int i), .val (.int z), .val fm] [(.int i)])) (fun tZ kZ => XS.iloadN X0.here hx rfl (hb hby d24_0) rfl kZ) ?_
  refine own_by (S' := s₁.setTop (mkF m 4 #[.val (.int i), .val (.int z), .val fm] [])) (fun tZ kZ => XS.ifNo X0.here hx rfl (hb hby d24_1) rfl ((if0 _ _).trans (flt h1).1) kZ) ?_
  refine own_by (S' := s₁.setTop (mkF m 5 #[.val (.int i), .val (.int z), .val fm] [(.int i)])) (fun tZ kZ => XS.iloadN X0.here hx rfl (hb hby d24_4) rfl kZ) ?_
  refine own_by (S' := s₁.setTop (mkF m 6 #[.val (.int i), .val (.int z), .val fm] [(.int z), (.int i)])) (fun tZ kZ => XS.iloadN X0.here hx rfl (hb hby d24_5) rfl kZ) ?_
  refine own_by (S' := s₁.setTop (mkF m 16 #[.val (.int i), .val (.int z), .val fm] [])) (fun tZ kZ => XS.icmpYes X0.here hx rfl (pc0 := 6) (pc' := 16) rfl (hb hby d24_6) rfl (tlt h2).1 (by decide) (by decide) kZ) ?_
  refine own_by (S' := s₁.setTop (mkF m 17 #[.val (.int i), .val (.int z), .val fm] [(.int i)])) (fun tZ kZ => XS.iloadN X0.here hx rfl (hb hby d24_16) rfl kZ) ?_
  exact own_retI X0 hx (t := .int) Bd.returns (by simp) rfl (hb hby d24_17) Bd.notSynchronized (by decide) (by decide) ⟨rfl, N0, e0⟩
theorem d23_0 : decode jdk_42_method_155_code 0 = .ok (.iload_n 0, 1) := by decide +kernel
theorem d23_1 : decode jdk_42_method_155_code 1 = .ok (.iload_n 1, 1) := by decide +kernel
theorem d23_2 : decode jdk_42_method_155_code 2 = .ok (.getstatic 1053, 3) := by decide +kernel
theorem d23_5 : decode jdk_42_method_155_code 5 = .ok (.invokestatic 1059, 3) := by decide +kernel
theorem d23_8 : decode jdk_42_method_155_code 8 = .ok (.pop, 1) := by decide +kernel
theorem d23_9 : decode jdk_42_method_155_code 9 = .ok (.return_, 1) := by decide +kernel
theorem ef_rmCI (m : MethodId) (i : Int32) (z : Int32) : entryFrame m #[(.int i), (.int z)] 2 = mkF m 0 #[.val (.int i), .val (.int z)] [] := by first | (simp [entryFrame, mkF, argsToLocals, Value.category, maxLocals]; done) | rfl
set_option maxRecDepth 65536 in
set_option maxHeartbeats 40000000 in
theorem rmCI (l : Launch) (Z : State) (a0 : Array Value) (hw : ∀ d ∈ tables_1, d.before a0 Z = true) (ws : List Jvm.Cond) (i z : Int32) (fm : Value) (h0 : Heap) (n0 : Nat) (Z0 : n0 ≤ h0.size) (h1 : ¬ i < 0) (h2 : i < z) (Sf : Sta Z h0 "jdk/internal/util/Preconditions" "SIOOBE_FORMATTER" "Ljava/util/function/BiFunction;" fm) (rf : fm.isRef = true) :
    MetFree l (⟨"java/lang/String", "checkIndex", "(II)V"⟩ : MethodName) (head1 (Jvm.Cond.code (⟨"java/lang/String", "checkIndex", "(II)V"⟩ : MethodName) jdk_42_method_155_code (2 : Nat) (Option.none : Option Jvm.ClassFile.FieldType) :: ws) ({ frames := 1, cells := 0, slots := 0, locals := 14 } : Room)) (fun aZ UZ => aZ = #[(.int i), (.int z)] ∧ Z.Warmed39 UZ.vm ∧ UZ.heap = h0) (fun _ _ _ _ _ => True) (fun _ UZ oZ VZ => ∃ vZ LZ, oZ = .returned vZ ∧ (QSame none h0 n0) vZ VZ.heap LZ ∧ FrameEnd UZ oZ VZ LZ ({ frames := 1, cells := 0, slots := 0, locals := 14 } : Room).cells ({ frames := 1, cells := 0, slots := 0, locals := 14 } : Room).slots) := by
  refine MetFree.of_bodySF (plainFor_of_name pn_4) hisR ?_
  intro p e s m args below meth c s₁ Bd hml0 hP hK
  obtain ⟨rfl, hZ, hh⟩ := hP
  have hx := Bd.exec
  have hby := Bd.bytes
  have hml : c.maxLocals = 2 := hml0
  have hown : s.vm.findClass "java/lang/String" = some m.cls := findClass_of_methodNamed Bd.named
  have hnm := (name_of_methodNamed Bd.named Bd.method).1
  have X0 : Stand p l e ({ frames := 1, cells := 0, slots := 0, locals := 14 } : Room) s m #[(.int i), (.int z)] below meth c s₁ [] 0 0 := Stand.of_body Bd
  have e0 : s₁.heap = h0 := by rw [← hh, Bd.state]; rfl
  have N0 := Fr.nil n0
  show OwnG p e below (OwnE s (QSame none h0 n0) ({ frames := 1, cells := 0, slots := 0, locals := 14 } : Room).cells ({ frames := 1, cells := 0, slots := 0, locals := 14 } : Room).slots) _
  refine own_by (S' := s₁.setTop (mkF m 0 #[.val (.int i), .val (.int z)] [])) (fun tZ kZ => castTop (ef_rmCI m i z) kZ) ?_
  refine own_by (S' := s₁.setTop (mkF m 1 #[.val (.int i), .val (.int z)] [(.int i)])) (fun tZ kZ => XS.iloadN X0.here hx rfl (hb hby d23_0) rfl kZ) ?_
  refine own_by (S' := s₁.setTop (mkF m 2 #[.val (.int i), .val (.int z)] [(.int z), (.int i)])) (fun tZ kZ => XS.iloadN X0.here hx rfl (hb hby d23_1) rfl kZ) ?_
  obtain ⟨T1, X1, e1, st1⟩ := getS2 X0 hx hZ hown (host := "") (Or.inl (hw _ (List.mem_of_getElem? (i := 134) rfl))) Via.refl e0 Sf (g := (mkF m 2 #[.val (.int i), .val (.int z)] [(.int z), (.int i)])) rfl (hb hby d23_2)
  refine own_by (S' := T1.setTop (mkF m 5 #[.val (.int i), .val (.int z)] [fm, (.int z), (.int i)])) st1 ?_
  obtain ⟨_, _, ⟨T2, L2, k2, n2⟩, -, X2, ⟨Lc2, hQ2, l2, y2, z2⟩, st2⟩ := Jvm.LawKit.callS X1 hx (y := (⟨"jdk/internal/util/Preconditions", "checkIndex", "(IILjava/util/function/BiFunction;)I"⟩ : MethodName)) hown (mvT hZ (hw _ (List.mem_of_getElem? (i := 136) rfl))) (mvT hZ (hw _ (List.mem_of_getElem? (i := 137) rfl))) (mvT hZ (hw _ (List.mem_of_getElem? (i := 135) rfl))) (mvT hZ (hw _ (List.mem_of_getElem? (i := 138) rfl))) (by decide) (backOf (W := 0) (rmPCI l Z a0 hw [] i z fm h0 n0 Z0 h1 h2 rf) hZ (hw _ (List.mem_of_getElem? (i := 138) rfl)) (hw _ (List.mem_of_getElem? (i := 135) rfl)) (by decide) (by decide)) (g := (mkF m 5 #[.val (.int i), .val (.int z)] [fm, (.int z), (.int i)])) rfl (by rw [hml]; rfl) (argsL := [(.int i), (.int z), fm]) (rest := []) (lenOf pd_12 rfl) rfl (by show 2 * 0 + _ ≤ _; exact Nat.le_of_eq rfl) (hb hby d23_5) (fun _ _ => ⟨rfl, e1, (by decide : 0 + 0 ≤ _), (by decide : 0 + 0 ≤ _)⟩)
  dsimp only [Pt.U, Pt.locs, Pt.cells, Pt.slots] at X2 l2 y2 z2 st2 hQ2
  subst l2 y2 z2
  obtain ⟨rfl, N2q, heq2⟩ := hQ2
  have N2 := Fr.app N0 N2q
  refine own_by (S' := T2.setTop (mkF m 8 #[.val (.int i), .val (.int z)] [(.int i)])) (fun tZ kZ => st2 _ kZ) ?_
  refine own_by (S' := T2.setTop (mkF m 9 #[.val (.int i), .val (.int z)] [])) (fun tZ kZ => XS.pop X2.here hx rfl (hb hby d23_8) rfl rfl kZ) ?_
  exact own_ret0 X2 hx Bd.returns (hb hby d23_9) Bd.notSynchronized (by decide) (by decide) ⟨rfl, N2, heq2⟩
theorem d22_0 : decode jdk_43_method_2_code 0 = .ok (.iload_n 1, 1) := by decide +kernel
theorem d22_1 : decode jdk_43_method_2_code 1 = .ok (.aload_n 0, 1) := by decide +kernel
theorem d22_2 : decode jdk_43_method_2_code 2 = .ok (.arraylength, 1) := by decide +kernel
theorem d22_3 : decode jdk_43_method_2_code 3 = .ok (.invokestatic 9, 3) := by decide +kernel
theorem d22_6 : decode jdk_43_method_2_code 6 = .ok (.aload_n 0, 1) := by decide +kernel
theorem d22_7 : decode jdk_43_method_2_code 7 = .ok (.iload_n 1, 1) := by decide +kernel
theorem d22_8 : decode jdk_43_method_2_code 8 = .ok (.baload, 1) := by decide +kernel
theorem d22_9 : decode jdk_43_method_2_code 9 = .ok (.sipush 255, 3) := by decide +kernel
theorem d22_12 : decode jdk_43_method_2_code 12 = .ok (.iand, 1) := by decide +kernel
theorem d22_13 : decode jdk_43_method_2_code 13 = .ok (.i2c, 1) := by decide +kernel
theorem d22_14 : decode jdk_43_method_2_code 14 = .ok (.ireturn, 1) := by decide +kernel
theorem ef_rmLCh (m : MethodId) (t : Addr) (i : Int32) : entryFrame m #[(.ref t), (.int i)] 2 = mkF m 0 #[.val (.ref t), .val (.int i)] [] := by first | (simp [entryFrame, mkF, argsToLocals, Value.category, maxLocals]; done) | rfl
set_option maxRecDepth 65536 in
set_option maxHeartbeats 40000000 in
theorem rmLCh (l : Launch) (Z : State) (a0 : Array Value) (hw : ∀ d ∈ tables_1, d.before a0 Z = true) (ws : List Jvm.Cond) (t : Addr) (i z b : Int32) (cl : Cell) (fm : Value) (h0 : Heap) (n0 : Nat) (Z0 : n0 ≤ h0.size) (Ar : Arr Z h0 t cl .byte) (Sz : cl.slots.size = z.toNatClampNeg) (Nz : ¬ z < 0) (h1 : ¬ i < 0) (h2 : i < z) (hat : cl.slots[i.toNatClampNeg]? = some (.int b)) (Sf : Sta Z h0 "jdk/internal/util/Preconditions" "SIOOBE_FORMATTER" "Ljava/util/function/BiFunction;" fm) (rf : fm.isRef = true) :
    MetFree l (⟨"java/lang/StringLatin1", "charAt", "([BI)C"⟩ : MethodName) (head1 (Jvm.Cond.code (⟨"java/lang/StringLatin1", "charAt", "([BI)C"⟩ : MethodName) jdk_43_method_2_code (2 : Nat) (Option.some Jvm.ClassFile.FieldType.char) :: ws) ({ frames := 2, cells := 0, slots := 0, locals := 27 } : Room)) (fun aZ UZ => aZ = #[(.ref t), (.int i)] ∧ Z.Warmed39 UZ.vm ∧ UZ.heap = h0) (fun _ _ _ _ _ => True) (fun _ UZ oZ VZ => ∃ vZ LZ, oZ = .returned vZ ∧ (QSame (some (.int (b &&& 255))) h0 n0) vZ VZ.heap LZ ∧ FrameEnd UZ oZ VZ LZ ({ frames := 2, cells := 0, slots := 0, locals := 27 } : Room).cells ({ frames := 2, cells := 0, slots := 0, locals := 27 } : Room).slots) := by
  refine MetFree.of_bodySF (plainFor_of_name pn_2) hisR ?_
  intro p e s m args below meth c s₁ Bd hml0 hP hK
  obtain ⟨rfl, hZ, hh⟩ := hP
  have hx := Bd.exec
  have hby := Bd.bytes
  have hml : c.maxLocals = 2 := hml0
  have hown : s.vm.findClass "java/lang/StringLatin1" = some m.cls := findClass_of_methodNamed Bd.named
  have hnm := (name_of_methodNamed Bd.named Bd.method).1
  have X0 : Stand p l e ({ frames := 2, cells := 0, slots := 0, locals := 27 } : Room) s m #[(.ref t), (.int i)] below meth c s₁ [] 0 0 := Stand.of_body Bd
  have e0 : s₁.heap = h0 := by rw [← hh, Bd.state]; rfl
  have N0 := Fr.nil n0
  show OwnG p e below (OwnE s (QSame (some (.int (b &&& 255))) h0 n0) ({ frames := 2, cells := 0, slots := 0, locals := 27 } : Room).cells ({ frames := 2, cells := 0, slots := 0, locals := 27 } : Room).slots) _
  refine own_by (S' := s₁.setTop (mkF m 0 #[.val (.ref t), .val (.int i)] [])) (fun tZ kZ => castTop (ef_rmLCh m t i) kZ) ?_
  refine own_by (S' := s₁.setTop (mkF m 1 #[.val (.ref t), .val (.int i)] [(.int i)])) (fun tZ kZ => XS.iloadN X0.here hx rfl (hb hby d22_0) rfl kZ) ?_
  refine own_by (S' := s₁.setTop (mkF m 2 #[.val (.ref t), .val (.int i)] [(.ref t), (.int i)])) (fun tZ kZ => XS.aloadN X0.here hx rfl (hb hby d22_1) rfl rfl kZ) ?_
  refine own_by (S' := s₁.setTop (mkF m 3 #[.val (.ref t), .val (.int i)] [(.int z), (.int i)])) (fun tZ kZ => X0.arraylength hx (by rw [e0]; exact Ar.1) (State.isArrayOf_alike hZ.alike Ar.2.1) (g := (mkF m 2 #[.val (.ref t), .val (.int i)] [(.ref t), (.int i)])) rfl rfl (hb hby d22_2) _ (by rw [len_of Sz Nz]; exact kZ)) ?_
  obtain ⟨_, _, ⟨T1, L1, k1, n1⟩, -, X1, ⟨Lc1, hQ1, l1, y1, z1⟩, st1⟩ := Jvm.LawKit.callS X0 hx (y := (⟨"java/lang/String", "checkIndex", "(II)V"⟩ : MethodName)) hown (mvT hZ (hw _ (List.mem_of_getElem? (i := 131) rfl))) (mvT hZ (hw _ (List.mem_of_getElem? (i := 132) rfl))) (mvT hZ (hw _ (List.mem_of_getElem? (i := 22) rfl))) (mvT hZ (hw _ (List.mem_of_getElem? (i := 133) rfl))) (by decide) (backOf (W := 0) (rmCI l Z a0 hw [] i z fm h0 n0 Z0 h1 h2 Sf rf) hZ (hw _ (List.mem_of_getElem? (i := 133) rfl)) (hw _ (List.mem_of_getElem? (i := 22) rfl)) (by decide) (by decide)) (g := (mkF m 3 #[.val (.ref t), .val (.int i)] [(.int z), (.int i)])) rfl (by rw [hml]; rfl) (argsL := [(.int i), (.int z)]) (rest := []) (lenOf pd_13 rfl) rfl (by show 2 * 0 + _ ≤ _; exact Nat.le_of_eq rfl) (hb hby d22_3) (fun _ _ => ⟨rfl, e0, (by decide : 0 + 0 ≤ _), (by decide : 0 + 0 ≤ _)⟩)
  dsimp only [Pt.U, Pt.locs, Pt.cells, Pt.slots] at X1 l1 y1 z1 st1 hQ1
  subst l1 y1 z1
  obtain ⟨rfl, N1q, heq1⟩ := hQ1
  have N1 := Fr.app N0 N1q
  refine own_by (S' := T1.setTop (mkF m 6 #[.val (.ref t), .val (.int i)] [])) (fun tZ kZ => st1 _ kZ) ?_
  refine own_by (S' := T1.setTop (mkF m 7 #[.val (.ref t), .val (.int i)] [(.ref t)])) (fun tZ kZ => XS.aloadN X1.here hx rfl (hb hby d22_6) rfl rfl kZ) ?_
  refine own_by (S' := T1.setTop (mkF m 8 #[.val (.ref t), .val (.int i)] [(.int i), (.ref t)])) (fun tZ kZ => XS.iloadN X1.here hx rfl (hb hby d22_7) rfl kZ) ?_
  refine own_by (S' := T1.setTop (mkF m 9 #[.val (.ref t), .val (.int i)] [(.int b)])) (fun tZ kZ => X1.baloadBytes hx (j := i) (v := (.int b)) (by rw [heq1]; exact Ar.1) (State.isArrayOf_alike hZ.alike Ar.2.1) Ar.2.2 (own_in Sz h1 h2) hat (g := (mkF m 8 #[.val (.ref t), .val (.int i)] [(.int i), (.ref t)])) rfl rfl (hb hby d22_8) _ kZ) ?_
  refine own_by (S' := T1.setTop (mkF m 12 #[.val (.ref t), .val (.int i)] [(.int (255 : Int32)), (.int b)])) (fun tZ kZ => XS.sipush X1.here hx rfl (hb hby d22_9) kZ) ?_
  refine own_by (S' := T1.setTop (mkF m 13 #[.val (.ref t), .val (.int i)] [(.int (b &&& (255 : Int32)))])) (fun tZ kZ => XS.iand X1.here hx rfl (hb hby d22_12) rfl kZ) ?_
  refine own_by (S' := T1.setTop (mkF m 14 #[.val (.ref t), .val (.int i)] [(.int ((b &&& (255 : Int32)).toUInt32.toUInt16.toUInt32.toInt32))])) (fun tZ kZ => XS.i2c X1.here hx rfl (hb hby d22_13) rfl kZ) ?_
  rw [i2c_mask]
  exact own_retI X1 hx (t := .char) Bd.returns (by simp) (own_narC b) (hb hby d22_14) Bd.notSynchronized (by decide) (by decide) ⟨rfl, N1, heq1⟩
theorem d20_0 : decode jdk_42_method_56_code 0 = .ok (.aload_n 0, 1) := by decide +kernel
theorem d20_1 : decode jdk_42_method_56_code 1 = .ok (.invokevirtual 492, 3) := by decide +kernel
theorem d20_4 : decode jdk_42_method_56_code 4 = .ok (.ifCond .eq 12, 3) := by decide +kernel
theorem d20_7 : decode jdk_42_method_56_code 7 = .ok (.aload_n 0, 1) := by decide +kernel
theorem d20_8 : decode jdk_42_method_56_code 8 = .ok (.getfield 9, 3) := by decide +kernel
theorem d20_11 : decode jdk_42_method_56_code 11 = .ok (.iload_n 1, 1) := by decide +kernel
theorem d20_12 : decode jdk_42_method_56_code 12 = .ok (.invokestatic 495, 3) := by decide +kernel
theorem d20_15 : decode jdk_42_method_56_code 15 = .ok (.ireturn, 1) := by decide +kernel
theorem d20_16 : decode jdk_42_method_56_code 16 = .ok (.aload_n 0, 1) := by decide +kernel
theorem d20_17 : decode jdk_42_method_56_code 17 = .ok (.getfield 9, 3) := by decide +kernel
theorem d20_20 : decode jdk_42_method_56_code 20 = .ok (.iload_n 1, 1) := by decide +kernel
theorem d20_21 : decode jdk_42_method_56_code 21 = .ok (.invokestatic 498, 3) := by decide +kernel
theorem d20_24 : decode jdk_42_method_56_code 24 = .ok (.ireturn, 1) := by decide +kernel
theorem ef_rmCh (m : MethodId) (a : Addr) (i : Int32) : entryFrame m #[(.ref a), (.int i)] 2 = mkF m 0 #[.val (.ref a), .val (.int i)] [] := by first | (simp [entryFrame, mkF, argsToLocals, Value.category, maxLocals]; done) | rfl
set_option maxRecDepth 65536 in
set_option maxHeartbeats 40000000 in
theorem rmCh (l : Launch) (Z : State) (a0 : Array Value) (hw : ∀ d ∈ tables_1, d.before a0 Z = true) (ws : List Jvm.Cond) (a t : Addr) (z cz : Int32) (cl : Cell) (i b : Int32) (fm : Value) (h0 : Heap) (n0 : Nat) (Z0 : n0 ≤ h0.size) (Ex : Exa Z h0 a "java/lang/String") (Vv : Fld Z h0 a "java/lang/String" "value" "[B" (.ref t)) (Cc : Fld Z h0 a "java/lang/String" "coder" "B" (.int 0)) (Ar : Arr Z h0 t cl .byte) (Sz : cl.slots.size = z.toNatClampNeg) (Nz : ¬ z < 0) (Sc : Sta Z h0 "java/lang/String" "COMPACT_STRINGS" "Z" (.int cz)) (hcz : ¬ cz = 0) (h1 : ¬ i < 0) (h2 : i < z) (hat : cl.slots[i.toNatClampNeg]? = some (.int b)) (Sf : Sta Z h0 "jdk/internal/util/Preconditions" "SIOOBE_FORMATTER" "Ljava/util/function/BiFunction;" fm) (rf : fm.isRef = true) :
    MetFree l (⟨"java/lang/String", "charAt", "(I)C"⟩ : MethodName) (head1 (Jvm.Cond.code (⟨"java/lang/String", "charAt", "(I)C"⟩ : MethodName) jdk_42_method_56_code (2 : Nat) (Option.some Jvm.ClassFile.FieldType.char) :: ws) ({ frames := 3, cells := 0, slots := 0, locals := 40 } : Room)) (fun aZ UZ => aZ = #[(.ref a), (.int i)] ∧ Z.Warmed39 UZ.vm ∧ UZ.heap = h0) (fun _ _ _ _ _ => True) (fun _ UZ oZ VZ => ∃ vZ LZ, oZ = .returned vZ ∧ (QSame (some (.int (b &&& 255))) h0 n0) vZ VZ.heap LZ ∧ FrameEnd UZ oZ VZ LZ ({ frames := 3, cells := 0, slots := 0, locals := 40 } : Room).cells ({ frames := 3, cells := 0, slots := 0, locals := 40 } : Room).slots) := by
  refine MetFree.of_bodySF (plainFor_of_name pn_4) hisR ?_
  intro p e s m args below meth c s₁ Bd hml0 hP hK
  obtain ⟨rfl, hZ, hh⟩ := hP
  have hx := Bd.exec
  have hby := Bd.bytes
  have hml : c.maxLocals = 2 := hml0
  have hown : s.vm.findClass "java/lang/String" = some m.cls := findClass_of_methodNamed Bd.named
  have hnm := (name_of_methodNamed Bd.named Bd.method).1
  have X0 : Stand p l e ({ frames := 3, cells := 0, slots := 0, locals := 40 } : Room) s m #[(.ref a), (.int i)] below meth c s₁ [] 0 0 := Stand.of_body Bd
  have e0 : s₁.heap = h0 := by rw [← hh, Bd.state]; rfl
  have N0 := Fr.nil n0
  show OwnG p e below (OwnE s (QSame (some (.int (b &&& 255))) h0 n0) ({ frames := 3, cells := 0, slots := 0, locals := 40 } : Room).cells ({ frames := 3, cells := 0, slots := 0, locals := 40 } : Room).slots) _
  refine own_by (S' := s₁.setTop (mkF m 0 #[.val (.ref a), .val (.int i)] [])) (fun tZ kZ => castTop (ef_rmCh m a i) kZ) ?_
  refine own_by (S' := s₁.setTop (mkF m 1 #[.val (.ref a), .val (.int i)] [(.ref a)])) (fun tZ kZ => XS.aloadN X0.here hx rfl (hb hby d20_0) rfl rfl kZ) ?_
  obtain ⟨cq1, kq1, q1a, q1b, q1c⟩ := isOf hZ e0 Ex
  obtain ⟨_, _, ⟨T1, L1, k1, n1⟩, -, X1, ⟨Lc1, hQ1, l1, y1, z1⟩, st1⟩ := X0.virtualBack hx (y := (⟨"java/lang/String", "isLatin1", "()Z"⟩ : MethodName)) (z := (⟨"java/lang/String", "isLatin1", "()Z"⟩ : MethodName)) hown (mvT hZ (hw _ (List.mem_of_getElem? (i := 123) rfl))) (mvT hZ (hw _ (List.mem_of_getElem? (i := 124) rfl))) (notFace_of_selects (args := #[]) (mvT hZ (hw _ (List.mem_of_getElem? (i := 126) rfl)))) (mvT hZ (hw _ (List.mem_of_getElem? (i := 126) rfl))) (mvT hZ (hw _ (List.mem_of_getElem? (i := 125) rfl))) (by decide) (backOf (W := 0) (rmIsL l Z a0 hw [] a cz h0 n0 Z0 Cc Sc hcz) hZ (hw _ (List.mem_of_getElem? (i := 127) rfl)) (hw _ (List.mem_of_getElem? (i := 22) rfl)) (by decide) (by decide)) q1a q1c (g := (mkF m 1 #[.val (.ref a), .val (.int i)] [(.ref a)])) rfl (by rw [hml]; rfl) (Steps.refl _) (argsL := []) (rest := []) (lenOf pd_1 rfl) rfl (by show 2 * 0 + _ ≤ _; exact Nat.le_of_eq rfl) (hb hby d20_1) (fun _ _ => ⟨rfl, e0, (by decide : 0 + 0 ≤ _), (by decide : 0 + 0 ≤ _)⟩)
  dsimp only [Pt.U, Pt.locs, Pt.cells, Pt.slots] at X1 l1 y1 z1 st1 hQ1
  subst l1 y1 z1
  obtain ⟨rfl, N1q, heq1⟩ := hQ1
  have N1 := Fr.app N0 N1q
  refine own_by (S' := T1.setTop (mkF m 4 #[.val (.ref a), .val (.int i)] [(.int (1 : Int32))])) (fun tZ kZ => st1.trans kZ) ?_
  refine own_by (S' := T1.setTop (mkF m 7 #[.val (.ref a), .val (.int i)] [])) (fun tZ kZ => XS.ifNo X1.here hx rfl (hb hby d20_4) rfl ((if0 _ _).trans (feq (by decide)).1) kZ) ?_
  refine own_by (S' := T1.setTop (mkF m 8 #[.val (.ref a), .val (.int i)] [(.ref a)])) (fun tZ kZ => XS.aloadN X1.here hx rfl (hb hby d20_7) rfl rfl kZ) ?_
  obtain ⟨T2, X2, e2, st2⟩ := getF X1 hx hZ hown (host := "") (Or.inl (hw _ (List.mem_of_getElem? (i := 99) rfl))) Via.refl heq1 Vv (g := (mkF m 8 #[.val (.ref a), .val (.int i)] [(.ref a)])) rfl rfl (hb hby d20_8)
  refine own_by (S' := T2.setTop (mkF m 11 #[.val (.ref a), .val (.int i)] [(.ref t)])) st2 ?_
  refine own_by (S' := T2.setTop (mkF m 12 #[.val (.ref a), .val (.int i)] [(.int i), (.ref t)])) (fun tZ kZ => XS.iloadN X2.here hx rfl (hb hby d20_11) rfl kZ) ?_
  obtain ⟨_, _, ⟨T3, L3, k3, n3⟩, -, X3, ⟨Lc3, hQ3, l3, y3, z3⟩, st3⟩ := Jvm.LawKit.callS X2 hx (y := (⟨"java/lang/StringLatin1", "charAt", "([BI)C"⟩ : MethodName)) hown (mvT hZ (hw _ (List.mem_of_getElem? (i := 128) rfl))) (mvT hZ (hw _ (List.mem_of_getElem? (i := 129) rfl))) (mvT hZ (hw _ (List.mem_of_getElem? (i := 53) rfl))) (mvT hZ (hw _ (List.mem_of_getElem? (i := 130) rfl))) (by decide) (backOf (W := 0) (rmLCh l Z a0 hw [] t i z b cl fm h0 n0 Z0 Ar Sz Nz h1 h2 hat Sf rf) hZ (hw _ (List.mem_of_getElem? (i := 130) rfl)) (hw _ (List.mem_of_getElem? (i := 53) rfl)) (by decide) (by decide)) (g := (mkF m 12 #[.val (.ref a), .val (.int i)] [(.int i), (.ref t)])) rfl (by rw [hml]; rfl) (argsL := [(.ref t), (.int i)]) (rest := []) (lenOf pd_14 rfl) rfl (by show 2 * 0 + _ ≤ _; exact Nat.le_of_eq rfl) (hb hby d20_12) (fun _ _ => ⟨rfl, e2, (by decide : 0 + 0 ≤ _), (by decide : 0 + 0 ≤ _)⟩)
  dsimp only [Pt.U, Pt.locs, Pt.cells, Pt.slots] at X3 l3 y3 z3 st3 hQ3
  subst l3 y3 z3
  obtain ⟨rfl, N3q, heq3⟩ := hQ3
  have N3 := Fr.app N1 N3q
  refine own_by (S' := T3.setTop (mkF m 15 #[.val (.ref a), .val (.int i)] [(.int (b &&& 255))])) (fun tZ kZ => st3 _ kZ) ?_
  exact own_retI X3 hx (t := .char) Bd.returns (by simp) (own_narC b) (hb hby d20_15) Bd.notSynchronized (by decide) (by decide) ⟨rfl, N3, heq3⟩
theorem d25_0 : decode method_4_code 0 = .ok (.iload_n 0, 1) := by decide +kernel
theorem d25_1 : decode method_4_code 1 = .ok (.bipush 26, 2) := by decide +kernel
theorem d25_3 : decode method_4_code 3 = .ok (.if_icmp .ge 11, 3) := by decide +kernel
theorem d25_6 : decode method_4_code 6 = .ok (.bipush 65, 2) := by decide +kernel
theorem d25_8 : decode method_4_code 8 = .ok (.iload_n 0, 1) := by decide +kernel
theorem d25_9 : decode method_4_code 9 = .ok (.iadd, 1) := by decide +kernel
theorem d25_10 : decode method_4_code 10 = .ok (.i2c, 1) := by decide +kernel
theorem d25_11 : decode method_4_code 11 = .ok (.goto 11, 3) := by decide +kernel
theorem d25_14 : decode method_4_code 14 = .ok (.bipush 50, 2) := by decide +kernel
theorem d25_16 : decode method_4_code 16 = .ok (.iload_n 0, 1) := by decide +kernel
theorem d25_17 : decode method_4_code 17 = .ok (.iadd, 1) := by decide +kernel
theorem d25_18 : decode method_4_code 18 = .ok (.bipush 26, 2) := by decide +kernel
theorem d25_20 : decode method_4_code 20 = .ok (.isub, 1) := by decide +kernel
theorem d25_21 : decode method_4_code 21 = .ok (.i2c, 1) := by decide +kernel
theorem d25_22 : decode method_4_code 22 = .ok (.ireturn, 1) := by decide +kernel
theorem pn_7 : plainName "com/example/idpd/idpd/Base32EncodePinLaw" = true := by first | (simp [plainName, overriddenIn]; done) | decide +kernel
theorem ef_rmSym (m : MethodId) (q : Int32) : entryFrame m #[(.int q)] 1 = mkF m 0 #[.val (.int q)] [] := by first | (simp [entryFrame, mkF, argsToLocals, Value.category, maxLocals]; done) | rfl
set_option maxRecDepth 65536 in
set_option maxHeartbeats 40000000 in
theorem rmSym (l : Launch) (Z : State) (a0 : Array Value) (hw : ∀ d ∈ tables_1, d.before a0 Z = true) (ws : List Jvm.Cond) (q : Int32) (k : Nat) (h0 : Heap) (n0 : Nat) (Z0 : n0 ≤ h0.size) (hk : k < 32) (hq : q.toInt = k) :
    MetFree l (⟨"com/example/idpd/idpd/Base32EncodePinLaw", "sym", "(I)C"⟩ : MethodName) (head1 (Jvm.Cond.code (⟨"com/example/idpd/idpd/Base32EncodePinLaw", "sym", "(I)C"⟩ : MethodName) method_4_code (1 : Nat) (Option.some Jvm.ClassFile.FieldType.char) :: ws) ({ frames := 0, cells := 0, slots := 0, locals := 0 } : Room)) (fun aZ UZ => aZ = #[(.int q)] ∧ Z.Warmed39 UZ.vm ∧ UZ.heap = h0) (fun _ _ _ _ _ => True) (fun _ UZ oZ VZ => ∃ vZ LZ, oZ = .returned vZ ∧ (QSame (some (.int (alphaI k))) h0 n0) vZ VZ.heap LZ ∧ FrameEnd UZ oZ VZ LZ ({ frames := 0, cells := 0, slots := 0, locals := 0 } : Room).cells ({ frames := 0, cells := 0, slots := 0, locals := 0 } : Room).slots) := by
  refine MetFree.of_bodySF (plainFor_of_name pn_7) hisR ?_
  intro p e s m args below meth c s₁ Bd hml0 hP hK
  obtain ⟨rfl, hZ, hh⟩ := hP
  have hx := Bd.exec
  have hby := Bd.bytes
  have hml : c.maxLocals = 1 := hml0
  have hown : s.vm.findClass "com/example/idpd/idpd/Base32EncodePinLaw" = some m.cls := findClass_of_methodNamed Bd.named
  have hnm := (name_of_methodNamed Bd.named Bd.method).1
  have X0 : Stand p l e ({ frames := 0, cells := 0, slots := 0, locals := 0 } : Room) s m #[(.int q)] below meth c s₁ [] 0 0 := Stand.of_body Bd
  have e0 : s₁.heap = h0 := by rw [← hh, Bd.state]; rfl
  have N0 := Fr.nil n0
  show OwnG p e below (OwnE s (QSame (some (.int (alphaI k))) h0 n0) ({ frames := 0, cells := 0, slots := 0, locals := 0 } : Room).cells ({ frames := 0, cells := 0, slots := 0, locals := 0 } : Room).slots) _
  refine own_by (S' := s₁.setTop (mkF m 0 #[.val (.int q)] [])) (fun tZ kZ => castTop (ef_rmSym m q) kZ) ?_
  refine own_by (S' := s₁.setTop (mkF m 1 #[.val (.int q)] [(.int q)])) (fun tZ kZ => XS.iloadN X0.here hx rfl (hb hby d25_0) rfl kZ) ?_
  refine own_by (S' := s₁.setTop (mkF m 3 #[.val (.int q)] [(.int (26 : Int32)), (.int q)])) (fun tZ kZ => XS.bipush X0.here hx rfl (hb hby d25_1) kZ) ?_
  by_cases hc : q < (26 : Int32)
  · refine own_by (S' := s₁.setTop (mkF m 6 #[.val (.int q)] [])) (fun tZ kZ => XS.icmpNo X0.here hx rfl (hb hby d25_3) rfl (tlt hc).2.1 kZ) ?_
    refine own_by (S' := s₁.setTop (mkF m 8 #[.val (.int q)] [(.int (65 : Int32))])) (fun tZ kZ => XS.bipush X0.here hx rfl (hb hby d25_6) kZ) ?_
    refine own_by (S' := s₁.setTop (mkF m 9 #[.val (.int q)] [(.int q), (.int (65 : Int32))])) (fun tZ kZ => XS.iloadN X0.here hx rfl (hb hby d25_8) rfl kZ) ?_
    refine own_by (S' := s₁.setTop (mkF m 10 #[.val (.int q)] [(.int ((65 : Int32) + q))])) (fun tZ kZ => XS.iadd X0.here hx rfl (hb hby d25_9) rfl kZ) ?_
    refine own_by (S' := s₁.setTop (mkF m 11 #[.val (.int q)] [(.int (((65 : Int32) + q).toUInt32.toUInt16.toUInt32.toInt32))])) (fun tZ kZ => XS.i2c X0.here hx rfl (hb hby d25_10) rfl kZ) ?_
    refine own_by (S' := s₁.setTop (mkF m 22 #[.val (.int q)] [(.int (((65 : Int32) + q).toUInt32.toUInt16.toUInt32.toInt32))])) (fun tZ kZ => XS.goto X0.here hx rfl (pc0 := 11) (pc' := 22) rfl (hb hby d25_11) (by decide) (by decide) kZ) ?_
    rw [own_sym1 hq (by rw [own_ltI] at hc; have e : (26 : Int32).toInt = 26 := rfl; omega)]
    exact own_retI X0 hx (t := .char) Bd.returns (by simp) (own_narA hk) (hb hby d25_22) Bd.notSynchronized (by decide) (by decide) ⟨rfl, N0, e0⟩
  · refine own_by (S' := s₁.setTop (mkF m 14 #[.val (.int q)] [])) (fun tZ kZ => XS.icmpYes X0.here hx rfl (pc0 := 3) (pc' := 14) rfl (hb hby d25_3) rfl (flt hc).2.1 (by decide) (by decide) kZ) ?_
    refine own_by (S' := s₁.setTop (mkF m 16 #[.val (.int q)] [(.int (50 : Int32))])) (fun tZ kZ => XS.bipush X0.here hx rfl (hb hby d25_14) kZ) ?_
    refine own_by (S' := s₁.setTop (mkF m 17 #[.val (.int q)] [(.int q), (.int (50 : Int32))])) (fun tZ kZ => XS.iloadN X0.here hx rfl (hb hby d25_16) rfl kZ) ?_
    refine own_by (S' := s₁.setTop (mkF m 18 #[.val (.int q)] [(.int ((50 : Int32) + q))])) (fun tZ kZ => XS.iadd X0.here hx rfl (hb hby d25_17) rfl kZ) ?_
    refine own_by (S' := s₁.setTop (mkF m 20 #[.val (.int q)] [(.int (26 : Int32)), (.int ((50 : Int32) + q))])) (fun tZ kZ => XS.bipush X0.here hx rfl (hb hby d25_18) kZ) ?_
    refine own_by (S' := s₁.setTop (mkF m 21 #[.val (.int q)] [(.int (((50 : Int32) + q) - (26 : Int32)))])) (fun tZ kZ => XS.isub X0.here hx rfl (hb hby d25_20) rfl kZ) ?_
    refine own_by (S' := s₁.setTop (mkF m 22 #[.val (.int q)] [(.int ((((50 : Int32) + q) - (26 : Int32)).toUInt32.toUInt16.toUInt32.toInt32))])) (fun tZ kZ => XS.i2c X0.here hx rfl (hb hby d25_21) rfl kZ) ?_
    rw [own_sym2 hq (by rw [own_ltI] at hc; have e : (26 : Int32).toInt = 26 := rfl; omega) hk]
    exact own_retI X0 hx (t := .char) Bd.returns (by simp) (own_narA hk) (hb hby d25_22) Bd.notSynchronized (by decide) (by decide) ⟨rfl, N0, e0⟩
theorem d19_0 : decode method_3_code 0 = .ok (.iload_n 2, 1) := by decide +kernel
theorem d19_1 : decode method_3_code 1 = .ok (.iload_n 1, 1) := by decide +kernel
theorem d19_2 : decode method_3_code 2 = .ok (.if_icmp .ge 15, 3) := by decide +kernel
theorem d19_5 : decode method_3_code 5 = .ok (.aload_n 0, 1) := by decide +kernel
theorem d19_6 : decode method_3_code 6 = .ok (.iload_n 2, 1) := by decide +kernel
theorem d19_7 : decode method_3_code 7 = .ok (.invokevirtual 32, 3) := by decide +kernel
theorem d19_10 : decode method_3_code 10 = .ok (.iload_n 3, 1) := by decide +kernel
theorem d19_11 : decode method_3_code 11 = .ok (.invokestatic 36, 3) := by decide +kernel
theorem d19_14 : decode method_3_code 14 = .ok (.if_icmp .ne 7, 3) := by decide +kernel
theorem d19_17 : decode method_3_code 17 = .ok (.iconst 1, 1) := by decide +kernel
theorem d19_18 : decode method_3_code 18 = .ok (.goto 4, 3) := by decide +kernel
theorem d19_21 : decode method_3_code 21 = .ok (.iconst 0, 1) := by decide +kernel
theorem d19_22 : decode method_3_code 22 = .ok (.ireturn, 1) := by decide +kernel
theorem ef_rmAt (m : MethodId) (a : Addr) (z : Int32) (i : Int32) (q : Int32) : entryFrame m #[(.ref a), (.int z), (.int i), (.int q)] 4 = mkF m 0 #[.val (.ref a), .val (.int z), .val (.int i), .val (.int q)] [] := by first | (simp [entryFrame, mkF, argsToLocals, Value.category, maxLocals]; done) | rfl
set_option maxRecDepth 65536 in
set_option maxHeartbeats 40000000 in
theorem rmAt (l : Launch) (Z : State) (a0 : Array Value) (hw : ∀ d ∈ tables_1, d.before a0 Z = true) (ws : List Jvm.Cond) (a t : Addr) (z cz : Int32) (cl : Cell) (i q : Int32) (fm : Value) (h0 : Heap) (n0 : Nat) (Z0 : n0 ≤ h0.size) (Ex : Exa Z h0 a "java/lang/String") (Vv : Fld Z h0 a "java/lang/String" "value" "[B" (.ref t)) (Cc : Fld Z h0 a "java/lang/String" "coder" "B" (.int 0)) (Ar : Arr Z h0 t cl .byte) (Sz : cl.slots.size = z.toNatClampNeg) (Nz : ¬ z < 0) (Sc : Sta Z h0 "java/lang/String" "COMPACT_STRINGS" "Z" (.int cz)) (hcz : ¬ cz = 0) (Sf : Sta Z h0 "jdk/internal/util/Preconditions" "SIOOBE_FORMATTER" "Ljava/util/function/BiFunction;" fm) (rf : fm.isRef = true) (h1 : ¬ i < 0) (hyp : i < z → ∃ k : Nat, k < 32 ∧ q.toInt = k ∧ cl.slots[i.toNatClampNeg]? = some (.int (alphaI k))) :
    MetFree l (⟨"com/example/idpd/idpd/Base32EncodePinLaw", "at", "(Ljava/lang/String;III)Z"⟩ : MethodName) (head1 (Jvm.Cond.code (⟨"com/example/idpd/idpd/Base32EncodePinLaw", "at", "(Ljava/lang/String;III)Z"⟩ : MethodName) method_3_code (4 : Nat) (Option.some Jvm.ClassFile.FieldType.boolean) :: ws) ({ frames := 4, cells := 0, slots := 0, locals := 53 } : Room)) (fun aZ UZ => aZ = #[(.ref a), (.int z), (.int i), (.int q)] ∧ Z.Warmed39 UZ.vm ∧ UZ.heap = h0) (fun _ _ _ _ _ => True) (fun _ UZ oZ VZ => ∃ vZ LZ, oZ = .returned vZ ∧ (QSame (some (.int 1)) h0 n0) vZ VZ.heap LZ ∧ FrameEnd UZ oZ VZ LZ ({ frames := 4, cells := 0, slots := 0, locals := 53 } : Room).cells ({ frames := 4, cells := 0, slots := 0, locals := 53 } : Room).slots) := by
  refine MetFree.of_bodySF (plainFor_of_name pn_7) hisR ?_
  intro p e s m args below meth c s₁ Bd hml0 hP hK
  obtain ⟨rfl, hZ, hh⟩ := hP
  have hx := Bd.exec
  have hby := Bd.bytes
  have hml : c.maxLocals = 4 := hml0
  have hown : s.vm.findClass "com/example/idpd/idpd/Base32EncodePinLaw" = some m.cls := findClass_of_methodNamed Bd.named
  have hnm := (name_of_methodNamed Bd.named Bd.method).1
  have X0 : Stand p l e ({ frames := 4, cells := 0, slots := 0, locals := 53 } : Room) s m #[(.ref a), (.int z), (.int i), (.int q)] below meth c s₁ [] 0 0 := Stand.of_body Bd
  have e0 : s₁.heap = h0 := by rw [← hh, Bd.state]; rfl
  have N0 := Fr.nil n0
  show OwnG p e below (OwnE s (QSame (some (.int 1)) h0 n0) ({ frames := 4, cells := 0, slots := 0, locals := 53 } : Room).cells ({ frames := 4, cells := 0, slots := 0, locals := 53 } : Room).slots) _
  refine own_by (S' := s₁.setTop (mkF m 0 #[.val (.ref a), .val (.int z), .val (.int i), .val (.int q)] [])) (fun tZ kZ => castTop (ef_rmAt m a z i q) kZ) ?_
  refine own_by (S' := s₁.setTop (mkF m 1 #[.val (.ref a), .val (.int z), .val (.int i), .val (.int q)] [(.int i)])) (fun tZ kZ => XS.iloadN X0.here hx rfl (hb hby d19_0) rfl kZ) ?_
  refine own_by (S' := s₁.setTop (mkF m 2 #[.val (.ref a), .val (.int z), .val (.int i), .val (.int q)] [(.int z), (.int i)])) (fun tZ kZ => XS.iloadN X0.here hx rfl (hb hby d19_1) rfl kZ) ?_
  by_cases hc : i < z
  · refine own_by (S' := s₁.setTop (mkF m 5 #[.val (.ref a), .val (.int z), .val (.int i), .val (.int q)] [])) (fun tZ kZ => XS.icmpNo X0.here hx rfl (hb hby d19_2) rfl (tlt hc).2.1 kZ) ?_
    obtain ⟨k, hk, hq, hat⟩ := hyp hc
    have af := alpha_fin ⟨k, hk⟩
    refine own_by (S' := s₁.setTop (mkF m 6 #[.val (.ref a), .val (.int z), .val (.int i), .val (.int q)] [(.ref a)])) (fun tZ kZ => XS.aloadN X0.here hx rfl (hb hby d19_5) rfl rfl kZ) ?_
    refine own_by (S' := s₁.setTop (mkF m 7 #[.val (.ref a), .val (.int z), .val (.int i), .val (.int q)] [(.int i), (.ref a)])) (fun tZ kZ => XS.iloadN X0.here hx rfl (hb hby d19_6) rfl kZ) ?_
    obtain ⟨cq1, kq1, q1a, q1b, q1c⟩ := isOf hZ e0 Ex
    obtain ⟨_, _, ⟨T1, L1, k1, n1⟩, -, X1, ⟨Lc1, hQ1, l1, y1, z1⟩, st1⟩ := X0.virtualBack hx (y := (⟨"java/lang/String", "charAt", "(I)C"⟩ : MethodName)) (z := (⟨"java/lang/String", "charAt", "(I)C"⟩ : MethodName)) hown (mvT hZ (hw _ (List.mem_of_getElem? (i := 118) rfl))) (mvT hZ (hw _ (List.mem_of_getElem? (i := 119) rfl))) (notFace_of_selects (args := #[]) (mvT hZ (hw _ (List.mem_of_getElem? (i := 121) rfl)))) (mvT hZ (hw _ (List.mem_of_getElem? (i := 121) rfl))) (mvT hZ (hw _ (List.mem_of_getElem? (i := 120) rfl))) (by decide) (backOf (W := 0) (rmCh l Z a0 hw [] a t z cz cl i (alphaI k) fm h0 n0 Z0 Ex Vv Cc Ar Sz Nz Sc hcz h1 hc hat Sf rf) hZ (hw _ (List.mem_of_getElem? (i := 122) rfl)) (hw _ (List.mem_of_getElem? (i := 22) rfl)) (by decide) (by decide)) q1a q1c (g := (mkF m 7 #[.val (.ref a), .val (.int z), .val (.int i), .val (.int q)] [(.int i), (.ref a)])) rfl (by rw [hml]; rfl) (Steps.refl _) (argsL := [(.int i)]) (rest := []) (lenOf pd_15 rfl) rfl (by show 2 * 0 + _ ≤ _; exact Nat.le_of_eq rfl) (hb hby d19_7) (fun _ _ => ⟨rfl, e0, (by decide : 0 + 0 ≤ _), (by decide : 0 + 0 ≤ _)⟩)
    dsimp only [Pt.U, Pt.locs, Pt.cells, Pt.slots] at X1 l1 y1 z1 st1 hQ1
    subst l1 y1 z1
    obtain ⟨rfl, N1q, heq1⟩ := hQ1
    have N1 := Fr.app N0 N1q
    refine own_by (S' := T1.setTop (mkF m 10 #[.val (.ref a), .val (.int z), .val (.int i), .val (.int q)] [(.int ((alphaI k) &&& 255))])) (fun tZ kZ => st1.trans kZ) ?_
    rw [af.2.2.1]
    refine own_by (S' := T1.setTop (mkF m 11 #[.val (.ref a), .val (.int z), .val (.int i), .val (.int q)] [(.int q), (.int (alphaI k))])) (fun tZ kZ => XS.iloadN X1.here hx rfl (hb hby d19_10) rfl kZ) ?_
    obtain ⟨_, _, ⟨T2, L2, k2, n2⟩, -, X2, ⟨Lc2, hQ2, l2, y2, z2⟩, st2⟩ := Jvm.LawKit.callS X1 hx (y := (⟨"com/example/idpd/idpd/Base32EncodePinLaw", "sym", "(I)C"⟩ : MethodName)) hown (mvT hZ (hw _ (List.mem_of_getElem? (i := 139) rfl))) (mvT hZ (hw _ (List.mem_of_getElem? (i := 140) rfl))) (mvT hZ (hw _ (List.mem_of_getElem? (i := 116) rfl))) (mvT hZ (hw _ (List.mem_of_getElem? (i := 141) rfl))) (by decide) (backOf (W := 1) (rmSym l Z a0 hw [] q k h0 n0 Z0 hk hq) hZ (hw _ (List.mem_of_getElem? (i := 141) rfl)) (hw _ (List.mem_of_getElem? (i := 116) rfl)) (by decide) (by decide)) (g := (mkF m 11 #[.val (.ref a), .val (.int z), .val (.int i), .val (.int q)] [(.int q), (.int (alphaI k))])) rfl (by rw [hml]; rfl) (argsL := [(.int q)]) (rest := [(.int (alphaI k))]) (lenOf pd_15 rfl) rfl (by show 2 * 0 + _ ≤ _; exact Nat.le_of_eq rfl) (hb hby d19_11) (fun _ _ => ⟨rfl, heq1, (by decide : 0 + 0 ≤ _), (by decide : 0 + 0 ≤ _)⟩)
    dsimp only [Pt.U, Pt.locs, Pt.cells, Pt.slots] at X2 l2 y2 z2 st2 hQ2
    subst l2 y2 z2
    obtain ⟨rfl, N2q, heq2⟩ := hQ2
    have N2 := Fr.app N1 N2q
    refine own_by (S' := T2.setTop (mkF m 14 #[.val (.ref a), .val (.int z), .val (.int i), .val (.int q)] [(.int (alphaI k)), (.int (alphaI k))])) (fun tZ kZ => st2 _ kZ) ?_
    refine own_by (S' := T2.setTop (mkF m 17 #[.val (.ref a), .val (.int z), .val (.int i), .val (.int q)] [])) (fun tZ kZ => XS.icmpNo X2.here hx rfl (hb hby d19_14) rfl (teq rfl).2 kZ) ?_
    refine own_by (S' := T2.setTop (mkF m 18 #[.val (.ref a), .val (.int z), .val (.int i), .val (.int q)] [(.int (1 : Int32))])) (fun tZ kZ => XS.iconst X2.here hx rfl (hb hby d19_17) kZ) ?_
    refine own_by (S' := T2.setTop (mkF m 22 #[.val (.ref a), .val (.int z), .val (.int i), .val (.int q)] [(.int (1 : Int32))])) (fun tZ kZ => XS.goto X2.here hx rfl (pc0 := 18) (pc' := 22) rfl (hb hby d19_18) (by decide) (by decide) kZ) ?_
    exact own_retI X2 hx (t := .boolean) Bd.returns (by simp) rfl (hb hby d19_22) Bd.notSynchronized (by decide) (by decide) ⟨rfl, N2, heq2⟩
  · refine own_by (S' := s₁.setTop (mkF m 17 #[.val (.ref a), .val (.int z), .val (.int i), .val (.int q)] [])) (fun tZ kZ => XS.icmpYes X0.here hx rfl (pc0 := 2) (pc' := 17) rfl (hb hby d19_2) rfl (flt hc).2.1 (by decide) (by decide) kZ) ?_
    refine own_by (S' := s₁.setTop (mkF m 18 #[.val (.ref a), .val (.int z), .val (.int i), .val (.int q)] [(.int (1 : Int32))])) (fun tZ kZ => XS.iconst X0.here hx rfl (hb hby d19_17) kZ) ?_
    refine own_by (S' := s₁.setTop (mkF m 22 #[.val (.ref a), .val (.int z), .val (.int i), .val (.int q)] [(.int (1 : Int32))])) (fun tZ kZ => XS.goto X0.here hx rfl (pc0 := 18) (pc' := 22) rfl (hb hby d19_18) (by decide) (by decide) kZ) ?_
    exact own_retI X0 hx (t := .boolean) Bd.returns (by simp) rfl (hb hby d19_22) Bd.notSynchronized (by decide) (by decide) ⟨rfl, N0, e0⟩
def Q0 (h0 : Heap) (n0 : Nat) (v : Option Value) (h : Heap) (L : List Loc) : Prop := v = some (.int 1) ∧ Fr n0 L
theorem ef_rm0 (m : MethodId) (d : Int64) (p2 : Int32) : entryFrame m #[(.long d), (.int p2)] maxLocals = mkF m 0 #[.val (.long d), .second, .val (.int p2), .unset, .unset, .unset, .unset, .unset, .unset, .unset] [] := by first | (simp [entryFrame, mkF, argsToLocals, Value.category, maxLocals]; done) | rfl
set_option maxRecDepth 65536 in
set_option maxHeartbeats 40000000 in
theorem rm0 (l : Launch) (Z : State) (a0 : Array Value) (hw : ∀ d ∈ tables_1, d.before a0 Z = true) (ws : List Jvm.Cond) (d : Int64) (p2 : Int32) (cz : Int32) (al : Addr) (cal : Cell) (fm : Value) (h0 : Heap) (n0 : Nat) (Z0 : n0 ≤ h0.size) (Sal : Sta Z h0 "com/example/idpd/idpd/Base32" "ALPHABET" "[C" (.ref al)) (Aal : Arr Z h0 al cal .char) (hal0 : cal.slots.size = (32 : Int32).toNatClampNeg) (hal : ∀ q : Int32, ∀ k : Nat, k < 32 → q.toInt = k → cal.slots[q.toNatClampNeg]? = some (.int (alphaI k))) (Sc : Sta Z h0 "java/lang/String" "COMPACT_STRINGS" "Z" (.int cz)) (hcz : ¬ cz = 0) (Sf : Sta Z h0 "jdk/internal/util/Preconditions" "SIOOBE_FORMATTER" "Ljava/util/function/BiFunction;" fm) (rf : fm.isRef = true) :
    MetFree l x (head1 (Jvm.Cond.code x code maxLocals ret :: ws) room_1) (fun aZ UZ => aZ = #[(.long d), (.int p2)] ∧ Z.Warmed39 UZ.vm ∧ UZ.heap = h0) (fun _ _ _ _ _ => True) (fun _ UZ oZ VZ => ∃ vZ LZ, oZ = .returned vZ ∧ (Q0  h0 n0) vZ VZ.heap LZ ∧ FrameEnd UZ oZ VZ LZ room_1.cells room_1.slots) := by
  refine MetFree.of_bodySF (plainFor_of_name pn_7) hisR ?_
  intro p e s m args below meth c s₁ Bd hml0 hP hK
  obtain ⟨rfl, hZ, hh⟩ := hP
  have hx := Bd.exec
  have hby := Bd.bytes
  have hml : c.maxLocals = 10 := hml0
  have hown : s.vm.findClass "com/example/idpd/idpd/Base32EncodePinLaw" = some m.cls := findClass_of_methodNamed Bd.named
  have hnm := (name_of_methodNamed Bd.named Bd.method).1
  have X0 : Stand p l e room_1 s m #[(.long d), (.int p2)] below meth c s₁ [] 0 0 := Stand.of_body Bd
  have e0 : s₁.heap = h0 := by rw [← hh, Bd.state]; rfl
  have N0 := Fr.nil n0
  show OwnG p e below (OwnE s (Q0  h0 n0) room_1.cells room_1.slots) _
  refine own_by (S' := s₁.setTop (mkF m 0 #[.val (.long d), .second, .val (.int p2), .unset, .unset, .unset, .unset, .unset, .unset, .unset] [])) (fun tZ kZ => castTop (ef_rm0 m d p2) kZ) ?_
  refine own_by (S' := s₁.setTop (mkF m 1 #[.val (.long d), .second, .val (.int p2), .unset, .unset, .unset, .unset, .unset, .unset, .unset] [(.int p2)])) (fun tZ kZ => XS.iloadN X0.here hx rfl (hb hby at_0) rfl kZ) ?_
  refine own_by (S' := s₁.setTop (mkF m 3 #[.val (.long d), .second, .val (.int p2), .unset, .unset, .unset, .unset, .unset, .unset, .unset] [(.int (2147483647 : Int32)), (.int p2)])) (fun tZ kZ => X0.ldcInt hx hown (mvT hZ (hw _ (List.mem_of_getElem? (i := 0) rfl))) (g := (mkF m 1 #[.val (.long d), .second, .val (.int p2), .unset, .unset, .unset, .unset, .unset, .unset, .unset] [(.int p2)])) rfl (hb hby at_1) _ kZ) ?_
  refine own_by (S' := s₁.setTop (mkF m 4 #[.val (.long d), .second, .val (.int p2), .unset, .unset, .unset, .unset, .unset, .unset, .unset] [(.int (p2 &&& (2147483647 : Int32)))])) (fun tZ kZ => XS.iand X0.here hx rfl (hb hby at_3) rfl kZ) ?_
  refine own_by (S' := s₁.setTop (mkF m 6 #[.val (.long d), .second, .val (.int p2), .unset, .unset, .unset, .unset, .unset, .unset, .unset] [(.int (9 : Int32)), (.int (p2 &&& (2147483647 : Int32)))])) (fun tZ kZ => XS.bipush X0.here hx rfl (hb hby at_4) kZ) ?_
  refine own_by (S' := s₁.setTop (mkF m 7 #[.val (.long d), .second, .val (.int p2), .unset, .unset, .unset, .unset, .unset, .unset, .unset] [(.int ((p2 &&& (2147483647 : Int32)) % (9 : Int32)))])) (fun tZ kZ => Jvm.RoadKit.iremM X0 hx rfl (hb hby at_6) rfl (by decide) kZ) ?_
  obtain ⟨vn, hvn⟩ : ∃ z : Int32, z = ((p2 &&& (2147483647 : Int32)) % (9 : Int32)) := ⟨_, rfl⟩
  rw [← hvn]
  refine own_by (S' := s₁.setTop (mkF m 8 #[.val (.long d), .second, .val (.int p2), .val (.int vn), .unset, .unset, .unset, .unset, .unset, .unset] [])) (fun tZ kZ => XS.istoreN X0.here hx rfl (hb hby at_7) rfl (l' := #[.val (.long d), .second, .val (.int p2), .val (.int vn), .unset, .unset, .unset, .unset, .unset, .unset]) rfl kZ) ?_
  refine own_by (S' := s₁.setTop (mkF m 9 #[.val (.long d), .second, .val (.int p2), .val (.int vn), .unset, .unset, .unset, .unset, .unset, .unset] [(.int vn)])) (fun tZ kZ => XS.iloadN X0.here hx rfl (hb hby at_8) rfl kZ) ?_
  have hn9 := own_n9 p2
  rw [← hvn] at hn9
  obtain ⟨N, hN⟩ : ∃ N : Nat, vn.toInt = N := ⟨vn.toInt.toNat, by omega⟩
  have hN8 : N ≤ 8 := by omega
  obtain ⟨D, hDd⟩ : ∃ D : Nat, D = d.toBitVec.toNat := ⟨_, rfl⟩
  have hD : D < 2 ^ 64 := by rw [hDd]; exact d.toBitVec.isLt
  have hv0 := own_nneg hN
  have htn := own_tnc hN
  obtain ⟨T1, h1, k1, X1, e1, E1, A1, st1⟩ := newP X0 hx hZ (hw _ (List.mem_of_getElem? (i := 1) rfl)) e0 (g := (mkF m 9 #[.val (.long d), .second, .val (.int p2), .val (.int vn), .unset, .unset, .unset, .unset, .unset, .unset] [(.int vn)])) rfl (hb hby at_9) rfl hv0 (cap := 8) (by rw [htn]; omega) (by decide) (by decide) (by decide)
  obtain ⟨b1, g1⟩ : ∃ z, z = h0.size := ⟨_, rfl⟩
  rw [← g1] at A1 st1
  have g_b1 : n0 ≤ b1 := Nat.le_trans Z0 (Nat.le_of_eq g1.symm)
  have sz_b1 : h0.size ≤ b1 := Nat.le_trans (Keep.refl h0 []).1 (Nat.le_of_eq g1.symm)
  have Zs1 : n0 ≤ h1.size := Nat.le_trans Z0 E1.1
  have K1 := (Keep.refl h0 []).ext E1
  have V_b1 := OwnA.new A1
  refine own_by (S' := T1.setTop (mkF m 11 #[.val (.long d), .second, .val (.int p2), .val (.int vn), .unset, .unset, .unset, .unset, .unset, .unset] [(.ref b1)])) st1 ?_
  rw [htn] at V_b1
  refine own_by (S' := T1.setTop (mkF m 13 #[.val (.long d), .second, .val (.int p2), .val (.int vn), .val (.ref b1), .unset, .unset, .unset, .unset, .unset] [])) (fun tZ kZ => XS.astore X1.here hx rfl (hb hby at_11) rfl rfl (l' := #[.val (.long d), .second, .val (.int p2), .val (.int vn), .val (.ref b1), .unset, .unset, .unset, .unset, .unset]) rfl kZ) ?_
  have Jf8 : ∀ (Tj2 : State) (Lj2 : List Loc) (hj2 : Heap) (vs : List Value) (Xj2 : Stand p l e room_1 s m #[(.long d), (.int p2)] below meth c Tj2 Lj2 1 8) (ej2 : Tj2.heap = hj2) (Nj2 : Fr n0 Lj2) (Kj2 : Keep h0 hj2 []) (V_b1 : OwnA Z hj2 b1 k1 .byte vs) (hl : vs.length = N) (hP : ∀ j, j < 8 → j < N → ByteAt D vs j), OwnG p e below (OwnE s (Q0  h0 n0) room_1.cells room_1.slots) (Tj2.setTop (mkF m 133 #[.val (.long d), .second, .val (.int p2), .val (.int vn), .val (.ref b1), .unset, .unset, .unset, .unset, .unset] [])) := by
    intro Tj2 Lj2 hj2 vs Xj2 ej2 Nj2 Kj2 V_b1 hl hP
    refine own_by (S' := Tj2.setTop (mkF m 135 #[.val (.long d), .second, .val (.int p2), .val (.int vn), .val (.ref b1), .unset, .unset, .unset, .unset, .unset] [(.ref b1)])) (fun tZ kZ => XS.aload Xj2.here hx rfl (hb hby at_133) rfl rfl kZ) ?_
    have ExKj2 := own_ext0 Kj2
    obtain ⟨_, _, ⟨T3, L3, k3, n3⟩, -, X3, ⟨Lc3, hQ3, l3, y3, z3⟩, st3⟩ := Jvm.LawKit.callS Xj2 hx (y := (⟨"com/example/idpd/idpd/Base32", "encode", "([B)Ljava/lang/String;"⟩ : MethodName)) hown (mvT hZ (hw _ (List.mem_of_getElem? (i := 2) rfl))) (mvT hZ (hw _ (List.mem_of_getElem? (i := 3) rfl))) (mvT hZ (hw _ (List.mem_of_getElem? (i := 4) rfl))) (mvT hZ (hw _ (List.mem_of_getElem? (i := 5) rfl))) (by decide) (backOf (W := 0) (rmEnc l Z a0 hw [] b1 k1 vs D N vn cz al cal hj2 n0 (Nat.le_trans Z0 Kj2.1) V_b1 hl hN8 hD hN (fun j hj => hP j (by omega) hj) (Sal.ext ExKj2) (Aal.ext ExKj2) hal0 hal (Sc.ext ExKj2) hcz) hZ (hw _ (List.mem_of_getElem? (i := 5) rfl)) (hw _ (List.mem_of_getElem? (i := 4) rfl)) (by decide) (by decide)) (g := (mkF m 135 #[.val (.long d), .second, .val (.int p2), .val (.int vn), .val (.ref b1), .unset, .unset, .unset, .unset, .unset] [(.ref b1)])) rfl (by rw [hml]; rfl) (argsL := [(.ref b1)]) (rest := []) (lenOf pd_16 rfl) rfl (by show 2 * 0 + _ ≤ _; exact Nat.le_of_eq rfl) (hb hby at_135) (fun _ _ => ⟨rfl, ej2, (by decide : 1 + 4 ≤ _), (by decide : 8 + 34 ≤ _)⟩)
    dsimp only [Pt.U, Pt.locs, Pt.cells, Pt.slots] at X3 l3 y3 z3 st3 hQ3
    subst l3 y3 z3
    obtain ⟨r3, t3, kt3, rfl, N3q, Kc3, Er3, Fr3, Fc3, Vr3⟩ := hQ3
    have N3 := Fr.app Nj2 N3q
    have Zs3 := Nat.le_trans (Nat.le_trans Z0 Kj2.1) Kc3.1
    have Ec3 := own_ext0 Kc3
    have K3 := Kj2.ext Ec3
    refine own_by (S' := T3.setTop (mkF m 138 #[.val (.long d), .second, .val (.int p2), .val (.int vn), .val (.ref b1), .unset, .unset, .unset, .unset, .unset] [(.ref r3)])) (fun tZ kZ => st3 _ kZ) ?_
    obtain ⟨cs, Ars, hcs, hls⟩ := Vr3
    refine own_by (S' := T3.setTop (mkF m 140 #[.val (.long d), .second, .val (.int p2), .val (.int vn), .val (.ref b1), .val (.ref r3), .unset, .unset, .unset, .unset] [])) (fun tZ kZ => XS.astore X3.here hx rfl (hb hby at_138) rfl rfl (l' := #[.val (.long d), .second, .val (.int p2), .val (.int vn), .val (.ref b1), .val (.ref r3), .unset, .unset, .unset, .unset]) rfl kZ) ?_
    refine own_by (S' := T3.setTop (mkF m 142 #[.val (.long d), .second, .val (.int p2), .val (.int vn), .val (.ref b1), .val (.ref r3), .unset, .unset, .unset, .unset] [(.int (8 : Int32))])) (fun tZ kZ => XS.bipush X3.here hx rfl (hb hby at_140) kZ) ?_
    refine own_by (S' := T3.setTop (mkF m 143 #[.val (.long d), .second, .val (.int p2), .val (.int vn), .val (.ref b1), .val (.ref r3), .unset, .unset, .unset, .unset] [(.int vn), (.int (8 : Int32))])) (fun tZ kZ => XS.iloadN X3.here hx rfl (hb hby at_142) rfl kZ) ?_
    refine own_by (S' := T3.setTop (mkF m 144 #[.val (.long d), .second, .val (.int p2), .val (.int vn), .val (.ref b1), .val (.ref r3), .unset, .unset, .unset, .unset] [(.int ((8 : Int32) * vn))])) (fun tZ kZ => XS.imul X3.here hx rfl (hb hby at_143) rfl kZ) ?_
    refine own_by (S' := T3.setTop (mkF m 145 #[.val (.long d), .second, .val (.int p2), .val (.int vn), .val (.ref b1), .val (.ref r3), .unset, .unset, .unset, .unset] [(.int (4 : Int32)), (.int ((8 : Int32) * vn))])) (fun tZ kZ => XS.iconst X3.here hx rfl (hb hby at_144) kZ) ?_
    refine own_by (S' := T3.setTop (mkF m 146 #[.val (.long d), .second, .val (.int p2), .val (.int vn), .val (.ref b1), .val (.ref r3), .unset, .unset, .unset, .unset] [(.int (((8 : Int32) * vn) + (4 : Int32)))])) (fun tZ kZ => XS.iadd X3.here hx rfl (hb hby at_145) rfl kZ) ?_
    refine own_by (S' := T3.setTop (mkF m 147 #[.val (.long d), .second, .val (.int p2), .val (.int vn), .val (.ref b1), .val (.ref r3), .unset, .unset, .unset, .unset] [(.int (5 : Int32)), (.int (((8 : Int32) * vn) + (4 : Int32)))])) (fun tZ kZ => XS.iconst X3.here hx rfl (hb hby at_146) kZ) ?_
    refine own_by (S' := T3.setTop (mkF m 148 #[.val (.long d), .second, .val (.int p2), .val (.int vn), .val (.ref b1), .val (.ref r3), .unset, .unset, .unset, .unset] [(.int ((((8 : Int32) * vn) + (4 : Int32)) / (5 : Int32)))])) (fun tZ kZ => XS.idiv X3.here hx rfl (hb hby at_147) rfl (by decide) kZ) ?_
    obtain ⟨z, hz⟩ : ∃ z : Int32, z = ((((8 : Int32) * vn) + (4 : Int32)) / (5 : Int32)) := ⟨_, rfl⟩
    rw [← hz]
    refine own_by (S' := T3.setTop (mkF m 150 #[.val (.long d), .second, .val (.int p2), .val (.int vn), .val (.ref b1), .val (.ref r3), .val (.int z), .unset, .unset, .unset] [])) (fun tZ kZ => XS.istore X3.here hx rfl (hb hby at_148) rfl (l' := #[.val (.long d), .second, .val (.int p2), .val (.int vn), .val (.ref b1), .val (.ref r3), .val (.int z), .unset, .unset, .unset]) rfl kZ) ?_
    have hzl : z.toInt = (((8 * N + 4) / 5 : Nat) : Int) := by rw [hz]; exact own_len8' vn N hN hN8
    have hz0 := own_nneg hzl
    have Szs : cs.slots.size = z.toNatClampNeg := OwnA.size hls (by rw [encL_len, own_tnc hzl])
    refine own_by (S' := T3.setTop (mkF m 152 #[.val (.long d), .second, .val (.int p2), .val (.int vn), .val (.ref b1), .val (.ref r3), .val (.int z), .unset, .unset, .unset] [(.ref r3)])) (fun tZ kZ => XS.aload X3.here hx rfl (hb hby at_150) rfl rfl kZ) ?_
    have ExK3 := own_ext0 K3
    obtain ⟨cq4, kq4, q4a, q4b, q4c⟩ := isOf hZ rfl Er3
    obtain ⟨_, _, ⟨T4, L4, k4, n4⟩, -, X4, ⟨Lc4, hQ4, l4, y4, z4⟩, st4⟩ := X3.virtualBack hx (y := (⟨"java/lang/String", "length", "()I"⟩ : MethodName)) (z := (⟨"java/lang/String", "length", "()I"⟩ : MethodName)) hown (mvT hZ (hw _ (List.mem_of_getElem? (i := 101) rfl))) (mvT hZ (hw _ (List.mem_of_getElem? (i := 102) rfl))) (notFace_of_selects (args := #[]) (mvT hZ (hw _ (List.mem_of_getElem? (i := 104) rfl)))) (mvT hZ (hw _ (List.mem_of_getElem? (i := 104) rfl))) (mvT hZ (hw _ (List.mem_of_getElem? (i := 103) rfl))) (by decide) (backOf (W := 0) (rmLen l Z a0 hw [] r3 t3 z cz cs T3.heap n0 Zs3 Er3 Fr3 Fc3 Ars Szs hz0 (Sc.ext ExK3) hcz) hZ (hw _ (List.mem_of_getElem? (i := 105) rfl)) (hw _ (List.mem_of_getElem? (i := 22) rfl)) (by decide) (by decide)) q4a q4c (g := (mkF m 152 #[.val (.long d), .second, .val (.int p2), .val (.int vn), .val (.ref b1), .val (.ref r3), .val (.int z), .unset, .unset, .unset] [(.ref r3)])) rfl (by rw [hml]; rfl) (Steps.refl _) (argsL := []) (rest := []) (lenOf pd_4 rfl) rfl (by show 2 * 0 + _ ≤ _; exact Nat.le_of_eq rfl) (hb hby at_152) (fun _ _ => ⟨rfl, rfl, (by decide : 5 + 0 ≤ _), (by decide : 42 + 0 ≤ _)⟩)
    dsimp only [Pt.U, Pt.locs, Pt.cells, Pt.slots] at X4 l4 y4 z4 st4 hQ4
    subst l4 y4 z4
    obtain ⟨rfl, N4q, heq4⟩ := hQ4
    have N4 := Fr.app N3 N4q
    refine own_by (S' := T4.setTop (mkF m 155 #[.val (.long d), .second, .val (.int p2), .val (.int vn), .val (.ref b1), .val (.ref r3), .val (.int z), .unset, .unset, .unset] [(.int z)])) (fun tZ kZ => st4.trans kZ) ?_
    refine own_by (S' := T4.setTop (mkF m 157 #[.val (.long d), .second, .val (.int p2), .val (.int vn), .val (.ref b1), .val (.ref r3), .val (.int z), .unset, .unset, .unset] [(.int z), (.int z)])) (fun tZ kZ => XS.iload X4.here hx rfl (hb hby at_155) rfl kZ) ?_
    refine own_by (S' := T4.setTop (mkF m 162 #[.val (.long d), .second, .val (.int p2), .val (.int vn), .val (.ref b1), .val (.ref r3), .val (.int z), .unset, .unset, .unset] [])) (fun tZ kZ => XS.icmpYes X4.here hx rfl (pc0 := 157) (pc' := 162) rfl (hb hby at_157) rfl (teq rfl).1 (by decide) (by decide) kZ) ?_
    refine own_by (S' := T4.setTop (mkF m 163 #[.val (.long d), .second, .val (.int p2), .val (.int vn), .val (.ref b1), .val (.ref r3), .val (.int z), .unset, .unset, .unset] [(.int vn)])) (fun tZ kZ => XS.iloadN X4.here hx rfl (hb hby at_162) rfl kZ) ?_
    refine own_by (S' := T4.setTop (mkF m 165 #[.val (.long d), .second, .val (.int p2), .val (.int vn), .val (.ref b1), .val (.ref r3), .val (.int z), .unset, .unset, .unset] [(.int (8 : Int32)), (.int vn)])) (fun tZ kZ => XS.bipush X4.here hx rfl (hb hby at_163) kZ) ?_
    have J186 : ∀ (Tj5 : State) (Lj5 : List Loc) (hj5 : Heap) (v : Int64) (Xj5 : Stand p l e room_1 s m #[(.long d), (.int p2)] below meth c Tj5 Lj5 5 42) (ej5 : Tj5.heap = hj5) (Nj5 : Fr n0 Lj5) (Kj5 : Keep h0 hj5 []) (hV : v.toBitVec.toNat = D / 2 ^ (64 - 8 * N) * 2 ^ (64 - 8 * N)) (hSame : hj5 = T3.heap), OwnG p e below (OwnE s (Q0  h0 n0) room_1.cells room_1.slots) (Tj5.setTop (mkF m 186 #[.val (.long d), .second, .val (.int p2), .val (.int vn), .val (.ref b1), .val (.ref r3), .val (.int z), .unset, .unset, .unset] [(.long v)])) := by
      intro Tj5 Lj5 hj5 v Xj5 ej5 Nj5 Kj5 hV hSame
      subst hSame
      refine own_by (S' := Tj5.setTop (mkF m 188 #[.val (.long d), .second, .val (.int p2), .val (.int vn), .val (.ref b1), .val (.ref r3), .val (.int z), .val (.long v), .second, .unset] [])) (fun tZ kZ => XS.lstore Xj5.here hx rfl (hb hby at_186) rfl (l' := #[.val (.long d), .second, .val (.int p2), .val (.int vn), .val (.ref b1), .val (.ref r3), .val (.int z), .val (.long v), .second, .unset]) rfl kZ) ?_
      refine own_by (S' := Tj5.setTop (mkF m 189 #[.val (.long d), .second, .val (.int p2), .val (.int vn), .val (.ref b1), .val (.ref r3), .val (.int z), .val (.long v), .second, .unset] [(.int (1 : Int32))])) (fun tZ kZ => XS.iconst Xj5.here hx rfl (hb hby at_188) kZ) ?_
      refine own_by (S' := Tj5.setTop (mkF m 191 #[.val (.long d), .second, .val (.int p2), .val (.int vn), .val (.ref b1), .val (.ref r3), .val (.int z), .val (.long v), .second, .val (.int (1 : Int32))] [])) (fun tZ kZ => XS.istore Xj5.here hx rfl (hb hby at_189) rfl (l' := #[.val (.long d), .second, .val (.int p2), .val (.int vn), .val (.ref b1), .val (.ref r3), .val (.int z), .val (.long v), .second, .val (.int (1 : Int32))]) rfl kZ) ?_
      refine own_by (S' := Tj5.setTop (mkF m 193 #[.val (.long d), .second, .val (.int p2), .val (.int vn), .val (.ref b1), .val (.ref r3), .val (.int z), .val (.long v), .second, .val (.int (1 : Int32))] [(.int (1 : Int32))])) (fun tZ kZ => XS.iload Xj5.here hx rfl (hb hby at_191) rfl kZ) ?_
      refine own_by (S' := Tj5.setTop (mkF m 196 #[.val (.long d), .second, .val (.int p2), .val (.int vn), .val (.ref b1), .val (.ref r3), .val (.int z), .val (.long v), .second, .val (.int (1 : Int32))] [])) (fun tZ kZ => XS.ifNo Xj5.here hx rfl (hb hby at_193) rfl ((if0 _ _).trans (feq (by decide)).1) kZ) ?_
      refine own_by (S' := Tj5.setTop (mkF m 198 #[.val (.long d), .second, .val (.int p2), .val (.int vn), .val (.ref b1), .val (.ref r3), .val (.int z), .val (.long v), .second, .val (.int (1 : Int32))] [(.ref r3)])) (fun tZ kZ => XS.aload Xj5.here hx rfl (hb hby at_196) rfl rfl kZ) ?_
      refine own_by (S' := Tj5.setTop (mkF m 200 #[.val (.long d), .second, .val (.int p2), .val (.int vn), .val (.ref b1), .val (.ref r3), .val (.int z), .val (.long v), .second, .val (.int (1 : Int32))] [(.int z), (.ref r3)])) (fun tZ kZ => XS.iload Xj5.here hx rfl (hb hby at_198) rfl kZ) ?_
      refine own_by (S' := Tj5.setTop (mkF m 201 #[.val (.long d), .second, .val (.int p2), .val (.int vn), .val (.ref b1), .val (.ref r3), .val (.int z), .val (.long v), .second, .val (.int (1 : Int32))] [(.int (0 : Int32)), (.int z), (.ref r3)])) (fun tZ kZ => XS.iconst Xj5.here hx rfl (hb hby at_200) kZ) ?_
      refine own_by (S' := Tj5.setTop (mkF m 203 #[.val (.long d), .second, .val (.int p2), .val (.int vn), .val (.ref b1), .val (.ref r3), .val (.int z), .val (.long v), .second, .val (.int (1 : Int32))] [(.long v), (.int (0 : Int32)), (.int z), (.ref r3)])) (fun tZ kZ => XS.lload Xj5.here hx rfl (hb hby at_201) rfl kZ) ?_
      refine own_by (S' := Tj5.setTop (mkF m 205 #[.val (.long d), .second, .val (.int p2), .val (.int vn), .val (.ref b1), .val (.ref r3), .val (.int z), .val (.long v), .second, .val (.int (1 : Int32))] [(.int (59 : Int32)), (.long v), (.int (0 : Int32)), (.int z), (.ref r3)])) (fun tZ kZ => XS.bipush Xj5.here hx rfl (hb hby at_203) kZ) ?_
      refine own_by (S' := Tj5.setTop (mkF m 206 #[.val (.long d), .second, .val (.int p2), .val (.int vn), .val (.ref b1), .val (.ref r3), .val (.int z), .val (.long v), .second, .val (.int (1 : Int32))] [(.long ((v.toUInt64 >>> ((59 : Int32) &&& 0x3f).toInt64.toUInt64).toInt64)), (.int (0 : Int32)), (.int z), (.ref r3)])) (fun tZ kZ => XS.lushr Xj5.here hx rfl (hb hby at_205) rfl kZ) ?_
      refine own_by (S' := Tj5.setTop (mkF m 209 #[.val (.long d), .second, .val (.int p2), .val (.int vn), .val (.ref b1), .val (.ref r3), .val (.int z), .val (.long v), .second, .val (.int (1 : Int32))] [(.long (31 : Int64)), (.long ((v.toUInt64 >>> ((59 : Int32) &&& 0x3f).toInt64.toUInt64).toInt64)), (.int (0 : Int32)), (.int z), (.ref r3)])) (fun tZ kZ => Xj5.ldc2Long hx hown (mvT hZ (hw _ (List.mem_of_getElem? (i := 113) rfl))) (g := (mkF m 206 #[.val (.long d), .second, .val (.int p2), .val (.int vn), .val (.ref b1), .val (.ref r3), .val (.int z), .val (.long v), .second, .val (.int (1 : Int32))] [(.long ((v.toUInt64 >>> ((59 : Int32) &&& 0x3f).toInt64.toUInt64).toInt64)), (.int (0 : Int32)), (.int z), (.ref r3)])) rfl (hb hby at_206) _ kZ) ?_
      refine own_by (S' := Tj5.setTop (mkF m 210 #[.val (.long d), .second, .val (.int p2), .val (.int vn), .val (.ref b1), .val (.ref r3), .val (.int z), .val (.long v), .second, .val (.int (1 : Int32))] [(.long (((v.toUInt64 >>> ((59 : Int32) &&& 0x3f).toInt64.toUInt64).toInt64) &&& (31 : Int64))), (.int (0 : Int32)), (.int z), (.ref r3)])) (fun tZ kZ => XS.land Xj5.here hx rfl (hb hby at_209) rfl kZ) ?_
      refine own_by (S' := Tj5.setTop (mkF m 211 #[.val (.long d), .second, .val (.int p2), .val (.int vn), .val (.ref b1), .val (.ref r3), .val (.int z), .val (.long v), .second, .val (.int (1 : Int32))] [(.int ((((v.toUInt64 >>> ((59 : Int32) &&& 0x3f).toInt64.toUInt64).toInt64) &&& (31 : Int64)).toInt32)), (.int (0 : Int32)), (.int z), (.ref r3)])) (fun tZ kZ => XS.l2i Xj5.here hx rfl (hb hby at_210) rfl kZ) ?_
      have hq0 : (((((v.toUInt64 >>> ((59 : Int32) &&& 0x3f).toInt64.toUInt64).toInt64) &&& (31 : Int64)).toInt32) : Int32).toInt = ((v.toBitVec.toNat / 2 ^ 59 % 32 : Nat) : Int) := own_chr v 59 59 (by decide) (by decide)
      obtain ⟨_, _, ⟨T6, L6, k6, n6⟩, -, X6, ⟨Lc6, hQ6, l6, y6, z6⟩, st6⟩ := Jvm.LawKit.callS Xj5 hx (y := (⟨"com/example/idpd/idpd/Base32EncodePinLaw", "at", "(Ljava/lang/String;III)Z"⟩ : MethodName)) hown (mvT hZ (hw _ (List.mem_of_getElem? (i := 114) rfl))) (mvT hZ (hw _ (List.mem_of_getElem? (i := 115) rfl))) (mvT hZ (hw _ (List.mem_of_getElem? (i := 116) rfl))) (mvT hZ (hw _ (List.mem_of_getElem? (i := 117) rfl))) (by decide) (backOf (W := 0) (rmAt l Z a0 hw [] r3 t3 z cz cs (0 : Int32) ((((v.toUInt64 >>> ((59 : Int32) &&& 0x3f).toInt64.toUInt64).toInt64) &&& (31 : Int64)).toInt32) fm T3.heap n0 Zs3 Er3 Fr3 Fc3 Ars Szs hz0 (Sc.ext ExK3) hcz (Sf.ext ExK3) rf (by decide) (fun hc => ⟨idx D N 0, idx_lt D N 0, by rw [hq0, own_chk0 D N _ hN8 (own_jz hc hzl) hV], OwnA.at (j := (0 : Int32)) hls (encL_at D N 0 (own_jz hc hzl))⟩)) hZ (hw _ (List.mem_of_getElem? (i := 117) rfl)) (hw _ (List.mem_of_getElem? (i := 116) rfl)) (by decide) (by decide)) (g := (mkF m 211 #[.val (.long d), .second, .val (.int p2), .val (.int vn), .val (.ref b1), .val (.ref r3), .val (.int z), .val (.long v), .second, .val (.int (1 : Int32))] [(.int ((((v.toUInt64 >>> ((59 : Int32) &&& 0x3f).toInt64.toUInt64).toInt64) &&& (31 : Int64)).toInt32)), (.int (0 : Int32)), (.int z), (.ref r3)])) rfl (by rw [hml]; rfl) (argsL := [(.ref r3), (.int z), (.int (0 : Int32)), (.int ((((v.toUInt64 >>> ((59 : Int32) &&& 0x3f).toInt64.toUInt64).toInt64) &&& (31 : Int64)).toInt32))]) (rest := []) (lenOf pd_17 rfl) rfl (by show 2 * 0 + _ ≤ _; exact Nat.le_of_eq rfl) (hb hby at_211) (fun _ _ => ⟨rfl, ej5, (by decide : 5 + 0 ≤ _), (by decide : 42 + 0 ≤ _)⟩)
      dsimp only [Pt.U, Pt.locs, Pt.cells, Pt.slots] at X6 l6 y6 z6 st6 hQ6
      subst l6 y6 z6
      obtain ⟨rfl, N6q, heq6⟩ := hQ6
      have N6 := Fr.app Nj5 N6q
      refine own_by (S' := T6.setTop (mkF m 214 #[.val (.long d), .second, .val (.int p2), .val (.int vn), .val (.ref b1), .val (.ref r3), .val (.int z), .val (.long v), .second, .val (.int (1 : Int32))] [(.int (1 : Int32))])) (fun tZ kZ => st6 _ kZ) ?_
      refine own_by (S' := T6.setTop (mkF m 217 #[.val (.long d), .second, .val (.int p2), .val (.int vn), .val (.ref b1), .val (.ref r3), .val (.int z), .val (.long v), .second, .val (.int (1 : Int32))] [])) (fun tZ kZ => XS.ifNo X6.here hx rfl (hb hby at_214) rfl ((if0 _ _).trans (feq (by decide)).1) kZ) ?_
      refine own_by (S' := T6.setTop (mkF m 218 #[.val (.long d), .second, .val (.int p2), .val (.int vn), .val (.ref b1), .val (.ref r3), .val (.int z), .val (.long v), .second, .val (.int (1 : Int32))] [(.int (1 : Int32))])) (fun tZ kZ => XS.iconst X6.here hx rfl (hb hby at_217) kZ) ?_
      refine own_by (S' := T6.setTop (mkF m 222 #[.val (.long d), .second, .val (.int p2), .val (.int vn), .val (.ref b1), .val (.ref r3), .val (.int z), .val (.long v), .second, .val (.int (1 : Int32))] [(.int (1 : Int32))])) (fun tZ kZ => XS.goto X6.here hx rfl (pc0 := 218) (pc' := 222) rfl (hb hby at_218) (by decide) (by decide) kZ) ?_
      refine own_by (S' := T6.setTop (mkF m 224 #[.val (.long d), .second, .val (.int p2), .val (.int vn), .val (.ref b1), .val (.ref r3), .val (.int z), .val (.long v), .second, .val (.int (1 : Int32))] [])) (fun tZ kZ => XS.istore X6.here hx rfl (hb hby at_222) rfl (l' := #[.val (.long d), .second, .val (.int p2), .val (.int vn), .val (.ref b1), .val (.ref r3), .val (.int z), .val (.long v), .second, .val (.int (1 : Int32))]) rfl kZ) ?_
      refine own_by (S' := T6.setTop (mkF m 226 #[.val (.long d), .second, .val (.int p2), .val (.int vn), .val (.ref b1), .val (.ref r3), .val (.int z), .val (.long v), .second, .val (.int (1 : Int32))] [(.int (1 : Int32))])) (fun tZ kZ => XS.iload X6.here hx rfl (hb hby at_224) rfl kZ) ?_
      refine own_by (S' := T6.setTop (mkF m 229 #[.val (.long d), .second, .val (.int p2), .val (.int vn), .val (.ref b1), .val (.ref r3), .val (.int z), .val (.long v), .second, .val (.int (1 : Int32))] [])) (fun tZ kZ => XS.ifNo X6.here hx rfl (hb hby at_226) rfl ((if0 _ _).trans (feq (by decide)).1) kZ) ?_
      refine own_by (S' := T6.setTop (mkF m 231 #[.val (.long d), .second, .val (.int p2), .val (.int vn), .val (.ref b1), .val (.ref r3), .val (.int z), .val (.long v), .second, .val (.int (1 : Int32))] [(.ref r3)])) (fun tZ kZ => XS.aload X6.here hx rfl (hb hby at_229) rfl rfl kZ) ?_
      refine own_by (S' := T6.setTop (mkF m 233 #[.val (.long d), .second, .val (.int p2), .val (.int vn), .val (.ref b1), .val (.ref r3), .val (.int z), .val (.long v), .second, .val (.int (1 : Int32))] [(.int z), (.ref r3)])) (fun tZ kZ => XS.iload X6.here hx rfl (hb hby at_231) rfl kZ) ?_
      refine own_by (S' := T6.setTop (mkF m 234 #[.val (.long d), .second, .val (.int p2), .val (.int vn), .val (.ref b1), .val (.ref r3), .val (.int z), .val (.long v), .second, .val (.int (1 : Int32))] [(.int (1 : Int32)), (.int z), (.ref r3)])) (fun tZ kZ => XS.iconst X6.here hx rfl (hb hby at_233) kZ) ?_
      refine own_by (S' := T6.setTop (mkF m 236 #[.val (.long d), .second, .val (.int p2), .val (.int vn), .val (.ref b1), .val (.ref r3), .val (.int z), .val (.long v), .second, .val (.int (1 : Int32))] [(.long v), (.int (1 : Int32)), (.int z), (.ref r3)])) (fun tZ kZ => XS.lload X6.here hx rfl (hb hby at_234) rfl kZ) ?_
      refine own_by (S' := T6.setTop (mkF m 238 #[.val (.long d), .second, .val (.int p2), .val (.int vn), .val (.ref b1), .val (.ref r3), .val (.int z), .val (.long v), .second, .val (.int (1 : Int32))] [(.int (54 : Int32)), (.long v), (.int (1 : Int32)), (.int z), (.ref r3)])) (fun tZ kZ => XS.bipush X6.here hx rfl (hb hby at_236) kZ) ?_
      refine own_by (S' := T6.setTop (mkF m 239 #[.val (.long d), .second, .val (.int p2), .val (.int vn), .val (.ref b1), .val (.ref r3), .val (.int z), .val (.long v), .second, .val (.int (1 : Int32))] [(.long ((v.toUInt64 >>> ((54 : Int32) &&& 0x3f).toInt64.toUInt64).toInt64)), (.int (1 : Int32)), (.int z), (.ref r3)])) (fun tZ kZ => XS.lushr X6.here hx rfl (hb hby at_238) rfl kZ) ?_
      refine own_by (S' := T6.setTop (mkF m 242 #[.val (.long d), .second, .val (.int p2), .val (.int vn), .val (.ref b1), .val (.ref r3), .val (.int z), .val (.long v), .second, .val (.int (1 : Int32))] [(.long (31 : Int64)), (.long ((v.toUInt64 >>> ((54 : Int32) &&& 0x3f).toInt64.toUInt64).toInt64)), (.int (1 : Int32)), (.int z), (.ref r3)])) (fun tZ kZ => X6.ldc2Long hx hown (mvT hZ (hw _ (List.mem_of_getElem? (i := 113) rfl))) (g := (mkF m 239 #[.val (.long d), .second, .val (.int p2), .val (.int vn), .val (.ref b1), .val (.ref r3), .val (.int z), .val (.long v), .second, .val (.int (1 : Int32))] [(.long ((v.toUInt64 >>> ((54 : Int32) &&& 0x3f).toInt64.toUInt64).toInt64)), (.int (1 : Int32)), (.int z), (.ref r3)])) rfl (hb hby at_239) _ kZ) ?_
      refine own_by (S' := T6.setTop (mkF m 243 #[.val (.long d), .second, .val (.int p2), .val (.int vn), .val (.ref b1), .val (.ref r3), .val (.int z), .val (.long v), .second, .val (.int (1 : Int32))] [(.long (((v.toUInt64 >>> ((54 : Int32) &&& 0x3f).toInt64.toUInt64).toInt64) &&& (31 : Int64))), (.int (1 : Int32)), (.int z), (.ref r3)])) (fun tZ kZ => XS.land X6.here hx rfl (hb hby at_242) rfl kZ) ?_
      refine own_by (S' := T6.setTop (mkF m 244 #[.val (.long d), .second, .val (.int p2), .val (.int vn), .val (.ref b1), .val (.ref r3), .val (.int z), .val (.long v), .second, .val (.int (1 : Int32))] [(.int ((((v.toUInt64 >>> ((54 : Int32) &&& 0x3f).toInt64.toUInt64).toInt64) &&& (31 : Int64)).toInt32)), (.int (1 : Int32)), (.int z), (.ref r3)])) (fun tZ kZ => XS.l2i X6.here hx rfl (hb hby at_243) rfl kZ) ?_
      have hq1 : (((((v.toUInt64 >>> ((54 : Int32) &&& 0x3f).toInt64.toUInt64).toInt64) &&& (31 : Int64)).toInt32) : Int32).toInt = ((v.toBitVec.toNat / 2 ^ 54 % 32 : Nat) : Int) := own_chr v 54 54 (by decide) (by decide)
      obtain ⟨_, _, ⟨T7, L7, k7, n7⟩, -, X7, ⟨Lc7, hQ7, l7, y7, z7⟩, st7⟩ := Jvm.LawKit.callS X6 hx (y := (⟨"com/example/idpd/idpd/Base32EncodePinLaw", "at", "(Ljava/lang/String;III)Z"⟩ : MethodName)) hown (mvT hZ (hw _ (List.mem_of_getElem? (i := 114) rfl))) (mvT hZ (hw _ (List.mem_of_getElem? (i := 115) rfl))) (mvT hZ (hw _ (List.mem_of_getElem? (i := 116) rfl))) (mvT hZ (hw _ (List.mem_of_getElem? (i := 117) rfl))) (by decide) (backOf (W := 0) (rmAt l Z a0 hw [] r3 t3 z cz cs (1 : Int32) ((((v.toUInt64 >>> ((54 : Int32) &&& 0x3f).toInt64.toUInt64).toInt64) &&& (31 : Int64)).toInt32) fm T3.heap n0 Zs3 Er3 Fr3 Fc3 Ars Szs hz0 (Sc.ext ExK3) hcz (Sf.ext ExK3) rf (by decide) (fun hc => ⟨idx D N 1, idx_lt D N 1, by rw [hq1, own_chk1 D N _ hN8 (own_jz hc hzl) hV], OwnA.at (j := (1 : Int32)) hls (encL_at D N 1 (own_jz hc hzl))⟩)) hZ (hw _ (List.mem_of_getElem? (i := 117) rfl)) (hw _ (List.mem_of_getElem? (i := 116) rfl)) (by decide) (by decide)) (g := (mkF m 244 #[.val (.long d), .second, .val (.int p2), .val (.int vn), .val (.ref b1), .val (.ref r3), .val (.int z), .val (.long v), .second, .val (.int (1 : Int32))] [(.int ((((v.toUInt64 >>> ((54 : Int32) &&& 0x3f).toInt64.toUInt64).toInt64) &&& (31 : Int64)).toInt32)), (.int (1 : Int32)), (.int z), (.ref r3)])) rfl (by rw [hml]; rfl) (argsL := [(.ref r3), (.int z), (.int (1 : Int32)), (.int ((((v.toUInt64 >>> ((54 : Int32) &&& 0x3f).toInt64.toUInt64).toInt64) &&& (31 : Int64)).toInt32))]) (rest := []) (lenOf pd_17 rfl) rfl (by show 2 * 0 + _ ≤ _; exact Nat.le_of_eq rfl) (hb hby at_244) (fun _ _ => ⟨rfl, heq6, (by decide : 5 + 0 ≤ _), (by decide : 42 + 0 ≤ _)⟩)
      dsimp only [Pt.U, Pt.locs, Pt.cells, Pt.slots] at X7 l7 y7 z7 st7 hQ7
      subst l7 y7 z7
      obtain ⟨rfl, N7q, heq7⟩ := hQ7
      have N7 := Fr.app N6 N7q
      refine own_by (S' := T7.setTop (mkF m 247 #[.val (.long d), .second, .val (.int p2), .val (.int vn), .val (.ref b1), .val (.ref r3), .val (.int z), .val (.long v), .second, .val (.int (1 : Int32))] [(.int (1 : Int32))])) (fun tZ kZ => st7 _ kZ) ?_
      refine own_by (S' := T7.setTop (mkF m 250 #[.val (.long d), .second, .val (.int p2), .val (.int vn), .val (.ref b1), .val (.ref r3), .val (.int z), .val (.long v), .second, .val (.int (1 : Int32))] [])) (fun tZ kZ => XS.ifNo X7.here hx rfl (hb hby at_247) rfl ((if0 _ _).trans (feq (by decide)).1) kZ) ?_
      refine own_by (S' := T7.setTop (mkF m 251 #[.val (.long d), .second, .val (.int p2), .val (.int vn), .val (.ref b1), .val (.ref r3), .val (.int z), .val (.long v), .second, .val (.int (1 : Int32))] [(.int (1 : Int32))])) (fun tZ kZ => XS.iconst X7.here hx rfl (hb hby at_250) kZ) ?_
      refine own_by (S' := T7.setTop (mkF m 255 #[.val (.long d), .second, .val (.int p2), .val (.int vn), .val (.ref b1), .val (.ref r3), .val (.int z), .val (.long v), .second, .val (.int (1 : Int32))] [(.int (1 : Int32))])) (fun tZ kZ => XS.goto X7.here hx rfl (pc0 := 251) (pc' := 255) rfl (hb hby at_251) (by decide) (by decide) kZ) ?_
      refine own_by (S' := T7.setTop (mkF m 257 #[.val (.long d), .second, .val (.int p2), .val (.int vn), .val (.ref b1), .val (.ref r3), .val (.int z), .val (.long v), .second, .val (.int (1 : Int32))] [])) (fun tZ kZ => XS.istore X7.here hx rfl (hb hby at_255) rfl (l' := #[.val (.long d), .second, .val (.int p2), .val (.int vn), .val (.ref b1), .val (.ref r3), .val (.int z), .val (.long v), .second, .val (.int (1 : Int32))]) rfl kZ) ?_
      refine own_by (S' := T7.setTop (mkF m 259 #[.val (.long d), .second, .val (.int p2), .val (.int vn), .val (.ref b1), .val (.ref r3), .val (.int z), .val (.long v), .second, .val (.int (1 : Int32))] [(.int (1 : Int32))])) (fun tZ kZ => XS.iload X7.here hx rfl (hb hby at_257) rfl kZ) ?_
      refine own_by (S' := T7.setTop (mkF m 262 #[.val (.long d), .second, .val (.int p2), .val (.int vn), .val (.ref b1), .val (.ref r3), .val (.int z), .val (.long v), .second, .val (.int (1 : Int32))] [])) (fun tZ kZ => XS.ifNo X7.here hx rfl (hb hby at_259) rfl ((if0 _ _).trans (feq (by decide)).1) kZ) ?_
      refine own_by (S' := T7.setTop (mkF m 264 #[.val (.long d), .second, .val (.int p2), .val (.int vn), .val (.ref b1), .val (.ref r3), .val (.int z), .val (.long v), .second, .val (.int (1 : Int32))] [(.ref r3)])) (fun tZ kZ => XS.aload X7.here hx rfl (hb hby at_262) rfl rfl kZ) ?_
      refine own_by (S' := T7.setTop (mkF m 266 #[.val (.long d), .second, .val (.int p2), .val (.int vn), .val (.ref b1), .val (.ref r3), .val (.int z), .val (.long v), .second, .val (.int (1 : Int32))] [(.int z), (.ref r3)])) (fun tZ kZ => XS.iload X7.here hx rfl (hb hby at_264) rfl kZ) ?_
      refine own_by (S' := T7.setTop (mkF m 267 #[.val (.long d), .second, .val (.int p2), .val (.int vn), .val (.ref b1), .val (.ref r3), .val (.int z), .val (.long v), .second, .val (.int (1 : Int32))] [(.int (2 : Int32)), (.int z), (.ref r3)])) (fun tZ kZ => XS.iconst X7.here hx rfl (hb hby at_266) kZ) ?_
      refine own_by (S' := T7.setTop (mkF m 269 #[.val (.long d), .second, .val (.int p2), .val (.int vn), .val (.ref b1), .val (.ref r3), .val (.int z), .val (.long v), .second, .val (.int (1 : Int32))] [(.long v), (.int (2 : Int32)), (.int z), (.ref r3)])) (fun tZ kZ => XS.lload X7.here hx rfl (hb hby at_267) rfl kZ) ?_
      refine own_by (S' := T7.setTop (mkF m 271 #[.val (.long d), .second, .val (.int p2), .val (.int vn), .val (.ref b1), .val (.ref r3), .val (.int z), .val (.long v), .second, .val (.int (1 : Int32))] [(.int (49 : Int32)), (.long v), (.int (2 : Int32)), (.int z), (.ref r3)])) (fun tZ kZ => XS.bipush X7.here hx rfl (hb hby at_269) kZ) ?_
      refine own_by (S' := T7.setTop (mkF m 272 #[.val (.long d), .second, .val (.int p2), .val (.int vn), .val (.ref b1), .val (.ref r3), .val (.int z), .val (.long v), .second, .val (.int (1 : Int32))] [(.long ((v.toUInt64 >>> ((49 : Int32) &&& 0x3f).toInt64.toUInt64).toInt64)), (.int (2 : Int32)), (.int z), (.ref r3)])) (fun tZ kZ => XS.lushr X7.here hx rfl (hb hby at_271) rfl kZ) ?_
      refine own_by (S' := T7.setTop (mkF m 275 #[.val (.long d), .second, .val (.int p2), .val (.int vn), .val (.ref b1), .val (.ref r3), .val (.int z), .val (.long v), .second, .val (.int (1 : Int32))] [(.long (31 : Int64)), (.long ((v.toUInt64 >>> ((49 : Int32) &&& 0x3f).toInt64.toUInt64).toInt64)), (.int (2 : Int32)), (.int z), (.ref r3)])) (fun tZ kZ => X7.ldc2Long hx hown (mvT hZ (hw _ (List.mem_of_getElem? (i := 113) rfl))) (g := (mkF m 272 #[.val (.long d), .second, .val (.int p2), .val (.int vn), .val (.ref b1), .val (.ref r3), .val (.int z), .val (.long v), .second, .val (.int (1 : Int32))] [(.long ((v.toUInt64 >>> ((49 : Int32) &&& 0x3f).toInt64.toUInt64).toInt64)), (.int (2 : Int32)), (.int z), (.ref r3)])) rfl (hb hby at_272) _ kZ) ?_
      refine own_by (S' := T7.setTop (mkF m 276 #[.val (.long d), .second, .val (.int p2), .val (.int vn), .val (.ref b1), .val (.ref r3), .val (.int z), .val (.long v), .second, .val (.int (1 : Int32))] [(.long (((v.toUInt64 >>> ((49 : Int32) &&& 0x3f).toInt64.toUInt64).toInt64) &&& (31 : Int64))), (.int (2 : Int32)), (.int z), (.ref r3)])) (fun tZ kZ => XS.land X7.here hx rfl (hb hby at_275) rfl kZ) ?_
      refine own_by (S' := T7.setTop (mkF m 277 #[.val (.long d), .second, .val (.int p2), .val (.int vn), .val (.ref b1), .val (.ref r3), .val (.int z), .val (.long v), .second, .val (.int (1 : Int32))] [(.int ((((v.toUInt64 >>> ((49 : Int32) &&& 0x3f).toInt64.toUInt64).toInt64) &&& (31 : Int64)).toInt32)), (.int (2 : Int32)), (.int z), (.ref r3)])) (fun tZ kZ => XS.l2i X7.here hx rfl (hb hby at_276) rfl kZ) ?_
      have hq2 : (((((v.toUInt64 >>> ((49 : Int32) &&& 0x3f).toInt64.toUInt64).toInt64) &&& (31 : Int64)).toInt32) : Int32).toInt = ((v.toBitVec.toNat / 2 ^ 49 % 32 : Nat) : Int) := own_chr v 49 49 (by decide) (by decide)
      obtain ⟨_, _, ⟨T8, L8, k8, n8⟩, -, X8, ⟨Lc8, hQ8, l8, y8, z8⟩, st8⟩ := Jvm.LawKit.callS X7 hx (y := (⟨"com/example/idpd/idpd/Base32EncodePinLaw", "at", "(Ljava/lang/String;III)Z"⟩ : MethodName)) hown (mvT hZ (hw _ (List.mem_of_getElem? (i := 114) rfl))) (mvT hZ (hw _ (List.mem_of_getElem? (i := 115) rfl))) (mvT hZ (hw _ (List.mem_of_getElem? (i := 116) rfl))) (mvT hZ (hw _ (List.mem_of_getElem? (i := 117) rfl))) (by decide) (backOf (W := 0) (rmAt l Z a0 hw [] r3 t3 z cz cs (2 : Int32) ((((v.toUInt64 >>> ((49 : Int32) &&& 0x3f).toInt64.toUInt64).toInt64) &&& (31 : Int64)).toInt32) fm T3.heap n0 Zs3 Er3 Fr3 Fc3 Ars Szs hz0 (Sc.ext ExK3) hcz (Sf.ext ExK3) rf (by decide) (fun hc => ⟨idx D N 2, idx_lt D N 2, by rw [hq2, own_chk2 D N _ hN8 (own_jz hc hzl) hV], OwnA.at (j := (2 : Int32)) hls (encL_at D N 2 (own_jz hc hzl))⟩)) hZ (hw _ (List.mem_of_getElem? (i := 117) rfl)) (hw _ (List.mem_of_getElem? (i := 116) rfl)) (by decide) (by decide)) (g := (mkF m 277 #[.val (.long d), .second, .val (.int p2), .val (.int vn), .val (.ref b1), .val (.ref r3), .val (.int z), .val (.long v), .second, .val (.int (1 : Int32))] [(.int ((((v.toUInt64 >>> ((49 : Int32) &&& 0x3f).toInt64.toUInt64).toInt64) &&& (31 : Int64)).toInt32)), (.int (2 : Int32)), (.int z), (.ref r3)])) rfl (by rw [hml]; rfl) (argsL := [(.ref r3), (.int z), (.int (2 : Int32)), (.int ((((v.toUInt64 >>> ((49 : Int32) &&& 0x3f).toInt64.toUInt64).toInt64) &&& (31 : Int64)).toInt32))]) (rest := []) (lenOf pd_17 rfl) rfl (by show 2 * 0 + _ ≤ _; exact Nat.le_of_eq rfl) (hb hby at_277) (fun _ _ => ⟨rfl, heq7, (by decide : 5 + 0 ≤ _), (by decide : 42 + 0 ≤ _)⟩)
      dsimp only [Pt.U, Pt.locs, Pt.cells, Pt.slots] at X8 l8 y8 z8 st8 hQ8
      subst l8 y8 z8
      obtain ⟨rfl, N8q, heq8⟩ := hQ8
      have N8 := Fr.app N7 N8q
      refine own_by (S' := T8.setTop (mkF m 280 #[.val (.long d), .second, .val (.int p2), .val (.int vn), .val (.ref b1), .val (.ref r3), .val (.int z), .val (.long v), .second, .val (.int (1 : Int32))] [(.int (1 : Int32))])) (fun tZ kZ => st8 _ kZ) ?_
      refine own_by (S' := T8.setTop (mkF m 283 #[.val (.long d), .second, .val (.int p2), .val (.int vn), .val (.ref b1), .val (.ref r3), .val (.int z), .val (.long v), .second, .val (.int (1 : Int32))] [])) (fun tZ kZ => XS.ifNo X8.here hx rfl (hb hby at_280) rfl ((if0 _ _).trans (feq (by decide)).1) kZ) ?_
      refine own_by (S' := T8.setTop (mkF m 284 #[.val (.long d), .second, .val (.int p2), .val (.int vn), .val (.ref b1), .val (.ref r3), .val (.int z), .val (.long v), .second, .val (.int (1 : Int32))] [(.int (1 : Int32))])) (fun tZ kZ => XS.iconst X8.here hx rfl (hb hby at_283) kZ) ?_
      refine own_by (S' := T8.setTop (mkF m 288 #[.val (.long d), .second, .val (.int p2), .val (.int vn), .val (.ref b1), .val (.ref r3), .val (.int z), .val (.long v), .second, .val (.int (1 : Int32))] [(.int (1 : Int32))])) (fun tZ kZ => XS.goto X8.here hx rfl (pc0 := 284) (pc' := 288) rfl (hb hby at_284) (by decide) (by decide) kZ) ?_
      refine own_by (S' := T8.setTop (mkF m 290 #[.val (.long d), .second, .val (.int p2), .val (.int vn), .val (.ref b1), .val (.ref r3), .val (.int z), .val (.long v), .second, .val (.int (1 : Int32))] [])) (fun tZ kZ => XS.istore X8.here hx rfl (hb hby at_288) rfl (l' := #[.val (.long d), .second, .val (.int p2), .val (.int vn), .val (.ref b1), .val (.ref r3), .val (.int z), .val (.long v), .second, .val (.int (1 : Int32))]) rfl kZ) ?_
      refine own_by (S' := T8.setTop (mkF m 292 #[.val (.long d), .second, .val (.int p2), .val (.int vn), .val (.ref b1), .val (.ref r3), .val (.int z), .val (.long v), .second, .val (.int (1 : Int32))] [(.int (1 : Int32))])) (fun tZ kZ => XS.iload X8.here hx rfl (hb hby at_290) rfl kZ) ?_
      refine own_by (S' := T8.setTop (mkF m 295 #[.val (.long d), .second, .val (.int p2), .val (.int vn), .val (.ref b1), .val (.ref r3), .val (.int z), .val (.long v), .second, .val (.int (1 : Int32))] [])) (fun tZ kZ => XS.ifNo X8.here hx rfl (hb hby at_292) rfl ((if0 _ _).trans (feq (by decide)).1) kZ) ?_
      refine own_by (S' := T8.setTop (mkF m 297 #[.val (.long d), .second, .val (.int p2), .val (.int vn), .val (.ref b1), .val (.ref r3), .val (.int z), .val (.long v), .second, .val (.int (1 : Int32))] [(.ref r3)])) (fun tZ kZ => XS.aload X8.here hx rfl (hb hby at_295) rfl rfl kZ) ?_
      refine own_by (S' := T8.setTop (mkF m 299 #[.val (.long d), .second, .val (.int p2), .val (.int vn), .val (.ref b1), .val (.ref r3), .val (.int z), .val (.long v), .second, .val (.int (1 : Int32))] [(.int z), (.ref r3)])) (fun tZ kZ => XS.iload X8.here hx rfl (hb hby at_297) rfl kZ) ?_
      refine own_by (S' := T8.setTop (mkF m 300 #[.val (.long d), .second, .val (.int p2), .val (.int vn), .val (.ref b1), .val (.ref r3), .val (.int z), .val (.long v), .second, .val (.int (1 : Int32))] [(.int (3 : Int32)), (.int z), (.ref r3)])) (fun tZ kZ => XS.iconst X8.here hx rfl (hb hby at_299) kZ) ?_
      refine own_by (S' := T8.setTop (mkF m 302 #[.val (.long d), .second, .val (.int p2), .val (.int vn), .val (.ref b1), .val (.ref r3), .val (.int z), .val (.long v), .second, .val (.int (1 : Int32))] [(.long v), (.int (3 : Int32)), (.int z), (.ref r3)])) (fun tZ kZ => XS.lload X8.here hx rfl (hb hby at_300) rfl kZ) ?_
      refine own_by (S' := T8.setTop (mkF m 304 #[.val (.long d), .second, .val (.int p2), .val (.int vn), .val (.ref b1), .val (.ref r3), .val (.int z), .val (.long v), .second, .val (.int (1 : Int32))] [(.int (44 : Int32)), (.long v), (.int (3 : Int32)), (.int z), (.ref r3)])) (fun tZ kZ => XS.bipush X8.here hx rfl (hb hby at_302) kZ) ?_
      refine own_by (S' := T8.setTop (mkF m 305 #[.val (.long d), .second, .val (.int p2), .val (.int vn), .val (.ref b1), .val (.ref r3), .val (.int z), .val (.long v), .second, .val (.int (1 : Int32))] [(.long ((v.toUInt64 >>> ((44 : Int32) &&& 0x3f).toInt64.toUInt64).toInt64)), (.int (3 : Int32)), (.int z), (.ref r3)])) (fun tZ kZ => XS.lushr X8.here hx rfl (hb hby at_304) rfl kZ) ?_
      refine own_by (S' := T8.setTop (mkF m 308 #[.val (.long d), .second, .val (.int p2), .val (.int vn), .val (.ref b1), .val (.ref r3), .val (.int z), .val (.long v), .second, .val (.int (1 : Int32))] [(.long (31 : Int64)), (.long ((v.toUInt64 >>> ((44 : Int32) &&& 0x3f).toInt64.toUInt64).toInt64)), (.int (3 : Int32)), (.int z), (.ref r3)])) (fun tZ kZ => X8.ldc2Long hx hown (mvT hZ (hw _ (List.mem_of_getElem? (i := 113) rfl))) (g := (mkF m 305 #[.val (.long d), .second, .val (.int p2), .val (.int vn), .val (.ref b1), .val (.ref r3), .val (.int z), .val (.long v), .second, .val (.int (1 : Int32))] [(.long ((v.toUInt64 >>> ((44 : Int32) &&& 0x3f).toInt64.toUInt64).toInt64)), (.int (3 : Int32)), (.int z), (.ref r3)])) rfl (hb hby at_305) _ kZ) ?_
      refine own_by (S' := T8.setTop (mkF m 309 #[.val (.long d), .second, .val (.int p2), .val (.int vn), .val (.ref b1), .val (.ref r3), .val (.int z), .val (.long v), .second, .val (.int (1 : Int32))] [(.long (((v.toUInt64 >>> ((44 : Int32) &&& 0x3f).toInt64.toUInt64).toInt64) &&& (31 : Int64))), (.int (3 : Int32)), (.int z), (.ref r3)])) (fun tZ kZ => XS.land X8.here hx rfl (hb hby at_308) rfl kZ) ?_
      refine own_by (S' := T8.setTop (mkF m 310 #[.val (.long d), .second, .val (.int p2), .val (.int vn), .val (.ref b1), .val (.ref r3), .val (.int z), .val (.long v), .second, .val (.int (1 : Int32))] [(.int ((((v.toUInt64 >>> ((44 : Int32) &&& 0x3f).toInt64.toUInt64).toInt64) &&& (31 : Int64)).toInt32)), (.int (3 : Int32)), (.int z), (.ref r3)])) (fun tZ kZ => XS.l2i X8.here hx rfl (hb hby at_309) rfl kZ) ?_
      have hq3 : (((((v.toUInt64 >>> ((44 : Int32) &&& 0x3f).toInt64.toUInt64).toInt64) &&& (31 : Int64)).toInt32) : Int32).toInt = ((v.toBitVec.toNat / 2 ^ 44 % 32 : Nat) : Int) := own_chr v 44 44 (by decide) (by decide)
      obtain ⟨_, _, ⟨T9, L9, k9, n9⟩, -, X9, ⟨Lc9, hQ9, l9, y9, z9⟩, st9⟩ := Jvm.LawKit.callS X8 hx (y := (⟨"com/example/idpd/idpd/Base32EncodePinLaw", "at", "(Ljava/lang/String;III)Z"⟩ : MethodName)) hown (mvT hZ (hw _ (List.mem_of_getElem? (i := 114) rfl))) (mvT hZ (hw _ (List.mem_of_getElem? (i := 115) rfl))) (mvT hZ (hw _ (List.mem_of_getElem? (i := 116) rfl))) (mvT hZ (hw _ (List.mem_of_getElem? (i := 117) rfl))) (by decide) (backOf (W := 0) (rmAt l Z a0 hw [] r3 t3 z cz cs (3 : Int32) ((((v.toUInt64 >>> ((44 : Int32) &&& 0x3f).toInt64.toUInt64).toInt64) &&& (31 : Int64)).toInt32) fm T3.heap n0 Zs3 Er3 Fr3 Fc3 Ars Szs hz0 (Sc.ext ExK3) hcz (Sf.ext ExK3) rf (by decide) (fun hc => ⟨idx D N 3, idx_lt D N 3, by rw [hq3, own_chk3 D N _ hN8 (own_jz hc hzl) hV], OwnA.at (j := (3 : Int32)) hls (encL_at D N 3 (own_jz hc hzl))⟩)) hZ (hw _ (List.mem_of_getElem? (i := 117) rfl)) (hw _ (List.mem_of_getElem? (i := 116) rfl)) (by decide) (by decide)) (g := (mkF m 310 #[.val (.long d), .second, .val (.int p2), .val (.int vn), .val (.ref b1), .val (.ref r3), .val (.int z), .val (.long v), .second, .val (.int (1 : Int32))] [(.int ((((v.toUInt64 >>> ((44 : Int32) &&& 0x3f).toInt64.toUInt64).toInt64) &&& (31 : Int64)).toInt32)), (.int (3 : Int32)), (.int z), (.ref r3)])) rfl (by rw [hml]; rfl) (argsL := [(.ref r3), (.int z), (.int (3 : Int32)), (.int ((((v.toUInt64 >>> ((44 : Int32) &&& 0x3f).toInt64.toUInt64).toInt64) &&& (31 : Int64)).toInt32))]) (rest := []) (lenOf pd_17 rfl) rfl (by show 2 * 0 + _ ≤ _; exact Nat.le_of_eq rfl) (hb hby at_310) (fun _ _ => ⟨rfl, heq8, (by decide : 5 + 0 ≤ _), (by decide : 42 + 0 ≤ _)⟩)
      dsimp only [Pt.U, Pt.locs, Pt.cells, Pt.slots] at X9 l9 y9 z9 st9 hQ9
      subst l9 y9 z9
      obtain ⟨rfl, N9q, heq9⟩ := hQ9
      have N9 := Fr.app N8 N9q
      refine own_by (S' := T9.setTop (mkF m 313 #[.val (.long d), .second, .val (.int p2), .val (.int vn), .val (.ref b1), .val (.ref r3), .val (.int z), .val (.long v), .second, .val (.int (1 : Int32))] [(.int (1 : Int32))])) (fun tZ kZ => st9 _ kZ) ?_
      refine own_by (S' := T9.setTop (mkF m 316 #[.val (.long d), .second, .val (.int p2), .val (.int vn), .val (.ref b1), .val (.ref r3), .val (.int z), .val (.long v), .second, .val (.int (1 : Int32))] [])) (fun tZ kZ => XS.ifNo X9.here hx rfl (hb hby at_313) rfl ((if0 _ _).trans (feq (by decide)).1) kZ) ?_
      refine own_by (S' := T9.setTop (mkF m 317 #[.val (.long d), .second, .val (.int p2), .val (.int vn), .val (.ref b1), .val (.ref r3), .val (.int z), .val (.long v), .second, .val (.int (1 : Int32))] [(.int (1 : Int32))])) (fun tZ kZ => XS.iconst X9.here hx rfl (hb hby at_316) kZ) ?_
      refine own_by (S' := T9.setTop (mkF m 321 #[.val (.long d), .second, .val (.int p2), .val (.int vn), .val (.ref b1), .val (.ref r3), .val (.int z), .val (.long v), .second, .val (.int (1 : Int32))] [(.int (1 : Int32))])) (fun tZ kZ => XS.goto X9.here hx rfl (pc0 := 317) (pc' := 321) rfl (hb hby at_317) (by decide) (by decide) kZ) ?_
      refine own_by (S' := T9.setTop (mkF m 323 #[.val (.long d), .second, .val (.int p2), .val (.int vn), .val (.ref b1), .val (.ref r3), .val (.int z), .val (.long v), .second, .val (.int (1 : Int32))] [])) (fun tZ kZ => XS.istore X9.here hx rfl (hb hby at_321) rfl (l' := #[.val (.long d), .second, .val (.int p2), .val (.int vn), .val (.ref b1), .val (.ref r3), .val (.int z), .val (.long v), .second, .val (.int (1 : Int32))]) rfl kZ) ?_
      refine own_by (S' := T9.setTop (mkF m 325 #[.val (.long d), .second, .val (.int p2), .val (.int vn), .val (.ref b1), .val (.ref r3), .val (.int z), .val (.long v), .second, .val (.int (1 : Int32))] [(.int (1 : Int32))])) (fun tZ kZ => XS.iload X9.here hx rfl (hb hby at_323) rfl kZ) ?_
      refine own_by (S' := T9.setTop (mkF m 328 #[.val (.long d), .second, .val (.int p2), .val (.int vn), .val (.ref b1), .val (.ref r3), .val (.int z), .val (.long v), .second, .val (.int (1 : Int32))] [])) (fun tZ kZ => XS.ifNo X9.here hx rfl (hb hby at_325) rfl ((if0 _ _).trans (feq (by decide)).1) kZ) ?_
      refine own_by (S' := T9.setTop (mkF m 330 #[.val (.long d), .second, .val (.int p2), .val (.int vn), .val (.ref b1), .val (.ref r3), .val (.int z), .val (.long v), .second, .val (.int (1 : Int32))] [(.ref r3)])) (fun tZ kZ => XS.aload X9.here hx rfl (hb hby at_328) rfl rfl kZ) ?_
      refine own_by (S' := T9.setTop (mkF m 332 #[.val (.long d), .second, .val (.int p2), .val (.int vn), .val (.ref b1), .val (.ref r3), .val (.int z), .val (.long v), .second, .val (.int (1 : Int32))] [(.int z), (.ref r3)])) (fun tZ kZ => XS.iload X9.here hx rfl (hb hby at_330) rfl kZ) ?_
      refine own_by (S' := T9.setTop (mkF m 333 #[.val (.long d), .second, .val (.int p2), .val (.int vn), .val (.ref b1), .val (.ref r3), .val (.int z), .val (.long v), .second, .val (.int (1 : Int32))] [(.int (4 : Int32)), (.int z), (.ref r3)])) (fun tZ kZ => XS.iconst X9.here hx rfl (hb hby at_332) kZ) ?_
      refine own_by (S' := T9.setTop (mkF m 335 #[.val (.long d), .second, .val (.int p2), .val (.int vn), .val (.ref b1), .val (.ref r3), .val (.int z), .val (.long v), .second, .val (.int (1 : Int32))] [(.long v), (.int (4 : Int32)), (.int z), (.ref r3)])) (fun tZ kZ => XS.lload X9.here hx rfl (hb hby at_333) rfl kZ) ?_
      refine own_by (S' := T9.setTop (mkF m 337 #[.val (.long d), .second, .val (.int p2), .val (.int vn), .val (.ref b1), .val (.ref r3), .val (.int z), .val (.long v), .second, .val (.int (1 : Int32))] [(.int (39 : Int32)), (.long v), (.int (4 : Int32)), (.int z), (.ref r3)])) (fun tZ kZ => XS.bipush X9.here hx rfl (hb hby at_335) kZ) ?_
      refine own_by (S' := T9.setTop (mkF m 338 #[.val (.long d), .second, .val (.int p2), .val (.int vn), .val (.ref b1), .val (.ref r3), .val (.int z), .val (.long v), .second, .val (.int (1 : Int32))] [(.long ((v.toUInt64 >>> ((39 : Int32) &&& 0x3f).toInt64.toUInt64).toInt64)), (.int (4 : Int32)), (.int z), (.ref r3)])) (fun tZ kZ => XS.lushr X9.here hx rfl (hb hby at_337) rfl kZ) ?_
      refine own_by (S' := T9.setTop (mkF m 341 #[.val (.long d), .second, .val (.int p2), .val (.int vn), .val (.ref b1), .val (.ref r3), .val (.int z), .val (.long v), .second, .val (.int (1 : Int32))] [(.long (31 : Int64)), (.long ((v.toUInt64 >>> ((39 : Int32) &&& 0x3f).toInt64.toUInt64).toInt64)), (.int (4 : Int32)), (.int z), (.ref r3)])) (fun tZ kZ => X9.ldc2Long hx hown (mvT hZ (hw _ (List.mem_of_getElem? (i := 113) rfl))) (g := (mkF m 338 #[.val (.long d), .second, .val (.int p2), .val (.int vn), .val (.ref b1), .val (.ref r3), .val (.int z), .val (.long v), .second, .val (.int (1 : Int32))] [(.long ((v.toUInt64 >>> ((39 : Int32) &&& 0x3f).toInt64.toUInt64).toInt64)), (.int (4 : Int32)), (.int z), (.ref r3)])) rfl (hb hby at_338) _ kZ) ?_
      refine own_by (S' := T9.setTop (mkF m 342 #[.val (.long d), .second, .val (.int p2), .val (.int vn), .val (.ref b1), .val (.ref r3), .val (.int z), .val (.long v), .second, .val (.int (1 : Int32))] [(.long (((v.toUInt64 >>> ((39 : Int32) &&& 0x3f).toInt64.toUInt64).toInt64) &&& (31 : Int64))), (.int (4 : Int32)), (.int z), (.ref r3)])) (fun tZ kZ => XS.land X9.here hx rfl (hb hby at_341) rfl kZ) ?_
      refine own_by (S' := T9.setTop (mkF m 343 #[.val (.long d), .second, .val (.int p2), .val (.int vn), .val (.ref b1), .val (.ref r3), .val (.int z), .val (.long v), .second, .val (.int (1 : Int32))] [(.int ((((v.toUInt64 >>> ((39 : Int32) &&& 0x3f).toInt64.toUInt64).toInt64) &&& (31 : Int64)).toInt32)), (.int (4 : Int32)), (.int z), (.ref r3)])) (fun tZ kZ => XS.l2i X9.here hx rfl (hb hby at_342) rfl kZ) ?_
      have hq4 : (((((v.toUInt64 >>> ((39 : Int32) &&& 0x3f).toInt64.toUInt64).toInt64) &&& (31 : Int64)).toInt32) : Int32).toInt = ((v.toBitVec.toNat / 2 ^ 39 % 32 : Nat) : Int) := own_chr v 39 39 (by decide) (by decide)
      obtain ⟨_, _, ⟨T10, L10, k10, n10⟩, -, X10, ⟨Lc10, hQ10, l10, y10, z10⟩, st10⟩ := Jvm.LawKit.callS X9 hx (y := (⟨"com/example/idpd/idpd/Base32EncodePinLaw", "at", "(Ljava/lang/String;III)Z"⟩ : MethodName)) hown (mvT hZ (hw _ (List.mem_of_getElem? (i := 114) rfl))) (mvT hZ (hw _ (List.mem_of_getElem? (i := 115) rfl))) (mvT hZ (hw _ (List.mem_of_getElem? (i := 116) rfl))) (mvT hZ (hw _ (List.mem_of_getElem? (i := 117) rfl))) (by decide) (backOf (W := 0) (rmAt l Z a0 hw [] r3 t3 z cz cs (4 : Int32) ((((v.toUInt64 >>> ((39 : Int32) &&& 0x3f).toInt64.toUInt64).toInt64) &&& (31 : Int64)).toInt32) fm T3.heap n0 Zs3 Er3 Fr3 Fc3 Ars Szs hz0 (Sc.ext ExK3) hcz (Sf.ext ExK3) rf (by decide) (fun hc => ⟨idx D N 4, idx_lt D N 4, by rw [hq4, own_chk4 D N _ hN8 (own_jz hc hzl) hV], OwnA.at (j := (4 : Int32)) hls (encL_at D N 4 (own_jz hc hzl))⟩)) hZ (hw _ (List.mem_of_getElem? (i := 117) rfl)) (hw _ (List.mem_of_getElem? (i := 116) rfl)) (by decide) (by decide)) (g := (mkF m 343 #[.val (.long d), .second, .val (.int p2), .val (.int vn), .val (.ref b1), .val (.ref r3), .val (.int z), .val (.long v), .second, .val (.int (1 : Int32))] [(.int ((((v.toUInt64 >>> ((39 : Int32) &&& 0x3f).toInt64.toUInt64).toInt64) &&& (31 : Int64)).toInt32)), (.int (4 : Int32)), (.int z), (.ref r3)])) rfl (by rw [hml]; rfl) (argsL := [(.ref r3), (.int z), (.int (4 : Int32)), (.int ((((v.toUInt64 >>> ((39 : Int32) &&& 0x3f).toInt64.toUInt64).toInt64) &&& (31 : Int64)).toInt32))]) (rest := []) (lenOf pd_17 rfl) rfl (by show 2 * 0 + _ ≤ _; exact Nat.le_of_eq rfl) (hb hby at_343) (fun _ _ => ⟨rfl, heq9, (by decide : 5 + 0 ≤ _), (by decide : 42 + 0 ≤ _)⟩)
      dsimp only [Pt.U, Pt.locs, Pt.cells, Pt.slots] at X10 l10 y10 z10 st10 hQ10
      subst l10 y10 z10
      obtain ⟨rfl, N10q, heq10⟩ := hQ10
      have N10 := Fr.app N9 N10q
      refine own_by (S' := T10.setTop (mkF m 346 #[.val (.long d), .second, .val (.int p2), .val (.int vn), .val (.ref b1), .val (.ref r3), .val (.int z), .val (.long v), .second, .val (.int (1 : Int32))] [(.int (1 : Int32))])) (fun tZ kZ => st10 _ kZ) ?_
      refine own_by (S' := T10.setTop (mkF m 349 #[.val (.long d), .second, .val (.int p2), .val (.int vn), .val (.ref b1), .val (.ref r3), .val (.int z), .val (.long v), .second, .val (.int (1 : Int32))] [])) (fun tZ kZ => XS.ifNo X10.here hx rfl (hb hby at_346) rfl ((if0 _ _).trans (feq (by decide)).1) kZ) ?_
      refine own_by (S' := T10.setTop (mkF m 350 #[.val (.long d), .second, .val (.int p2), .val (.int vn), .val (.ref b1), .val (.ref r3), .val (.int z), .val (.long v), .second, .val (.int (1 : Int32))] [(.int (1 : Int32))])) (fun tZ kZ => XS.iconst X10.here hx rfl (hb hby at_349) kZ) ?_
      refine own_by (S' := T10.setTop (mkF m 354 #[.val (.long d), .second, .val (.int p2), .val (.int vn), .val (.ref b1), .val (.ref r3), .val (.int z), .val (.long v), .second, .val (.int (1 : Int32))] [(.int (1 : Int32))])) (fun tZ kZ => XS.goto X10.here hx rfl (pc0 := 350) (pc' := 354) rfl (hb hby at_350) (by decide) (by decide) kZ) ?_
      refine own_by (S' := T10.setTop (mkF m 356 #[.val (.long d), .second, .val (.int p2), .val (.int vn), .val (.ref b1), .val (.ref r3), .val (.int z), .val (.long v), .second, .val (.int (1 : Int32))] [])) (fun tZ kZ => XS.istore X10.here hx rfl (hb hby at_354) rfl (l' := #[.val (.long d), .second, .val (.int p2), .val (.int vn), .val (.ref b1), .val (.ref r3), .val (.int z), .val (.long v), .second, .val (.int (1 : Int32))]) rfl kZ) ?_
      refine own_by (S' := T10.setTop (mkF m 358 #[.val (.long d), .second, .val (.int p2), .val (.int vn), .val (.ref b1), .val (.ref r3), .val (.int z), .val (.long v), .second, .val (.int (1 : Int32))] [(.int (1 : Int32))])) (fun tZ kZ => XS.iload X10.here hx rfl (hb hby at_356) rfl kZ) ?_
      refine own_by (S' := T10.setTop (mkF m 361 #[.val (.long d), .second, .val (.int p2), .val (.int vn), .val (.ref b1), .val (.ref r3), .val (.int z), .val (.long v), .second, .val (.int (1 : Int32))] [])) (fun tZ kZ => XS.ifNo X10.here hx rfl (hb hby at_358) rfl ((if0 _ _).trans (feq (by decide)).1) kZ) ?_
      refine own_by (S' := T10.setTop (mkF m 363 #[.val (.long d), .second, .val (.int p2), .val (.int vn), .val (.ref b1), .val (.ref r3), .val (.int z), .val (.long v), .second, .val (.int (1 : Int32))] [(.ref r3)])) (fun tZ kZ => XS.aload X10.here hx rfl (hb hby at_361) rfl rfl kZ) ?_
      refine own_by (S' := T10.setTop (mkF m 365 #[.val (.long d), .second, .val (.int p2), .val (.int vn), .val (.ref b1), .val (.ref r3), .val (.int z), .val (.long v), .second, .val (.int (1 : Int32))] [(.int z), (.ref r3)])) (fun tZ kZ => XS.iload X10.here hx rfl (hb hby at_363) rfl kZ) ?_
      refine own_by (S' := T10.setTop (mkF m 366 #[.val (.long d), .second, .val (.int p2), .val (.int vn), .val (.ref b1), .val (.ref r3), .val (.int z), .val (.long v), .second, .val (.int (1 : Int32))] [(.int (5 : Int32)), (.int z), (.ref r3)])) (fun tZ kZ => XS.iconst X10.here hx rfl (hb hby at_365) kZ) ?_
      refine own_by (S' := T10.setTop (mkF m 368 #[.val (.long d), .second, .val (.int p2), .val (.int vn), .val (.ref b1), .val (.ref r3), .val (.int z), .val (.long v), .second, .val (.int (1 : Int32))] [(.long v), (.int (5 : Int32)), (.int z), (.ref r3)])) (fun tZ kZ => XS.lload X10.here hx rfl (hb hby at_366) rfl kZ) ?_
      refine own_by (S' := T10.setTop (mkF m 370 #[.val (.long d), .second, .val (.int p2), .val (.int vn), .val (.ref b1), .val (.ref r3), .val (.int z), .val (.long v), .second, .val (.int (1 : Int32))] [(.int (34 : Int32)), (.long v), (.int (5 : Int32)), (.int z), (.ref r3)])) (fun tZ kZ => XS.bipush X10.here hx rfl (hb hby at_368) kZ) ?_
      refine own_by (S' := T10.setTop (mkF m 371 #[.val (.long d), .second, .val (.int p2), .val (.int vn), .val (.ref b1), .val (.ref r3), .val (.int z), .val (.long v), .second, .val (.int (1 : Int32))] [(.long ((v.toUInt64 >>> ((34 : Int32) &&& 0x3f).toInt64.toUInt64).toInt64)), (.int (5 : Int32)), (.int z), (.ref r3)])) (fun tZ kZ => XS.lushr X10.here hx rfl (hb hby at_370) rfl kZ) ?_
      refine own_by (S' := T10.setTop (mkF m 374 #[.val (.long d), .second, .val (.int p2), .val (.int vn), .val (.ref b1), .val (.ref r3), .val (.int z), .val (.long v), .second, .val (.int (1 : Int32))] [(.long (31 : Int64)), (.long ((v.toUInt64 >>> ((34 : Int32) &&& 0x3f).toInt64.toUInt64).toInt64)), (.int (5 : Int32)), (.int z), (.ref r3)])) (fun tZ kZ => X10.ldc2Long hx hown (mvT hZ (hw _ (List.mem_of_getElem? (i := 113) rfl))) (g := (mkF m 371 #[.val (.long d), .second, .val (.int p2), .val (.int vn), .val (.ref b1), .val (.ref r3), .val (.int z), .val (.long v), .second, .val (.int (1 : Int32))] [(.long ((v.toUInt64 >>> ((34 : Int32) &&& 0x3f).toInt64.toUInt64).toInt64)), (.int (5 : Int32)), (.int z), (.ref r3)])) rfl (hb hby at_371) _ kZ) ?_
      refine own_by (S' := T10.setTop (mkF m 375 #[.val (.long d), .second, .val (.int p2), .val (.int vn), .val (.ref b1), .val (.ref r3), .val (.int z), .val (.long v), .second, .val (.int (1 : Int32))] [(.long (((v.toUInt64 >>> ((34 : Int32) &&& 0x3f).toInt64.toUInt64).toInt64) &&& (31 : Int64))), (.int (5 : Int32)), (.int z), (.ref r3)])) (fun tZ kZ => XS.land X10.here hx rfl (hb hby at_374) rfl kZ) ?_
      refine own_by (S' := T10.setTop (mkF m 376 #[.val (.long d), .second, .val (.int p2), .val (.int vn), .val (.ref b1), .val (.ref r3), .val (.int z), .val (.long v), .second, .val (.int (1 : Int32))] [(.int ((((v.toUInt64 >>> ((34 : Int32) &&& 0x3f).toInt64.toUInt64).toInt64) &&& (31 : Int64)).toInt32)), (.int (5 : Int32)), (.int z), (.ref r3)])) (fun tZ kZ => XS.l2i X10.here hx rfl (hb hby at_375) rfl kZ) ?_
      have hq5 : (((((v.toUInt64 >>> ((34 : Int32) &&& 0x3f).toInt64.toUInt64).toInt64) &&& (31 : Int64)).toInt32) : Int32).toInt = ((v.toBitVec.toNat / 2 ^ 34 % 32 : Nat) : Int) := own_chr v 34 34 (by decide) (by decide)
      obtain ⟨_, _, ⟨T11, L11, k11, n11⟩, -, X11, ⟨Lc11, hQ11, l11, y11, z11⟩, st11⟩ := Jvm.LawKit.callS X10 hx (y := (⟨"com/example/idpd/idpd/Base32EncodePinLaw", "at", "(Ljava/lang/String;III)Z"⟩ : MethodName)) hown (mvT hZ (hw _ (List.mem_of_getElem? (i := 114) rfl))) (mvT hZ (hw _ (List.mem_of_getElem? (i := 115) rfl))) (mvT hZ (hw _ (List.mem_of_getElem? (i := 116) rfl))) (mvT hZ (hw _ (List.mem_of_getElem? (i := 117) rfl))) (by decide) (backOf (W := 0) (rmAt l Z a0 hw [] r3 t3 z cz cs (5 : Int32) ((((v.toUInt64 >>> ((34 : Int32) &&& 0x3f).toInt64.toUInt64).toInt64) &&& (31 : Int64)).toInt32) fm T3.heap n0 Zs3 Er3 Fr3 Fc3 Ars Szs hz0 (Sc.ext ExK3) hcz (Sf.ext ExK3) rf (by decide) (fun hc => ⟨idx D N 5, idx_lt D N 5, by rw [hq5, own_chk5 D N _ hN8 (own_jz hc hzl) hV], OwnA.at (j := (5 : Int32)) hls (encL_at D N 5 (own_jz hc hzl))⟩)) hZ (hw _ (List.mem_of_getElem? (i := 117) rfl)) (hw _ (List.mem_of_getElem? (i := 116) rfl)) (by decide) (by decide)) (g := (mkF m 376 #[.val (.long d), .second, .val (.int p2), .val (.int vn), .val (.ref b1), .val (.ref r3), .val (.int z), .val (.long v), .second, .val (.int (1 : Int32))] [(.int ((((v.toUInt64 >>> ((34 : Int32) &&& 0x3f).toInt64.toUInt64).toInt64) &&& (31 : Int64)).toInt32)), (.int (5 : Int32)), (.int z), (.ref r3)])) rfl (by rw [hml]; rfl) (argsL := [(.ref r3), (.int z), (.int (5 : Int32)), (.int ((((v.toUInt64 >>> ((34 : Int32) &&& 0x3f).toInt64.toUInt64).toInt64) &&& (31 : Int64)).toInt32))]) (rest := []) (lenOf pd_17 rfl) rfl (by show 2 * 0 + _ ≤ _; exact Nat.le_of_eq rfl) (hb hby at_376) (fun _ _ => ⟨rfl, heq10, (by decide : 5 + 0 ≤ _), (by decide : 42 + 0 ≤ _)⟩)
      dsimp only [Pt.U, Pt.locs, Pt.cells, Pt.slots] at X11 l11 y11 z11 st11 hQ11
      subst l11 y11 z11
      obtain ⟨rfl, N11q, heq11⟩ := hQ11
      have N11 := Fr.app N10 N11q
      refine own_by (S' := T11.setTop (mkF m 379 #[.val (.long d), .second, .val (.int p2), .val (.int vn), .val (.ref b1), .val (.ref r3), .val (.int z), .val (.long v), .second, .val (.int (1 : Int32))] [(.int (1 : Int32))])) (fun tZ kZ => st11 _ kZ) ?_
      refine own_by (S' := T11.setTop (mkF m 382 #[.val (.long d), .second, .val (.int p2), .val (.int vn), .val (.ref b1), .val (.ref r3), .val (.int z), .val (.long v), .second, .val (.int (1 : Int32))] [])) (fun tZ kZ => XS.ifNo X11.here hx rfl (hb hby at_379) rfl ((if0 _ _).trans (feq (by decide)).1) kZ) ?_
      refine own_by (S' := T11.setTop (mkF m 383 #[.val (.long d), .second, .val (.int p2), .val (.int vn), .val (.ref b1), .val (.ref r3), .val (.int z), .val (.long v), .second, .val (.int (1 : Int32))] [(.int (1 : Int32))])) (fun tZ kZ => XS.iconst X11.here hx rfl (hb hby at_382) kZ) ?_
      refine own_by (S' := T11.setTop (mkF m 387 #[.val (.long d), .second, .val (.int p2), .val (.int vn), .val (.ref b1), .val (.ref r3), .val (.int z), .val (.long v), .second, .val (.int (1 : Int32))] [(.int (1 : Int32))])) (fun tZ kZ => XS.goto X11.here hx rfl (pc0 := 383) (pc' := 387) rfl (hb hby at_383) (by decide) (by decide) kZ) ?_
      refine own_by (S' := T11.setTop (mkF m 389 #[.val (.long d), .second, .val (.int p2), .val (.int vn), .val (.ref b1), .val (.ref r3), .val (.int z), .val (.long v), .second, .val (.int (1 : Int32))] [])) (fun tZ kZ => XS.istore X11.here hx rfl (hb hby at_387) rfl (l' := #[.val (.long d), .second, .val (.int p2), .val (.int vn), .val (.ref b1), .val (.ref r3), .val (.int z), .val (.long v), .second, .val (.int (1 : Int32))]) rfl kZ) ?_
      refine own_by (S' := T11.setTop (mkF m 391 #[.val (.long d), .second, .val (.int p2), .val (.int vn), .val (.ref b1), .val (.ref r3), .val (.int z), .val (.long v), .second, .val (.int (1 : Int32))] [(.int (1 : Int32))])) (fun tZ kZ => XS.iload X11.here hx rfl (hb hby at_389) rfl kZ) ?_
      refine own_by (S' := T11.setTop (mkF m 394 #[.val (.long d), .second, .val (.int p2), .val (.int vn), .val (.ref b1), .val (.ref r3), .val (.int z), .val (.long v), .second, .val (.int (1 : Int32))] [])) (fun tZ kZ => XS.ifNo X11.here hx rfl (hb hby at_391) rfl ((if0 _ _).trans (feq (by decide)).1) kZ) ?_
      refine own_by (S' := T11.setTop (mkF m 396 #[.val (.long d), .second, .val (.int p2), .val (.int vn), .val (.ref b1), .val (.ref r3), .val (.int z), .val (.long v), .second, .val (.int (1 : Int32))] [(.ref r3)])) (fun tZ kZ => XS.aload X11.here hx rfl (hb hby at_394) rfl rfl kZ) ?_
      refine own_by (S' := T11.setTop (mkF m 398 #[.val (.long d), .second, .val (.int p2), .val (.int vn), .val (.ref b1), .val (.ref r3), .val (.int z), .val (.long v), .second, .val (.int (1 : Int32))] [(.int z), (.ref r3)])) (fun tZ kZ => XS.iload X11.here hx rfl (hb hby at_396) rfl kZ) ?_
      refine own_by (S' := T11.setTop (mkF m 400 #[.val (.long d), .second, .val (.int p2), .val (.int vn), .val (.ref b1), .val (.ref r3), .val (.int z), .val (.long v), .second, .val (.int (1 : Int32))] [(.int (6 : Int32)), (.int z), (.ref r3)])) (fun tZ kZ => XS.bipush X11.here hx rfl (hb hby at_398) kZ) ?_
      refine own_by (S' := T11.setTop (mkF m 402 #[.val (.long d), .second, .val (.int p2), .val (.int vn), .val (.ref b1), .val (.ref r3), .val (.int z), .val (.long v), .second, .val (.int (1 : Int32))] [(.long v), (.int (6 : Int32)), (.int z), (.ref r3)])) (fun tZ kZ => XS.lload X11.here hx rfl (hb hby at_400) rfl kZ) ?_
      refine own_by (S' := T11.setTop (mkF m 404 #[.val (.long d), .second, .val (.int p2), .val (.int vn), .val (.ref b1), .val (.ref r3), .val (.int z), .val (.long v), .second, .val (.int (1 : Int32))] [(.int (29 : Int32)), (.long v), (.int (6 : Int32)), (.int z), (.ref r3)])) (fun tZ kZ => XS.bipush X11.here hx rfl (hb hby at_402) kZ) ?_
      refine own_by (S' := T11.setTop (mkF m 405 #[.val (.long d), .second, .val (.int p2), .val (.int vn), .val (.ref b1), .val (.ref r3), .val (.int z), .val (.long v), .second, .val (.int (1 : Int32))] [(.long ((v.toUInt64 >>> ((29 : Int32) &&& 0x3f).toInt64.toUInt64).toInt64)), (.int (6 : Int32)), (.int z), (.ref r3)])) (fun tZ kZ => XS.lushr X11.here hx rfl (hb hby at_404) rfl kZ) ?_
      refine own_by (S' := T11.setTop (mkF m 408 #[.val (.long d), .second, .val (.int p2), .val (.int vn), .val (.ref b1), .val (.ref r3), .val (.int z), .val (.long v), .second, .val (.int (1 : Int32))] [(.long (31 : Int64)), (.long ((v.toUInt64 >>> ((29 : Int32) &&& 0x3f).toInt64.toUInt64).toInt64)), (.int (6 : Int32)), (.int z), (.ref r3)])) (fun tZ kZ => X11.ldc2Long hx hown (mvT hZ (hw _ (List.mem_of_getElem? (i := 113) rfl))) (g := (mkF m 405 #[.val (.long d), .second, .val (.int p2), .val (.int vn), .val (.ref b1), .val (.ref r3), .val (.int z), .val (.long v), .second, .val (.int (1 : Int32))] [(.long ((v.toUInt64 >>> ((29 : Int32) &&& 0x3f).toInt64.toUInt64).toInt64)), (.int (6 : Int32)), (.int z), (.ref r3)])) rfl (hb hby at_405) _ kZ) ?_
      refine own_by (S' := T11.setTop (mkF m 409 #[.val (.long d), .second, .val (.int p2), .val (.int vn), .val (.ref b1), .val (.ref r3), .val (.int z), .val (.long v), .second, .val (.int (1 : Int32))] [(.long (((v.toUInt64 >>> ((29 : Int32) &&& 0x3f).toInt64.toUInt64).toInt64) &&& (31 : Int64))), (.int (6 : Int32)), (.int z), (.ref r3)])) (fun tZ kZ => XS.land X11.here hx rfl (hb hby at_408) rfl kZ) ?_
      refine own_by (S' := T11.setTop (mkF m 410 #[.val (.long d), .second, .val (.int p2), .val (.int vn), .val (.ref b1), .val (.ref r3), .val (.int z), .val (.long v), .second, .val (.int (1 : Int32))] [(.int ((((v.toUInt64 >>> ((29 : Int32) &&& 0x3f).toInt64.toUInt64).toInt64) &&& (31 : Int64)).toInt32)), (.int (6 : Int32)), (.int z), (.ref r3)])) (fun tZ kZ => XS.l2i X11.here hx rfl (hb hby at_409) rfl kZ) ?_
      have hq6 : (((((v.toUInt64 >>> ((29 : Int32) &&& 0x3f).toInt64.toUInt64).toInt64) &&& (31 : Int64)).toInt32) : Int32).toInt = ((v.toBitVec.toNat / 2 ^ 29 % 32 : Nat) : Int) := own_chr v 29 29 (by decide) (by decide)
      obtain ⟨_, _, ⟨T12, L12, k12, n12⟩, -, X12, ⟨Lc12, hQ12, l12, y12, z12⟩, st12⟩ := Jvm.LawKit.callS X11 hx (y := (⟨"com/example/idpd/idpd/Base32EncodePinLaw", "at", "(Ljava/lang/String;III)Z"⟩ : MethodName)) hown (mvT hZ (hw _ (List.mem_of_getElem? (i := 114) rfl))) (mvT hZ (hw _ (List.mem_of_getElem? (i := 115) rfl))) (mvT hZ (hw _ (List.mem_of_getElem? (i := 116) rfl))) (mvT hZ (hw _ (List.mem_of_getElem? (i := 117) rfl))) (by decide) (backOf (W := 0) (rmAt l Z a0 hw [] r3 t3 z cz cs (6 : Int32) ((((v.toUInt64 >>> ((29 : Int32) &&& 0x3f).toInt64.toUInt64).toInt64) &&& (31 : Int64)).toInt32) fm T3.heap n0 Zs3 Er3 Fr3 Fc3 Ars Szs hz0 (Sc.ext ExK3) hcz (Sf.ext ExK3) rf (by decide) (fun hc => ⟨idx D N 6, idx_lt D N 6, by rw [hq6, own_chk6 D N _ hN8 (own_jz hc hzl) hV], OwnA.at (j := (6 : Int32)) hls (encL_at D N 6 (own_jz hc hzl))⟩)) hZ (hw _ (List.mem_of_getElem? (i := 117) rfl)) (hw _ (List.mem_of_getElem? (i := 116) rfl)) (by decide) (by decide)) (g := (mkF m 410 #[.val (.long d), .second, .val (.int p2), .val (.int vn), .val (.ref b1), .val (.ref r3), .val (.int z), .val (.long v), .second, .val (.int (1 : Int32))] [(.int ((((v.toUInt64 >>> ((29 : Int32) &&& 0x3f).toInt64.toUInt64).toInt64) &&& (31 : Int64)).toInt32)), (.int (6 : Int32)), (.int z), (.ref r3)])) rfl (by rw [hml]; rfl) (argsL := [(.ref r3), (.int z), (.int (6 : Int32)), (.int ((((v.toUInt64 >>> ((29 : Int32) &&& 0x3f).toInt64.toUInt64).toInt64) &&& (31 : Int64)).toInt32))]) (rest := []) (lenOf pd_17 rfl) rfl (by show 2 * 0 + _ ≤ _; exact Nat.le_of_eq rfl) (hb hby at_410) (fun _ _ => ⟨rfl, heq11, (by decide : 5 + 0 ≤ _), (by decide : 42 + 0 ≤ _)⟩)
      dsimp only [Pt.U, Pt.locs, Pt.cells, Pt.slots] at X12 l12 y12 z12 st12 hQ12
      subst l12 y12 z12
      obtain ⟨rfl, N12q, heq12⟩ := hQ12
      have N12 := Fr.app N11 N12q
      refine own_by (S' := T12.setTop (mkF m 413 #[.val (.long d), .second, .val (.int p2), .val (.int vn), .val (.ref b1), .val (.ref r3), .val (.int z), .val (.long v), .second, .val (.int (1 : Int32))] [(.int (1 : Int32))])) (fun tZ kZ => st12 _ kZ) ?_
      refine own_by (S' := T12.setTop (mkF m 416 #[.val (.long d), .second, .val (.int p2), .val (.int vn), .val (.ref b1), .val (.ref r3), .val (.int z), .val (.long v), .second, .val (.int (1 : Int32))] [])) (fun tZ kZ => XS.ifNo X12.here hx rfl (hb hby at_413) rfl ((if0 _ _).trans (feq (by decide)).1) kZ) ?_
      refine own_by (S' := T12.setTop (mkF m 417 #[.val (.long d), .second, .val (.int p2), .val (.int vn), .val (.ref b1), .val (.ref r3), .val (.int z), .val (.long v), .second, .val (.int (1 : Int32))] [(.int (1 : Int32))])) (fun tZ kZ => XS.iconst X12.here hx rfl (hb hby at_416) kZ) ?_
      refine own_by (S' := T12.setTop (mkF m 421 #[.val (.long d), .second, .val (.int p2), .val (.int vn), .val (.ref b1), .val (.ref r3), .val (.int z), .val (.long v), .second, .val (.int (1 : Int32))] [(.int (1 : Int32))])) (fun tZ kZ => XS.goto X12.here hx rfl (pc0 := 417) (pc' := 421) rfl (hb hby at_417) (by decide) (by decide) kZ) ?_
      refine own_by (S' := T12.setTop (mkF m 423 #[.val (.long d), .second, .val (.int p2), .val (.int vn), .val (.ref b1), .val (.ref r3), .val (.int z), .val (.long v), .second, .val (.int (1 : Int32))] [])) (fun tZ kZ => XS.istore X12.here hx rfl (hb hby at_421) rfl (l' := #[.val (.long d), .second, .val (.int p2), .val (.int vn), .val (.ref b1), .val (.ref r3), .val (.int z), .val (.long v), .second, .val (.int (1 : Int32))]) rfl kZ) ?_
      refine own_by (S' := T12.setTop (mkF m 425 #[.val (.long d), .second, .val (.int p2), .val (.int vn), .val (.ref b1), .val (.ref r3), .val (.int z), .val (.long v), .second, .val (.int (1 : Int32))] [(.int (1 : Int32))])) (fun tZ kZ => XS.iload X12.here hx rfl (hb hby at_423) rfl kZ) ?_
      refine own_by (S' := T12.setTop (mkF m 428 #[.val (.long d), .second, .val (.int p2), .val (.int vn), .val (.ref b1), .val (.ref r3), .val (.int z), .val (.long v), .second, .val (.int (1 : Int32))] [])) (fun tZ kZ => XS.ifNo X12.here hx rfl (hb hby at_425) rfl ((if0 _ _).trans (feq (by decide)).1) kZ) ?_
      refine own_by (S' := T12.setTop (mkF m 430 #[.val (.long d), .second, .val (.int p2), .val (.int vn), .val (.ref b1), .val (.ref r3), .val (.int z), .val (.long v), .second, .val (.int (1 : Int32))] [(.ref r3)])) (fun tZ kZ => XS.aload X12.here hx rfl (hb hby at_428) rfl rfl kZ) ?_
      refine own_by (S' := T12.setTop (mkF m 432 #[.val (.long d), .second, .val (.int p2), .val (.int vn), .val (.ref b1), .val (.ref r3), .val (.int z), .val (.long v), .second, .val (.int (1 : Int32))] [(.int z), (.ref r3)])) (fun tZ kZ => XS.iload X12.here hx rfl (hb hby at_430) rfl kZ) ?_
      refine own_by (S' := T12.setTop (mkF m 434 #[.val (.long d), .second, .val (.int p2), .val (.int vn), .val (.ref b1), .val (.ref r3), .val (.int z), .val (.long v), .second, .val (.int (1 : Int32))] [(.int (7 : Int32)), (.int z), (.ref r3)])) (fun tZ kZ => XS.bipush X12.here hx rfl (hb hby at_432) kZ) ?_
      refine own_by (S' := T12.setTop (mkF m 436 #[.val (.long d), .second, .val (.int p2), .val (.int vn), .val (.ref b1), .val (.ref r3), .val (.int z), .val (.long v), .second, .val (.int (1 : Int32))] [(.long v), (.int (7 : Int32)), (.int z), (.ref r3)])) (fun tZ kZ => XS.lload X12.here hx rfl (hb hby at_434) rfl kZ) ?_
      refine own_by (S' := T12.setTop (mkF m 438 #[.val (.long d), .second, .val (.int p2), .val (.int vn), .val (.ref b1), .val (.ref r3), .val (.int z), .val (.long v), .second, .val (.int (1 : Int32))] [(.int (24 : Int32)), (.long v), (.int (7 : Int32)), (.int z), (.ref r3)])) (fun tZ kZ => XS.bipush X12.here hx rfl (hb hby at_436) kZ) ?_
      refine own_by (S' := T12.setTop (mkF m 439 #[.val (.long d), .second, .val (.int p2), .val (.int vn), .val (.ref b1), .val (.ref r3), .val (.int z), .val (.long v), .second, .val (.int (1 : Int32))] [(.long ((v.toUInt64 >>> ((24 : Int32) &&& 0x3f).toInt64.toUInt64).toInt64)), (.int (7 : Int32)), (.int z), (.ref r3)])) (fun tZ kZ => XS.lushr X12.here hx rfl (hb hby at_438) rfl kZ) ?_
      refine own_by (S' := T12.setTop (mkF m 442 #[.val (.long d), .second, .val (.int p2), .val (.int vn), .val (.ref b1), .val (.ref r3), .val (.int z), .val (.long v), .second, .val (.int (1 : Int32))] [(.long (31 : Int64)), (.long ((v.toUInt64 >>> ((24 : Int32) &&& 0x3f).toInt64.toUInt64).toInt64)), (.int (7 : Int32)), (.int z), (.ref r3)])) (fun tZ kZ => X12.ldc2Long hx hown (mvT hZ (hw _ (List.mem_of_getElem? (i := 113) rfl))) (g := (mkF m 439 #[.val (.long d), .second, .val (.int p2), .val (.int vn), .val (.ref b1), .val (.ref r3), .val (.int z), .val (.long v), .second, .val (.int (1 : Int32))] [(.long ((v.toUInt64 >>> ((24 : Int32) &&& 0x3f).toInt64.toUInt64).toInt64)), (.int (7 : Int32)), (.int z), (.ref r3)])) rfl (hb hby at_439) _ kZ) ?_
      refine own_by (S' := T12.setTop (mkF m 443 #[.val (.long d), .second, .val (.int p2), .val (.int vn), .val (.ref b1), .val (.ref r3), .val (.int z), .val (.long v), .second, .val (.int (1 : Int32))] [(.long (((v.toUInt64 >>> ((24 : Int32) &&& 0x3f).toInt64.toUInt64).toInt64) &&& (31 : Int64))), (.int (7 : Int32)), (.int z), (.ref r3)])) (fun tZ kZ => XS.land X12.here hx rfl (hb hby at_442) rfl kZ) ?_
      refine own_by (S' := T12.setTop (mkF m 444 #[.val (.long d), .second, .val (.int p2), .val (.int vn), .val (.ref b1), .val (.ref r3), .val (.int z), .val (.long v), .second, .val (.int (1 : Int32))] [(.int ((((v.toUInt64 >>> ((24 : Int32) &&& 0x3f).toInt64.toUInt64).toInt64) &&& (31 : Int64)).toInt32)), (.int (7 : Int32)), (.int z), (.ref r3)])) (fun tZ kZ => XS.l2i X12.here hx rfl (hb hby at_443) rfl kZ) ?_
      have hq7 : (((((v.toUInt64 >>> ((24 : Int32) &&& 0x3f).toInt64.toUInt64).toInt64) &&& (31 : Int64)).toInt32) : Int32).toInt = ((v.toBitVec.toNat / 2 ^ 24 % 32 : Nat) : Int) := own_chr v 24 24 (by decide) (by decide)
      obtain ⟨_, _, ⟨T13, L13, k13, n13⟩, -, X13, ⟨Lc13, hQ13, l13, y13, z13⟩, st13⟩ := Jvm.LawKit.callS X12 hx (y := (⟨"com/example/idpd/idpd/Base32EncodePinLaw", "at", "(Ljava/lang/String;III)Z"⟩ : MethodName)) hown (mvT hZ (hw _ (List.mem_of_getElem? (i := 114) rfl))) (mvT hZ (hw _ (List.mem_of_getElem? (i := 115) rfl))) (mvT hZ (hw _ (List.mem_of_getElem? (i := 116) rfl))) (mvT hZ (hw _ (List.mem_of_getElem? (i := 117) rfl))) (by decide) (backOf (W := 0) (rmAt l Z a0 hw [] r3 t3 z cz cs (7 : Int32) ((((v.toUInt64 >>> ((24 : Int32) &&& 0x3f).toInt64.toUInt64).toInt64) &&& (31 : Int64)).toInt32) fm T3.heap n0 Zs3 Er3 Fr3 Fc3 Ars Szs hz0 (Sc.ext ExK3) hcz (Sf.ext ExK3) rf (by decide) (fun hc => ⟨idx D N 7, idx_lt D N 7, by rw [hq7, own_chk7 D N _ hN8 (own_jz hc hzl) hV], OwnA.at (j := (7 : Int32)) hls (encL_at D N 7 (own_jz hc hzl))⟩)) hZ (hw _ (List.mem_of_getElem? (i := 117) rfl)) (hw _ (List.mem_of_getElem? (i := 116) rfl)) (by decide) (by decide)) (g := (mkF m 444 #[.val (.long d), .second, .val (.int p2), .val (.int vn), .val (.ref b1), .val (.ref r3), .val (.int z), .val (.long v), .second, .val (.int (1 : Int32))] [(.int ((((v.toUInt64 >>> ((24 : Int32) &&& 0x3f).toInt64.toUInt64).toInt64) &&& (31 : Int64)).toInt32)), (.int (7 : Int32)), (.int z), (.ref r3)])) rfl (by rw [hml]; rfl) (argsL := [(.ref r3), (.int z), (.int (7 : Int32)), (.int ((((v.toUInt64 >>> ((24 : Int32) &&& 0x3f).toInt64.toUInt64).toInt64) &&& (31 : Int64)).toInt32))]) (rest := []) (lenOf pd_17 rfl) rfl (by show 2 * 0 + _ ≤ _; exact Nat.le_of_eq rfl) (hb hby at_444) (fun _ _ => ⟨rfl, heq12, (by decide : 5 + 0 ≤ _), (by decide : 42 + 0 ≤ _)⟩)
      dsimp only [Pt.U, Pt.locs, Pt.cells, Pt.slots] at X13 l13 y13 z13 st13 hQ13
      subst l13 y13 z13
      obtain ⟨rfl, N13q, heq13⟩ := hQ13
      have N13 := Fr.app N12 N13q
      refine own_by (S' := T13.setTop (mkF m 447 #[.val (.long d), .second, .val (.int p2), .val (.int vn), .val (.ref b1), .val (.ref r3), .val (.int z), .val (.long v), .second, .val (.int (1 : Int32))] [(.int (1 : Int32))])) (fun tZ kZ => st13 _ kZ) ?_
      refine own_by (S' := T13.setTop (mkF m 450 #[.val (.long d), .second, .val (.int p2), .val (.int vn), .val (.ref b1), .val (.ref r3), .val (.int z), .val (.long v), .second, .val (.int (1 : Int32))] [])) (fun tZ kZ => XS.ifNo X13.here hx rfl (hb hby at_447) rfl ((if0 _ _).trans (feq (by decide)).1) kZ) ?_
      refine own_by (S' := T13.setTop (mkF m 451 #[.val (.long d), .second, .val (.int p2), .val (.int vn), .val (.ref b1), .val (.ref r3), .val (.int z), .val (.long v), .second, .val (.int (1 : Int32))] [(.int (1 : Int32))])) (fun tZ kZ => XS.iconst X13.here hx rfl (hb hby at_450) kZ) ?_
      refine own_by (S' := T13.setTop (mkF m 455 #[.val (.long d), .second, .val (.int p2), .val (.int vn), .val (.ref b1), .val (.ref r3), .val (.int z), .val (.long v), .second, .val (.int (1 : Int32))] [(.int (1 : Int32))])) (fun tZ kZ => XS.goto X13.here hx rfl (pc0 := 451) (pc' := 455) rfl (hb hby at_451) (by decide) (by decide) kZ) ?_
      refine own_by (S' := T13.setTop (mkF m 457 #[.val (.long d), .second, .val (.int p2), .val (.int vn), .val (.ref b1), .val (.ref r3), .val (.int z), .val (.long v), .second, .val (.int (1 : Int32))] [])) (fun tZ kZ => XS.istore X13.here hx rfl (hb hby at_455) rfl (l' := #[.val (.long d), .second, .val (.int p2), .val (.int vn), .val (.ref b1), .val (.ref r3), .val (.int z), .val (.long v), .second, .val (.int (1 : Int32))]) rfl kZ) ?_
      refine own_by (S' := T13.setTop (mkF m 459 #[.val (.long d), .second, .val (.int p2), .val (.int vn), .val (.ref b1), .val (.ref r3), .val (.int z), .val (.long v), .second, .val (.int (1 : Int32))] [(.int (1 : Int32))])) (fun tZ kZ => XS.iload X13.here hx rfl (hb hby at_457) rfl kZ) ?_
      refine own_by (S' := T13.setTop (mkF m 462 #[.val (.long d), .second, .val (.int p2), .val (.int vn), .val (.ref b1), .val (.ref r3), .val (.int z), .val (.long v), .second, .val (.int (1 : Int32))] [])) (fun tZ kZ => XS.ifNo X13.here hx rfl (hb hby at_459) rfl ((if0 _ _).trans (feq (by decide)).1) kZ) ?_
      refine own_by (S' := T13.setTop (mkF m 464 #[.val (.long d), .second, .val (.int p2), .val (.int vn), .val (.ref b1), .val (.ref r3), .val (.int z), .val (.long v), .second, .val (.int (1 : Int32))] [(.ref r3)])) (fun tZ kZ => XS.aload X13.here hx rfl (hb hby at_462) rfl rfl kZ) ?_
      refine own_by (S' := T13.setTop (mkF m 466 #[.val (.long d), .second, .val (.int p2), .val (.int vn), .val (.ref b1), .val (.ref r3), .val (.int z), .val (.long v), .second, .val (.int (1 : Int32))] [(.int z), (.ref r3)])) (fun tZ kZ => XS.iload X13.here hx rfl (hb hby at_464) rfl kZ) ?_
      refine own_by (S' := T13.setTop (mkF m 468 #[.val (.long d), .second, .val (.int p2), .val (.int vn), .val (.ref b1), .val (.ref r3), .val (.int z), .val (.long v), .second, .val (.int (1 : Int32))] [(.int (8 : Int32)), (.int z), (.ref r3)])) (fun tZ kZ => XS.bipush X13.here hx rfl (hb hby at_466) kZ) ?_
      refine own_by (S' := T13.setTop (mkF m 470 #[.val (.long d), .second, .val (.int p2), .val (.int vn), .val (.ref b1), .val (.ref r3), .val (.int z), .val (.long v), .second, .val (.int (1 : Int32))] [(.long v), (.int (8 : Int32)), (.int z), (.ref r3)])) (fun tZ kZ => XS.lload X13.here hx rfl (hb hby at_468) rfl kZ) ?_
      refine own_by (S' := T13.setTop (mkF m 472 #[.val (.long d), .second, .val (.int p2), .val (.int vn), .val (.ref b1), .val (.ref r3), .val (.int z), .val (.long v), .second, .val (.int (1 : Int32))] [(.int (19 : Int32)), (.long v), (.int (8 : Int32)), (.int z), (.ref r3)])) (fun tZ kZ => XS.bipush X13.here hx rfl (hb hby at_470) kZ) ?_
      refine own_by (S' := T13.setTop (mkF m 473 #[.val (.long d), .second, .val (.int p2), .val (.int vn), .val (.ref b1), .val (.ref r3), .val (.int z), .val (.long v), .second, .val (.int (1 : Int32))] [(.long ((v.toUInt64 >>> ((19 : Int32) &&& 0x3f).toInt64.toUInt64).toInt64)), (.int (8 : Int32)), (.int z), (.ref r3)])) (fun tZ kZ => XS.lushr X13.here hx rfl (hb hby at_472) rfl kZ) ?_
      refine own_by (S' := T13.setTop (mkF m 476 #[.val (.long d), .second, .val (.int p2), .val (.int vn), .val (.ref b1), .val (.ref r3), .val (.int z), .val (.long v), .second, .val (.int (1 : Int32))] [(.long (31 : Int64)), (.long ((v.toUInt64 >>> ((19 : Int32) &&& 0x3f).toInt64.toUInt64).toInt64)), (.int (8 : Int32)), (.int z), (.ref r3)])) (fun tZ kZ => X13.ldc2Long hx hown (mvT hZ (hw _ (List.mem_of_getElem? (i := 113) rfl))) (g := (mkF m 473 #[.val (.long d), .second, .val (.int p2), .val (.int vn), .val (.ref b1), .val (.ref r3), .val (.int z), .val (.long v), .second, .val (.int (1 : Int32))] [(.long ((v.toUInt64 >>> ((19 : Int32) &&& 0x3f).toInt64.toUInt64).toInt64)), (.int (8 : Int32)), (.int z), (.ref r3)])) rfl (hb hby at_473) _ kZ) ?_
      refine own_by (S' := T13.setTop (mkF m 477 #[.val (.long d), .second, .val (.int p2), .val (.int vn), .val (.ref b1), .val (.ref r3), .val (.int z), .val (.long v), .second, .val (.int (1 : Int32))] [(.long (((v.toUInt64 >>> ((19 : Int32) &&& 0x3f).toInt64.toUInt64).toInt64) &&& (31 : Int64))), (.int (8 : Int32)), (.int z), (.ref r3)])) (fun tZ kZ => XS.land X13.here hx rfl (hb hby at_476) rfl kZ) ?_
      refine own_by (S' := T13.setTop (mkF m 478 #[.val (.long d), .second, .val (.int p2), .val (.int vn), .val (.ref b1), .val (.ref r3), .val (.int z), .val (.long v), .second, .val (.int (1 : Int32))] [(.int ((((v.toUInt64 >>> ((19 : Int32) &&& 0x3f).toInt64.toUInt64).toInt64) &&& (31 : Int64)).toInt32)), (.int (8 : Int32)), (.int z), (.ref r3)])) (fun tZ kZ => XS.l2i X13.here hx rfl (hb hby at_477) rfl kZ) ?_
      have hq8 : (((((v.toUInt64 >>> ((19 : Int32) &&& 0x3f).toInt64.toUInt64).toInt64) &&& (31 : Int64)).toInt32) : Int32).toInt = ((v.toBitVec.toNat / 2 ^ 19 % 32 : Nat) : Int) := own_chr v 19 19 (by decide) (by decide)
      obtain ⟨_, _, ⟨T14, L14, k14, n14⟩, -, X14, ⟨Lc14, hQ14, l14, y14, z14⟩, st14⟩ := Jvm.LawKit.callS X13 hx (y := (⟨"com/example/idpd/idpd/Base32EncodePinLaw", "at", "(Ljava/lang/String;III)Z"⟩ : MethodName)) hown (mvT hZ (hw _ (List.mem_of_getElem? (i := 114) rfl))) (mvT hZ (hw _ (List.mem_of_getElem? (i := 115) rfl))) (mvT hZ (hw _ (List.mem_of_getElem? (i := 116) rfl))) (mvT hZ (hw _ (List.mem_of_getElem? (i := 117) rfl))) (by decide) (backOf (W := 0) (rmAt l Z a0 hw [] r3 t3 z cz cs (8 : Int32) ((((v.toUInt64 >>> ((19 : Int32) &&& 0x3f).toInt64.toUInt64).toInt64) &&& (31 : Int64)).toInt32) fm T3.heap n0 Zs3 Er3 Fr3 Fc3 Ars Szs hz0 (Sc.ext ExK3) hcz (Sf.ext ExK3) rf (by decide) (fun hc => ⟨idx D N 8, idx_lt D N 8, by rw [hq8, own_chk8 D N _ hN8 (own_jz hc hzl) hV], OwnA.at (j := (8 : Int32)) hls (encL_at D N 8 (own_jz hc hzl))⟩)) hZ (hw _ (List.mem_of_getElem? (i := 117) rfl)) (hw _ (List.mem_of_getElem? (i := 116) rfl)) (by decide) (by decide)) (g := (mkF m 478 #[.val (.long d), .second, .val (.int p2), .val (.int vn), .val (.ref b1), .val (.ref r3), .val (.int z), .val (.long v), .second, .val (.int (1 : Int32))] [(.int ((((v.toUInt64 >>> ((19 : Int32) &&& 0x3f).toInt64.toUInt64).toInt64) &&& (31 : Int64)).toInt32)), (.int (8 : Int32)), (.int z), (.ref r3)])) rfl (by rw [hml]; rfl) (argsL := [(.ref r3), (.int z), (.int (8 : Int32)), (.int ((((v.toUInt64 >>> ((19 : Int32) &&& 0x3f).toInt64.toUInt64).toInt64) &&& (31 : Int64)).toInt32))]) (rest := []) (lenOf pd_17 rfl) rfl (by show 2 * 0 + _ ≤ _; exact Nat.le_of_eq rfl) (hb hby at_478) (fun _ _ => ⟨rfl, heq13, (by decide : 5 + 0 ≤ _), (by decide : 42 + 0 ≤ _)⟩)
      dsimp only [Pt.U, Pt.locs, Pt.cells, Pt.slots] at X14 l14 y14 z14 st14 hQ14
      subst l14 y14 z14
      obtain ⟨rfl, N14q, heq14⟩ := hQ14
      have N14 := Fr.app N13 N14q
      refine own_by (S' := T14.setTop (mkF m 481 #[.val (.long d), .second, .val (.int p2), .val (.int vn), .val (.ref b1), .val (.ref r3), .val (.int z), .val (.long v), .second, .val (.int (1 : Int32))] [(.int (1 : Int32))])) (fun tZ kZ => st14 _ kZ) ?_
      refine own_by (S' := T14.setTop (mkF m 484 #[.val (.long d), .second, .val (.int p2), .val (.int vn), .val (.ref b1), .val (.ref r3), .val (.int z), .val (.long v), .second, .val (.int (1 : Int32))] [])) (fun tZ kZ => XS.ifNo X14.here hx rfl (hb hby at_481) rfl ((if0 _ _).trans (feq (by decide)).1) kZ) ?_
      refine own_by (S' := T14.setTop (mkF m 485 #[.val (.long d), .second, .val (.int p2), .val (.int vn), .val (.ref b1), .val (.ref r3), .val (.int z), .val (.long v), .second, .val (.int (1 : Int32))] [(.int (1 : Int32))])) (fun tZ kZ => XS.iconst X14.here hx rfl (hb hby at_484) kZ) ?_
      refine own_by (S' := T14.setTop (mkF m 489 #[.val (.long d), .second, .val (.int p2), .val (.int vn), .val (.ref b1), .val (.ref r3), .val (.int z), .val (.long v), .second, .val (.int (1 : Int32))] [(.int (1 : Int32))])) (fun tZ kZ => XS.goto X14.here hx rfl (pc0 := 485) (pc' := 489) rfl (hb hby at_485) (by decide) (by decide) kZ) ?_
      refine own_by (S' := T14.setTop (mkF m 491 #[.val (.long d), .second, .val (.int p2), .val (.int vn), .val (.ref b1), .val (.ref r3), .val (.int z), .val (.long v), .second, .val (.int (1 : Int32))] [])) (fun tZ kZ => XS.istore X14.here hx rfl (hb hby at_489) rfl (l' := #[.val (.long d), .second, .val (.int p2), .val (.int vn), .val (.ref b1), .val (.ref r3), .val (.int z), .val (.long v), .second, .val (.int (1 : Int32))]) rfl kZ) ?_
      refine own_by (S' := T14.setTop (mkF m 493 #[.val (.long d), .second, .val (.int p2), .val (.int vn), .val (.ref b1), .val (.ref r3), .val (.int z), .val (.long v), .second, .val (.int (1 : Int32))] [(.int (1 : Int32))])) (fun tZ kZ => XS.iload X14.here hx rfl (hb hby at_491) rfl kZ) ?_
      refine own_by (S' := T14.setTop (mkF m 496 #[.val (.long d), .second, .val (.int p2), .val (.int vn), .val (.ref b1), .val (.ref r3), .val (.int z), .val (.long v), .second, .val (.int (1 : Int32))] [])) (fun tZ kZ => XS.ifNo X14.here hx rfl (hb hby at_493) rfl ((if0 _ _).trans (feq (by decide)).1) kZ) ?_
      refine own_by (S' := T14.setTop (mkF m 498 #[.val (.long d), .second, .val (.int p2), .val (.int vn), .val (.ref b1), .val (.ref r3), .val (.int z), .val (.long v), .second, .val (.int (1 : Int32))] [(.ref r3)])) (fun tZ kZ => XS.aload X14.here hx rfl (hb hby at_496) rfl rfl kZ) ?_
      refine own_by (S' := T14.setTop (mkF m 500 #[.val (.long d), .second, .val (.int p2), .val (.int vn), .val (.ref b1), .val (.ref r3), .val (.int z), .val (.long v), .second, .val (.int (1 : Int32))] [(.int z), (.ref r3)])) (fun tZ kZ => XS.iload X14.here hx rfl (hb hby at_498) rfl kZ) ?_
      refine own_by (S' := T14.setTop (mkF m 502 #[.val (.long d), .second, .val (.int p2), .val (.int vn), .val (.ref b1), .val (.ref r3), .val (.int z), .val (.long v), .second, .val (.int (1 : Int32))] [(.int (9 : Int32)), (.int z), (.ref r3)])) (fun tZ kZ => XS.bipush X14.here hx rfl (hb hby at_500) kZ) ?_
      refine own_by (S' := T14.setTop (mkF m 504 #[.val (.long d), .second, .val (.int p2), .val (.int vn), .val (.ref b1), .val (.ref r3), .val (.int z), .val (.long v), .second, .val (.int (1 : Int32))] [(.long v), (.int (9 : Int32)), (.int z), (.ref r3)])) (fun tZ kZ => XS.lload X14.here hx rfl (hb hby at_502) rfl kZ) ?_
      refine own_by (S' := T14.setTop (mkF m 506 #[.val (.long d), .second, .val (.int p2), .val (.int vn), .val (.ref b1), .val (.ref r3), .val (.int z), .val (.long v), .second, .val (.int (1 : Int32))] [(.int (14 : Int32)), (.long v), (.int (9 : Int32)), (.int z), (.ref r3)])) (fun tZ kZ => XS.bipush X14.here hx rfl (hb hby at_504) kZ) ?_
      refine own_by (S' := T14.setTop (mkF m 507 #[.val (.long d), .second, .val (.int p2), .val (.int vn), .val (.ref b1), .val (.ref r3), .val (.int z), .val (.long v), .second, .val (.int (1 : Int32))] [(.long ((v.toUInt64 >>> ((14 : Int32) &&& 0x3f).toInt64.toUInt64).toInt64)), (.int (9 : Int32)), (.int z), (.ref r3)])) (fun tZ kZ => XS.lushr X14.here hx rfl (hb hby at_506) rfl kZ) ?_
      refine own_by (S' := T14.setTop (mkF m 510 #[.val (.long d), .second, .val (.int p2), .val (.int vn), .val (.ref b1), .val (.ref r3), .val (.int z), .val (.long v), .second, .val (.int (1 : Int32))] [(.long (31 : Int64)), (.long ((v.toUInt64 >>> ((14 : Int32) &&& 0x3f).toInt64.toUInt64).toInt64)), (.int (9 : Int32)), (.int z), (.ref r3)])) (fun tZ kZ => X14.ldc2Long hx hown (mvT hZ (hw _ (List.mem_of_getElem? (i := 113) rfl))) (g := (mkF m 507 #[.val (.long d), .second, .val (.int p2), .val (.int vn), .val (.ref b1), .val (.ref r3), .val (.int z), .val (.long v), .second, .val (.int (1 : Int32))] [(.long ((v.toUInt64 >>> ((14 : Int32) &&& 0x3f).toInt64.toUInt64).toInt64)), (.int (9 : Int32)), (.int z), (.ref r3)])) rfl (hb hby at_507) _ kZ) ?_
      refine own_by (S' := T14.setTop (mkF m 511 #[.val (.long d), .second, .val (.int p2), .val (.int vn), .val (.ref b1), .val (.ref r3), .val (.int z), .val (.long v), .second, .val (.int (1 : Int32))] [(.long (((v.toUInt64 >>> ((14 : Int32) &&& 0x3f).toInt64.toUInt64).toInt64) &&& (31 : Int64))), (.int (9 : Int32)), (.int z), (.ref r3)])) (fun tZ kZ => XS.land X14.here hx rfl (hb hby at_510) rfl kZ) ?_
      refine own_by (S' := T14.setTop (mkF m 512 #[.val (.long d), .second, .val (.int p2), .val (.int vn), .val (.ref b1), .val (.ref r3), .val (.int z), .val (.long v), .second, .val (.int (1 : Int32))] [(.int ((((v.toUInt64 >>> ((14 : Int32) &&& 0x3f).toInt64.toUInt64).toInt64) &&& (31 : Int64)).toInt32)), (.int (9 : Int32)), (.int z), (.ref r3)])) (fun tZ kZ => XS.l2i X14.here hx rfl (hb hby at_511) rfl kZ) ?_
      have hq9 : (((((v.toUInt64 >>> ((14 : Int32) &&& 0x3f).toInt64.toUInt64).toInt64) &&& (31 : Int64)).toInt32) : Int32).toInt = ((v.toBitVec.toNat / 2 ^ 14 % 32 : Nat) : Int) := own_chr v 14 14 (by decide) (by decide)
      obtain ⟨_, _, ⟨T15, L15, k15, n15⟩, -, X15, ⟨Lc15, hQ15, l15, y15, z15⟩, st15⟩ := Jvm.LawKit.callS X14 hx (y := (⟨"com/example/idpd/idpd/Base32EncodePinLaw", "at", "(Ljava/lang/String;III)Z"⟩ : MethodName)) hown (mvT hZ (hw _ (List.mem_of_getElem? (i := 114) rfl))) (mvT hZ (hw _ (List.mem_of_getElem? (i := 115) rfl))) (mvT hZ (hw _ (List.mem_of_getElem? (i := 116) rfl))) (mvT hZ (hw _ (List.mem_of_getElem? (i := 117) rfl))) (by decide) (backOf (W := 0) (rmAt l Z a0 hw [] r3 t3 z cz cs (9 : Int32) ((((v.toUInt64 >>> ((14 : Int32) &&& 0x3f).toInt64.toUInt64).toInt64) &&& (31 : Int64)).toInt32) fm T3.heap n0 Zs3 Er3 Fr3 Fc3 Ars Szs hz0 (Sc.ext ExK3) hcz (Sf.ext ExK3) rf (by decide) (fun hc => ⟨idx D N 9, idx_lt D N 9, by rw [hq9, own_chk9 D N _ hN8 (own_jz hc hzl) hV], OwnA.at (j := (9 : Int32)) hls (encL_at D N 9 (own_jz hc hzl))⟩)) hZ (hw _ (List.mem_of_getElem? (i := 117) rfl)) (hw _ (List.mem_of_getElem? (i := 116) rfl)) (by decide) (by decide)) (g := (mkF m 512 #[.val (.long d), .second, .val (.int p2), .val (.int vn), .val (.ref b1), .val (.ref r3), .val (.int z), .val (.long v), .second, .val (.int (1 : Int32))] [(.int ((((v.toUInt64 >>> ((14 : Int32) &&& 0x3f).toInt64.toUInt64).toInt64) &&& (31 : Int64)).toInt32)), (.int (9 : Int32)), (.int z), (.ref r3)])) rfl (by rw [hml]; rfl) (argsL := [(.ref r3), (.int z), (.int (9 : Int32)), (.int ((((v.toUInt64 >>> ((14 : Int32) &&& 0x3f).toInt64.toUInt64).toInt64) &&& (31 : Int64)).toInt32))]) (rest := []) (lenOf pd_17 rfl) rfl (by show 2 * 0 + _ ≤ _; exact Nat.le_of_eq rfl) (hb hby at_512) (fun _ _ => ⟨rfl, heq14, (by decide : 5 + 0 ≤ _), (by decide : 42 + 0 ≤ _)⟩)
      dsimp only [Pt.U, Pt.locs, Pt.cells, Pt.slots] at X15 l15 y15 z15 st15 hQ15
      subst l15 y15 z15
      obtain ⟨rfl, N15q, heq15⟩ := hQ15
      have N15 := Fr.app N14 N15q
      refine own_by (S' := T15.setTop (mkF m 515 #[.val (.long d), .second, .val (.int p2), .val (.int vn), .val (.ref b1), .val (.ref r3), .val (.int z), .val (.long v), .second, .val (.int (1 : Int32))] [(.int (1 : Int32))])) (fun tZ kZ => st15 _ kZ) ?_
      refine own_by (S' := T15.setTop (mkF m 518 #[.val (.long d), .second, .val (.int p2), .val (.int vn), .val (.ref b1), .val (.ref r3), .val (.int z), .val (.long v), .second, .val (.int (1 : Int32))] [])) (fun tZ kZ => XS.ifNo X15.here hx rfl (hb hby at_515) rfl ((if0 _ _).trans (feq (by decide)).1) kZ) ?_
      refine own_by (S' := T15.setTop (mkF m 519 #[.val (.long d), .second, .val (.int p2), .val (.int vn), .val (.ref b1), .val (.ref r3), .val (.int z), .val (.long v), .second, .val (.int (1 : Int32))] [(.int (1 : Int32))])) (fun tZ kZ => XS.iconst X15.here hx rfl (hb hby at_518) kZ) ?_
      refine own_by (S' := T15.setTop (mkF m 523 #[.val (.long d), .second, .val (.int p2), .val (.int vn), .val (.ref b1), .val (.ref r3), .val (.int z), .val (.long v), .second, .val (.int (1 : Int32))] [(.int (1 : Int32))])) (fun tZ kZ => XS.goto X15.here hx rfl (pc0 := 519) (pc' := 523) rfl (hb hby at_519) (by decide) (by decide) kZ) ?_
      refine own_by (S' := T15.setTop (mkF m 525 #[.val (.long d), .second, .val (.int p2), .val (.int vn), .val (.ref b1), .val (.ref r3), .val (.int z), .val (.long v), .second, .val (.int (1 : Int32))] [])) (fun tZ kZ => XS.istore X15.here hx rfl (hb hby at_523) rfl (l' := #[.val (.long d), .second, .val (.int p2), .val (.int vn), .val (.ref b1), .val (.ref r3), .val (.int z), .val (.long v), .second, .val (.int (1 : Int32))]) rfl kZ) ?_
      refine own_by (S' := T15.setTop (mkF m 527 #[.val (.long d), .second, .val (.int p2), .val (.int vn), .val (.ref b1), .val (.ref r3), .val (.int z), .val (.long v), .second, .val (.int (1 : Int32))] [(.int (1 : Int32))])) (fun tZ kZ => XS.iload X15.here hx rfl (hb hby at_525) rfl kZ) ?_
      refine own_by (S' := T15.setTop (mkF m 530 #[.val (.long d), .second, .val (.int p2), .val (.int vn), .val (.ref b1), .val (.ref r3), .val (.int z), .val (.long v), .second, .val (.int (1 : Int32))] [])) (fun tZ kZ => XS.ifNo X15.here hx rfl (hb hby at_527) rfl ((if0 _ _).trans (feq (by decide)).1) kZ) ?_
      refine own_by (S' := T15.setTop (mkF m 532 #[.val (.long d), .second, .val (.int p2), .val (.int vn), .val (.ref b1), .val (.ref r3), .val (.int z), .val (.long v), .second, .val (.int (1 : Int32))] [(.ref r3)])) (fun tZ kZ => XS.aload X15.here hx rfl (hb hby at_530) rfl rfl kZ) ?_
      refine own_by (S' := T15.setTop (mkF m 534 #[.val (.long d), .second, .val (.int p2), .val (.int vn), .val (.ref b1), .val (.ref r3), .val (.int z), .val (.long v), .second, .val (.int (1 : Int32))] [(.int z), (.ref r3)])) (fun tZ kZ => XS.iload X15.here hx rfl (hb hby at_532) rfl kZ) ?_
      refine own_by (S' := T15.setTop (mkF m 536 #[.val (.long d), .second, .val (.int p2), .val (.int vn), .val (.ref b1), .val (.ref r3), .val (.int z), .val (.long v), .second, .val (.int (1 : Int32))] [(.int (10 : Int32)), (.int z), (.ref r3)])) (fun tZ kZ => XS.bipush X15.here hx rfl (hb hby at_534) kZ) ?_
      refine own_by (S' := T15.setTop (mkF m 538 #[.val (.long d), .second, .val (.int p2), .val (.int vn), .val (.ref b1), .val (.ref r3), .val (.int z), .val (.long v), .second, .val (.int (1 : Int32))] [(.long v), (.int (10 : Int32)), (.int z), (.ref r3)])) (fun tZ kZ => XS.lload X15.here hx rfl (hb hby at_536) rfl kZ) ?_
      refine own_by (S' := T15.setTop (mkF m 540 #[.val (.long d), .second, .val (.int p2), .val (.int vn), .val (.ref b1), .val (.ref r3), .val (.int z), .val (.long v), .second, .val (.int (1 : Int32))] [(.int (9 : Int32)), (.long v), (.int (10 : Int32)), (.int z), (.ref r3)])) (fun tZ kZ => XS.bipush X15.here hx rfl (hb hby at_538) kZ) ?_
      refine own_by (S' := T15.setTop (mkF m 541 #[.val (.long d), .second, .val (.int p2), .val (.int vn), .val (.ref b1), .val (.ref r3), .val (.int z), .val (.long v), .second, .val (.int (1 : Int32))] [(.long ((v.toUInt64 >>> ((9 : Int32) &&& 0x3f).toInt64.toUInt64).toInt64)), (.int (10 : Int32)), (.int z), (.ref r3)])) (fun tZ kZ => XS.lushr X15.here hx rfl (hb hby at_540) rfl kZ) ?_
      refine own_by (S' := T15.setTop (mkF m 544 #[.val (.long d), .second, .val (.int p2), .val (.int vn), .val (.ref b1), .val (.ref r3), .val (.int z), .val (.long v), .second, .val (.int (1 : Int32))] [(.long (31 : Int64)), (.long ((v.toUInt64 >>> ((9 : Int32) &&& 0x3f).toInt64.toUInt64).toInt64)), (.int (10 : Int32)), (.int z), (.ref r3)])) (fun tZ kZ => X15.ldc2Long hx hown (mvT hZ (hw _ (List.mem_of_getElem? (i := 113) rfl))) (g := (mkF m 541 #[.val (.long d), .second, .val (.int p2), .val (.int vn), .val (.ref b1), .val (.ref r3), .val (.int z), .val (.long v), .second, .val (.int (1 : Int32))] [(.long ((v.toUInt64 >>> ((9 : Int32) &&& 0x3f).toInt64.toUInt64).toInt64)), (.int (10 : Int32)), (.int z), (.ref r3)])) rfl (hb hby at_541) _ kZ) ?_
      refine own_by (S' := T15.setTop (mkF m 545 #[.val (.long d), .second, .val (.int p2), .val (.int vn), .val (.ref b1), .val (.ref r3), .val (.int z), .val (.long v), .second, .val (.int (1 : Int32))] [(.long (((v.toUInt64 >>> ((9 : Int32) &&& 0x3f).toInt64.toUInt64).toInt64) &&& (31 : Int64))), (.int (10 : Int32)), (.int z), (.ref r3)])) (fun tZ kZ => XS.land X15.here hx rfl (hb hby at_544) rfl kZ) ?_
      refine own_by (S' := T15.setTop (mkF m 546 #[.val (.long d), .second, .val (.int p2), .val (.int vn), .val (.ref b1), .val (.ref r3), .val (.int z), .val (.long v), .second, .val (.int (1 : Int32))] [(.int ((((v.toUInt64 >>> ((9 : Int32) &&& 0x3f).toInt64.toUInt64).toInt64) &&& (31 : Int64)).toInt32)), (.int (10 : Int32)), (.int z), (.ref r3)])) (fun tZ kZ => XS.l2i X15.here hx rfl (hb hby at_545) rfl kZ) ?_
      have hq10 : (((((v.toUInt64 >>> ((9 : Int32) &&& 0x3f).toInt64.toUInt64).toInt64) &&& (31 : Int64)).toInt32) : Int32).toInt = ((v.toBitVec.toNat / 2 ^ 9 % 32 : Nat) : Int) := own_chr v 9 9 (by decide) (by decide)
      obtain ⟨_, _, ⟨T16, L16, k16, n16⟩, -, X16, ⟨Lc16, hQ16, l16, y16, z16⟩, st16⟩ := Jvm.LawKit.callS X15 hx (y := (⟨"com/example/idpd/idpd/Base32EncodePinLaw", "at", "(Ljava/lang/String;III)Z"⟩ : MethodName)) hown (mvT hZ (hw _ (List.mem_of_getElem? (i := 114) rfl))) (mvT hZ (hw _ (List.mem_of_getElem? (i := 115) rfl))) (mvT hZ (hw _ (List.mem_of_getElem? (i := 116) rfl))) (mvT hZ (hw _ (List.mem_of_getElem? (i := 117) rfl))) (by decide) (backOf (W := 0) (rmAt l Z a0 hw [] r3 t3 z cz cs (10 : Int32) ((((v.toUInt64 >>> ((9 : Int32) &&& 0x3f).toInt64.toUInt64).toInt64) &&& (31 : Int64)).toInt32) fm T3.heap n0 Zs3 Er3 Fr3 Fc3 Ars Szs hz0 (Sc.ext ExK3) hcz (Sf.ext ExK3) rf (by decide) (fun hc => ⟨idx D N 10, idx_lt D N 10, by rw [hq10, own_chk10 D N _ hN8 (own_jz hc hzl) hV], OwnA.at (j := (10 : Int32)) hls (encL_at D N 10 (own_jz hc hzl))⟩)) hZ (hw _ (List.mem_of_getElem? (i := 117) rfl)) (hw _ (List.mem_of_getElem? (i := 116) rfl)) (by decide) (by decide)) (g := (mkF m 546 #[.val (.long d), .second, .val (.int p2), .val (.int vn), .val (.ref b1), .val (.ref r3), .val (.int z), .val (.long v), .second, .val (.int (1 : Int32))] [(.int ((((v.toUInt64 >>> ((9 : Int32) &&& 0x3f).toInt64.toUInt64).toInt64) &&& (31 : Int64)).toInt32)), (.int (10 : Int32)), (.int z), (.ref r3)])) rfl (by rw [hml]; rfl) (argsL := [(.ref r3), (.int z), (.int (10 : Int32)), (.int ((((v.toUInt64 >>> ((9 : Int32) &&& 0x3f).toInt64.toUInt64).toInt64) &&& (31 : Int64)).toInt32))]) (rest := []) (lenOf pd_17 rfl) rfl (by show 2 * 0 + _ ≤ _; exact Nat.le_of_eq rfl) (hb hby at_546) (fun _ _ => ⟨rfl, heq15, (by decide : 5 + 0 ≤ _), (by decide : 42 + 0 ≤ _)⟩)
      dsimp only [Pt.U, Pt.locs, Pt.cells, Pt.slots] at X16 l16 y16 z16 st16 hQ16
      subst l16 y16 z16
      obtain ⟨rfl, N16q, heq16⟩ := hQ16
      have N16 := Fr.app N15 N16q
      refine own_by (S' := T16.setTop (mkF m 549 #[.val (.long d), .second, .val (.int p2), .val (.int vn), .val (.ref b1), .val (.ref r3), .val (.int z), .val (.long v), .second, .val (.int (1 : Int32))] [(.int (1 : Int32))])) (fun tZ kZ => st16 _ kZ) ?_
      refine own_by (S' := T16.setTop (mkF m 552 #[.val (.long d), .second, .val (.int p2), .val (.int vn), .val (.ref b1), .val (.ref r3), .val (.int z), .val (.long v), .second, .val (.int (1 : Int32))] [])) (fun tZ kZ => XS.ifNo X16.here hx rfl (hb hby at_549) rfl ((if0 _ _).trans (feq (by decide)).1) kZ) ?_
      refine own_by (S' := T16.setTop (mkF m 553 #[.val (.long d), .second, .val (.int p2), .val (.int vn), .val (.ref b1), .val (.ref r3), .val (.int z), .val (.long v), .second, .val (.int (1 : Int32))] [(.int (1 : Int32))])) (fun tZ kZ => XS.iconst X16.here hx rfl (hb hby at_552) kZ) ?_
      refine own_by (S' := T16.setTop (mkF m 557 #[.val (.long d), .second, .val (.int p2), .val (.int vn), .val (.ref b1), .val (.ref r3), .val (.int z), .val (.long v), .second, .val (.int (1 : Int32))] [(.int (1 : Int32))])) (fun tZ kZ => XS.goto X16.here hx rfl (pc0 := 553) (pc' := 557) rfl (hb hby at_553) (by decide) (by decide) kZ) ?_
      refine own_by (S' := T16.setTop (mkF m 559 #[.val (.long d), .second, .val (.int p2), .val (.int vn), .val (.ref b1), .val (.ref r3), .val (.int z), .val (.long v), .second, .val (.int (1 : Int32))] [])) (fun tZ kZ => XS.istore X16.here hx rfl (hb hby at_557) rfl (l' := #[.val (.long d), .second, .val (.int p2), .val (.int vn), .val (.ref b1), .val (.ref r3), .val (.int z), .val (.long v), .second, .val (.int (1 : Int32))]) rfl kZ) ?_
      refine own_by (S' := T16.setTop (mkF m 561 #[.val (.long d), .second, .val (.int p2), .val (.int vn), .val (.ref b1), .val (.ref r3), .val (.int z), .val (.long v), .second, .val (.int (1 : Int32))] [(.int (1 : Int32))])) (fun tZ kZ => XS.iload X16.here hx rfl (hb hby at_559) rfl kZ) ?_
      refine own_by (S' := T16.setTop (mkF m 564 #[.val (.long d), .second, .val (.int p2), .val (.int vn), .val (.ref b1), .val (.ref r3), .val (.int z), .val (.long v), .second, .val (.int (1 : Int32))] [])) (fun tZ kZ => XS.ifNo X16.here hx rfl (hb hby at_561) rfl ((if0 _ _).trans (feq (by decide)).1) kZ) ?_
      refine own_by (S' := T16.setTop (mkF m 566 #[.val (.long d), .second, .val (.int p2), .val (.int vn), .val (.ref b1), .val (.ref r3), .val (.int z), .val (.long v), .second, .val (.int (1 : Int32))] [(.ref r3)])) (fun tZ kZ => XS.aload X16.here hx rfl (hb hby at_564) rfl rfl kZ) ?_
      refine own_by (S' := T16.setTop (mkF m 568 #[.val (.long d), .second, .val (.int p2), .val (.int vn), .val (.ref b1), .val (.ref r3), .val (.int z), .val (.long v), .second, .val (.int (1 : Int32))] [(.int z), (.ref r3)])) (fun tZ kZ => XS.iload X16.here hx rfl (hb hby at_566) rfl kZ) ?_
      refine own_by (S' := T16.setTop (mkF m 570 #[.val (.long d), .second, .val (.int p2), .val (.int vn), .val (.ref b1), .val (.ref r3), .val (.int z), .val (.long v), .second, .val (.int (1 : Int32))] [(.int (11 : Int32)), (.int z), (.ref r3)])) (fun tZ kZ => XS.bipush X16.here hx rfl (hb hby at_568) kZ) ?_
      refine own_by (S' := T16.setTop (mkF m 572 #[.val (.long d), .second, .val (.int p2), .val (.int vn), .val (.ref b1), .val (.ref r3), .val (.int z), .val (.long v), .second, .val (.int (1 : Int32))] [(.long v), (.int (11 : Int32)), (.int z), (.ref r3)])) (fun tZ kZ => XS.lload X16.here hx rfl (hb hby at_570) rfl kZ) ?_
      refine own_by (S' := T16.setTop (mkF m 573 #[.val (.long d), .second, .val (.int p2), .val (.int vn), .val (.ref b1), .val (.ref r3), .val (.int z), .val (.long v), .second, .val (.int (1 : Int32))] [(.int (4 : Int32)), (.long v), (.int (11 : Int32)), (.int z), (.ref r3)])) (fun tZ kZ => XS.iconst X16.here hx rfl (hb hby at_572) kZ) ?_
      refine own_by (S' := T16.setTop (mkF m 574 #[.val (.long d), .second, .val (.int p2), .val (.int vn), .val (.ref b1), .val (.ref r3), .val (.int z), .val (.long v), .second, .val (.int (1 : Int32))] [(.long ((v.toUInt64 >>> ((4 : Int32) &&& 0x3f).toInt64.toUInt64).toInt64)), (.int (11 : Int32)), (.int z), (.ref r3)])) (fun tZ kZ => XS.lushr X16.here hx rfl (hb hby at_573) rfl kZ) ?_
      refine own_by (S' := T16.setTop (mkF m 577 #[.val (.long d), .second, .val (.int p2), .val (.int vn), .val (.ref b1), .val (.ref r3), .val (.int z), .val (.long v), .second, .val (.int (1 : Int32))] [(.long (31 : Int64)), (.long ((v.toUInt64 >>> ((4 : Int32) &&& 0x3f).toInt64.toUInt64).toInt64)), (.int (11 : Int32)), (.int z), (.ref r3)])) (fun tZ kZ => X16.ldc2Long hx hown (mvT hZ (hw _ (List.mem_of_getElem? (i := 113) rfl))) (g := (mkF m 574 #[.val (.long d), .second, .val (.int p2), .val (.int vn), .val (.ref b1), .val (.ref r3), .val (.int z), .val (.long v), .second, .val (.int (1 : Int32))] [(.long ((v.toUInt64 >>> ((4 : Int32) &&& 0x3f).toInt64.toUInt64).toInt64)), (.int (11 : Int32)), (.int z), (.ref r3)])) rfl (hb hby at_574) _ kZ) ?_
      refine own_by (S' := T16.setTop (mkF m 578 #[.val (.long d), .second, .val (.int p2), .val (.int vn), .val (.ref b1), .val (.ref r3), .val (.int z), .val (.long v), .second, .val (.int (1 : Int32))] [(.long (((v.toUInt64 >>> ((4 : Int32) &&& 0x3f).toInt64.toUInt64).toInt64) &&& (31 : Int64))), (.int (11 : Int32)), (.int z), (.ref r3)])) (fun tZ kZ => XS.land X16.here hx rfl (hb hby at_577) rfl kZ) ?_
      refine own_by (S' := T16.setTop (mkF m 579 #[.val (.long d), .second, .val (.int p2), .val (.int vn), .val (.ref b1), .val (.ref r3), .val (.int z), .val (.long v), .second, .val (.int (1 : Int32))] [(.int ((((v.toUInt64 >>> ((4 : Int32) &&& 0x3f).toInt64.toUInt64).toInt64) &&& (31 : Int64)).toInt32)), (.int (11 : Int32)), (.int z), (.ref r3)])) (fun tZ kZ => XS.l2i X16.here hx rfl (hb hby at_578) rfl kZ) ?_
      have hq11 : (((((v.toUInt64 >>> ((4 : Int32) &&& 0x3f).toInt64.toUInt64).toInt64) &&& (31 : Int64)).toInt32) : Int32).toInt = ((v.toBitVec.toNat / 2 ^ 4 % 32 : Nat) : Int) := own_chr v 4 4 (by decide) (by decide)
      obtain ⟨_, _, ⟨T17, L17, k17, n17⟩, -, X17, ⟨Lc17, hQ17, l17, y17, z17⟩, st17⟩ := Jvm.LawKit.callS X16 hx (y := (⟨"com/example/idpd/idpd/Base32EncodePinLaw", "at", "(Ljava/lang/String;III)Z"⟩ : MethodName)) hown (mvT hZ (hw _ (List.mem_of_getElem? (i := 114) rfl))) (mvT hZ (hw _ (List.mem_of_getElem? (i := 115) rfl))) (mvT hZ (hw _ (List.mem_of_getElem? (i := 116) rfl))) (mvT hZ (hw _ (List.mem_of_getElem? (i := 117) rfl))) (by decide) (backOf (W := 0) (rmAt l Z a0 hw [] r3 t3 z cz cs (11 : Int32) ((((v.toUInt64 >>> ((4 : Int32) &&& 0x3f).toInt64.toUInt64).toInt64) &&& (31 : Int64)).toInt32) fm T3.heap n0 Zs3 Er3 Fr3 Fc3 Ars Szs hz0 (Sc.ext ExK3) hcz (Sf.ext ExK3) rf (by decide) (fun hc => ⟨idx D N 11, idx_lt D N 11, by rw [hq11, own_chk11 D N _ hN8 (own_jz hc hzl) hV], OwnA.at (j := (11 : Int32)) hls (encL_at D N 11 (own_jz hc hzl))⟩)) hZ (hw _ (List.mem_of_getElem? (i := 117) rfl)) (hw _ (List.mem_of_getElem? (i := 116) rfl)) (by decide) (by decide)) (g := (mkF m 579 #[.val (.long d), .second, .val (.int p2), .val (.int vn), .val (.ref b1), .val (.ref r3), .val (.int z), .val (.long v), .second, .val (.int (1 : Int32))] [(.int ((((v.toUInt64 >>> ((4 : Int32) &&& 0x3f).toInt64.toUInt64).toInt64) &&& (31 : Int64)).toInt32)), (.int (11 : Int32)), (.int z), (.ref r3)])) rfl (by rw [hml]; rfl) (argsL := [(.ref r3), (.int z), (.int (11 : Int32)), (.int ((((v.toUInt64 >>> ((4 : Int32) &&& 0x3f).toInt64.toUInt64).toInt64) &&& (31 : Int64)).toInt32))]) (rest := []) (lenOf pd_17 rfl) rfl (by show 2 * 0 + _ ≤ _; exact Nat.le_of_eq rfl) (hb hby at_579) (fun _ _ => ⟨rfl, heq16, (by decide : 5 + 0 ≤ _), (by decide : 42 + 0 ≤ _)⟩)
      dsimp only [Pt.U, Pt.locs, Pt.cells, Pt.slots] at X17 l17 y17 z17 st17 hQ17
      subst l17 y17 z17
      obtain ⟨rfl, N17q, heq17⟩ := hQ17
      have N17 := Fr.app N16 N17q
      refine own_by (S' := T17.setTop (mkF m 582 #[.val (.long d), .second, .val (.int p2), .val (.int vn), .val (.ref b1), .val (.ref r3), .val (.int z), .val (.long v), .second, .val (.int (1 : Int32))] [(.int (1 : Int32))])) (fun tZ kZ => st17 _ kZ) ?_
      refine own_by (S' := T17.setTop (mkF m 585 #[.val (.long d), .second, .val (.int p2), .val (.int vn), .val (.ref b1), .val (.ref r3), .val (.int z), .val (.long v), .second, .val (.int (1 : Int32))] [])) (fun tZ kZ => XS.ifNo X17.here hx rfl (hb hby at_582) rfl ((if0 _ _).trans (feq (by decide)).1) kZ) ?_
      refine own_by (S' := T17.setTop (mkF m 586 #[.val (.long d), .second, .val (.int p2), .val (.int vn), .val (.ref b1), .val (.ref r3), .val (.int z), .val (.long v), .second, .val (.int (1 : Int32))] [(.int (1 : Int32))])) (fun tZ kZ => XS.iconst X17.here hx rfl (hb hby at_585) kZ) ?_
      refine own_by (S' := T17.setTop (mkF m 590 #[.val (.long d), .second, .val (.int p2), .val (.int vn), .val (.ref b1), .val (.ref r3), .val (.int z), .val (.long v), .second, .val (.int (1 : Int32))] [(.int (1 : Int32))])) (fun tZ kZ => XS.goto X17.here hx rfl (pc0 := 586) (pc' := 590) rfl (hb hby at_586) (by decide) (by decide) kZ) ?_
      refine own_by (S' := T17.setTop (mkF m 592 #[.val (.long d), .second, .val (.int p2), .val (.int vn), .val (.ref b1), .val (.ref r3), .val (.int z), .val (.long v), .second, .val (.int (1 : Int32))] [])) (fun tZ kZ => XS.istore X17.here hx rfl (hb hby at_590) rfl (l' := #[.val (.long d), .second, .val (.int p2), .val (.int vn), .val (.ref b1), .val (.ref r3), .val (.int z), .val (.long v), .second, .val (.int (1 : Int32))]) rfl kZ) ?_
      refine own_by (S' := T17.setTop (mkF m 594 #[.val (.long d), .second, .val (.int p2), .val (.int vn), .val (.ref b1), .val (.ref r3), .val (.int z), .val (.long v), .second, .val (.int (1 : Int32))] [(.int (1 : Int32))])) (fun tZ kZ => XS.iload X17.here hx rfl (hb hby at_592) rfl kZ) ?_
      refine own_by (S' := T17.setTop (mkF m 597 #[.val (.long d), .second, .val (.int p2), .val (.int vn), .val (.ref b1), .val (.ref r3), .val (.int z), .val (.long v), .second, .val (.int (1 : Int32))] [])) (fun tZ kZ => XS.ifNo X17.here hx rfl (hb hby at_594) rfl ((if0 _ _).trans (feq (by decide)).1) kZ) ?_
      refine own_by (S' := T17.setTop (mkF m 599 #[.val (.long d), .second, .val (.int p2), .val (.int vn), .val (.ref b1), .val (.ref r3), .val (.int z), .val (.long v), .second, .val (.int (1 : Int32))] [(.ref r3)])) (fun tZ kZ => XS.aload X17.here hx rfl (hb hby at_597) rfl rfl kZ) ?_
      refine own_by (S' := T17.setTop (mkF m 601 #[.val (.long d), .second, .val (.int p2), .val (.int vn), .val (.ref b1), .val (.ref r3), .val (.int z), .val (.long v), .second, .val (.int (1 : Int32))] [(.int z), (.ref r3)])) (fun tZ kZ => XS.iload X17.here hx rfl (hb hby at_599) rfl kZ) ?_
      refine own_by (S' := T17.setTop (mkF m 603 #[.val (.long d), .second, .val (.int p2), .val (.int vn), .val (.ref b1), .val (.ref r3), .val (.int z), .val (.long v), .second, .val (.int (1 : Int32))] [(.int (12 : Int32)), (.int z), (.ref r3)])) (fun tZ kZ => XS.bipush X17.here hx rfl (hb hby at_601) kZ) ?_
      refine own_by (S' := T17.setTop (mkF m 605 #[.val (.long d), .second, .val (.int p2), .val (.int vn), .val (.ref b1), .val (.ref r3), .val (.int z), .val (.long v), .second, .val (.int (1 : Int32))] [(.long v), (.int (12 : Int32)), (.int z), (.ref r3)])) (fun tZ kZ => XS.lload X17.here hx rfl (hb hby at_603) rfl kZ) ?_
      refine own_by (S' := T17.setTop (mkF m 608 #[.val (.long d), .second, .val (.int p2), .val (.int vn), .val (.ref b1), .val (.ref r3), .val (.int z), .val (.long v), .second, .val (.int (1 : Int32))] [(.long (15 : Int64)), (.long v), (.int (12 : Int32)), (.int z), (.ref r3)])) (fun tZ kZ => X17.ldc2Long hx hown (mvT hZ (hw _ (List.mem_of_getElem? (i := 142) rfl))) (g := (mkF m 605 #[.val (.long d), .second, .val (.int p2), .val (.int vn), .val (.ref b1), .val (.ref r3), .val (.int z), .val (.long v), .second, .val (.int (1 : Int32))] [(.long v), (.int (12 : Int32)), (.int z), (.ref r3)])) rfl (hb hby at_605) _ kZ) ?_
      refine own_by (S' := T17.setTop (mkF m 609 #[.val (.long d), .second, .val (.int p2), .val (.int vn), .val (.ref b1), .val (.ref r3), .val (.int z), .val (.long v), .second, .val (.int (1 : Int32))] [(.long (v &&& (15 : Int64))), (.int (12 : Int32)), (.int z), (.ref r3)])) (fun tZ kZ => XS.land X17.here hx rfl (hb hby at_608) rfl kZ) ?_
      refine own_by (S' := T17.setTop (mkF m 610 #[.val (.long d), .second, .val (.int p2), .val (.int vn), .val (.ref b1), .val (.ref r3), .val (.int z), .val (.long v), .second, .val (.int (1 : Int32))] [(.int (1 : Int32)), (.long (v &&& (15 : Int64))), (.int (12 : Int32)), (.int z), (.ref r3)])) (fun tZ kZ => XS.iconst X17.here hx rfl (hb hby at_609) kZ) ?_
      refine own_by (S' := T17.setTop (mkF m 611 #[.val (.long d), .second, .val (.int p2), .val (.int vn), .val (.ref b1), .val (.ref r3), .val (.int z), .val (.long v), .second, .val (.int (1 : Int32))] [(.long ((v &&& (15 : Int64)) <<< ((1 : Int32) &&& 0x3f).toInt64)), (.int (12 : Int32)), (.int z), (.ref r3)])) (fun tZ kZ => XS.lshl X17.here hx rfl (hb hby at_610) rfl kZ) ?_
      refine own_by (S' := T17.setTop (mkF m 612 #[.val (.long d), .second, .val (.int p2), .val (.int vn), .val (.ref b1), .val (.ref r3), .val (.int z), .val (.long v), .second, .val (.int (1 : Int32))] [(.int (((v &&& (15 : Int64)) <<< ((1 : Int32) &&& 0x3f).toInt64).toInt32)), (.int (12 : Int32)), (.int z), (.ref r3)])) (fun tZ kZ => XS.l2i X17.here hx rfl (hb hby at_611) rfl kZ) ?_
      have hq12 : ((((v &&& (15 : Int64)) <<< ((1 : Int32) &&& 0x3f).toInt64).toInt32) : Int32).toInt = ((v.toBitVec.toNat % 16 * 2 : Nat) : Int) := own_chr12 v
      obtain ⟨_, _, ⟨T18, L18, k18, n18⟩, -, X18, ⟨Lc18, hQ18, l18, y18, z18⟩, st18⟩ := Jvm.LawKit.callS X17 hx (y := (⟨"com/example/idpd/idpd/Base32EncodePinLaw", "at", "(Ljava/lang/String;III)Z"⟩ : MethodName)) hown (mvT hZ (hw _ (List.mem_of_getElem? (i := 114) rfl))) (mvT hZ (hw _ (List.mem_of_getElem? (i := 115) rfl))) (mvT hZ (hw _ (List.mem_of_getElem? (i := 116) rfl))) (mvT hZ (hw _ (List.mem_of_getElem? (i := 117) rfl))) (by decide) (backOf (W := 0) (rmAt l Z a0 hw [] r3 t3 z cz cs (12 : Int32) (((v &&& (15 : Int64)) <<< ((1 : Int32) &&& 0x3f).toInt64).toInt32) fm T3.heap n0 Zs3 Er3 Fr3 Fc3 Ars Szs hz0 (Sc.ext ExK3) hcz (Sf.ext ExK3) rf (by decide) (fun hc => ⟨idx D N 12, idx_lt D N 12, by rw [hq12, own_chk12 D N _ hN8 (own_jz hc hzl) hV], OwnA.at (j := (12 : Int32)) hls (encL_at D N 12 (own_jz hc hzl))⟩)) hZ (hw _ (List.mem_of_getElem? (i := 117) rfl)) (hw _ (List.mem_of_getElem? (i := 116) rfl)) (by decide) (by decide)) (g := (mkF m 612 #[.val (.long d), .second, .val (.int p2), .val (.int vn), .val (.ref b1), .val (.ref r3), .val (.int z), .val (.long v), .second, .val (.int (1 : Int32))] [(.int (((v &&& (15 : Int64)) <<< ((1 : Int32) &&& 0x3f).toInt64).toInt32)), (.int (12 : Int32)), (.int z), (.ref r3)])) rfl (by rw [hml]; rfl) (argsL := [(.ref r3), (.int z), (.int (12 : Int32)), (.int (((v &&& (15 : Int64)) <<< ((1 : Int32) &&& 0x3f).toInt64).toInt32))]) (rest := []) (lenOf pd_17 rfl) rfl (by show 2 * 0 + _ ≤ _; exact Nat.le_of_eq rfl) (hb hby at_612) (fun _ _ => ⟨rfl, heq17, (by decide : 5 + 0 ≤ _), (by decide : 42 + 0 ≤ _)⟩)
      dsimp only [Pt.U, Pt.locs, Pt.cells, Pt.slots] at X18 l18 y18 z18 st18 hQ18
      subst l18 y18 z18
      obtain ⟨rfl, N18q, heq18⟩ := hQ18
      have N18 := Fr.app N17 N18q
      refine own_by (S' := T18.setTop (mkF m 615 #[.val (.long d), .second, .val (.int p2), .val (.int vn), .val (.ref b1), .val (.ref r3), .val (.int z), .val (.long v), .second, .val (.int (1 : Int32))] [(.int (1 : Int32))])) (fun tZ kZ => st18 _ kZ) ?_
      refine own_by (S' := T18.setTop (mkF m 618 #[.val (.long d), .second, .val (.int p2), .val (.int vn), .val (.ref b1), .val (.ref r3), .val (.int z), .val (.long v), .second, .val (.int (1 : Int32))] [])) (fun tZ kZ => XS.ifNo X18.here hx rfl (hb hby at_615) rfl ((if0 _ _).trans (feq (by decide)).1) kZ) ?_
      refine own_by (S' := T18.setTop (mkF m 619 #[.val (.long d), .second, .val (.int p2), .val (.int vn), .val (.ref b1), .val (.ref r3), .val (.int z), .val (.long v), .second, .val (.int (1 : Int32))] [(.int (1 : Int32))])) (fun tZ kZ => XS.iconst X18.here hx rfl (hb hby at_618) kZ) ?_
      refine own_by (S' := T18.setTop (mkF m 623 #[.val (.long d), .second, .val (.int p2), .val (.int vn), .val (.ref b1), .val (.ref r3), .val (.int z), .val (.long v), .second, .val (.int (1 : Int32))] [(.int (1 : Int32))])) (fun tZ kZ => XS.goto X18.here hx rfl (pc0 := 619) (pc' := 623) rfl (hb hby at_619) (by decide) (by decide) kZ) ?_
      refine own_by (S' := T18.setTop (mkF m 625 #[.val (.long d), .second, .val (.int p2), .val (.int vn), .val (.ref b1), .val (.ref r3), .val (.int z), .val (.long v), .second, .val (.int (1 : Int32))] [])) (fun tZ kZ => XS.istore X18.here hx rfl (hb hby at_623) rfl (l' := #[.val (.long d), .second, .val (.int p2), .val (.int vn), .val (.ref b1), .val (.ref r3), .val (.int z), .val (.long v), .second, .val (.int (1 : Int32))]) rfl kZ) ?_
      refine own_by (S' := T18.setTop (mkF m 627 #[.val (.long d), .second, .val (.int p2), .val (.int vn), .val (.ref b1), .val (.ref r3), .val (.int z), .val (.long v), .second, .val (.int (1 : Int32))] [(.int (1 : Int32))])) (fun tZ kZ => XS.iload X18.here hx rfl (hb hby at_625) rfl kZ) ?_
      exact own_retI X18 hx (t := .boolean) Bd.returns (by simp) rfl (hb hby at_627) Bd.notSynchronized (by decide) (by decide) ⟨rfl, N18⟩
    by_cases h8 : vn = (8 : Int32)
    · refine own_by (S' := T4.setTop (mkF m 168 #[.val (.long d), .second, .val (.int p2), .val (.int vn), .val (.ref b1), .val (.ref r3), .val (.int z), .unset, .unset, .unset] [])) (fun tZ kZ => XS.icmpNo X4.here hx rfl (hb hby at_165) rfl (teq h8).2 kZ) ?_
      have hN88 : N = 8 := by have e : (8 : Int32).toInt = 8 := rfl; rw [h8] at hN; omega
      refine own_by (S' := T4.setTop (mkF m 169 #[.val (.long d), .second, .val (.int p2), .val (.int vn), .val (.ref b1), .val (.ref r3), .val (.int z), .unset, .unset, .unset] [(.long d)])) (fun tZ kZ => XS.lloadN X4.here hx rfl (hb hby at_168) rfl kZ) ?_
      refine own_by (S' := T4.setTop (mkF m 186 #[.val (.long d), .second, .val (.int p2), .val (.int vn), .val (.ref b1), .val (.ref r3), .val (.int z), .unset, .unset, .unset] [(.long d)])) (fun tZ kZ => XS.goto X4.here hx rfl (pc0 := 169) (pc' := 186) rfl (hb hby at_169) (by decide) (by decide) kZ) ?_
      exact J186 _ _ _ d X4 heq4 N4 K3 (by rw [hN88, ← hDd]; simp) rfl
    · refine own_by (S' := T4.setTop (mkF m 172 #[.val (.long d), .second, .val (.int p2), .val (.int vn), .val (.ref b1), .val (.ref r3), .val (.int z), .unset, .unset, .unset] [])) (fun tZ kZ => XS.icmpYes X4.here hx rfl (pc0 := 165) (pc' := 172) rfl (hb hby at_165) rfl (feq h8).2 (by decide) (by decide) kZ) ?_
      have hN7 : N < 8 := by
        have e : (8 : Int32).toInt = 8 := rfl
        have : N ≠ 8 := fun q => h8 (Int32.toInt_inj.mp (by rw [hN, q, e]; rfl))
        omega
      refine own_by (S' := T4.setTop (mkF m 173 #[.val (.long d), .second, .val (.int p2), .val (.int vn), .val (.ref b1), .val (.ref r3), .val (.int z), .unset, .unset, .unset] [(.long d)])) (fun tZ kZ => XS.lloadN X4.here hx rfl (hb hby at_172) rfl kZ) ?_
      refine own_by (S' := T4.setTop (mkF m 176 #[.val (.long d), .second, .val (.int p2), .val (.int vn), .val (.ref b1), .val (.ref r3), .val (.int z), .unset, .unset, .unset] [(.long (-1 : Int64)), (.long d)])) (fun tZ kZ => X4.ldc2Long hx hown (mvT hZ (hw _ (List.mem_of_getElem? (i := 112) rfl))) (g := (mkF m 173 #[.val (.long d), .second, .val (.int p2), .val (.int vn), .val (.ref b1), .val (.ref r3), .val (.int z), .unset, .unset, .unset] [(.long d)])) rfl (hb hby at_173) _ kZ) ?_
      refine own_by (S' := T4.setTop (mkF m 178 #[.val (.long d), .second, .val (.int p2), .val (.int vn), .val (.ref b1), .val (.ref r3), .val (.int z), .unset, .unset, .unset] [(.int (8 : Int32)), (.long (-1 : Int64)), (.long d)])) (fun tZ kZ => XS.bipush X4.here hx rfl (hb hby at_176) kZ) ?_
      refine own_by (S' := T4.setTop (mkF m 179 #[.val (.long d), .second, .val (.int p2), .val (.int vn), .val (.ref b1), .val (.ref r3), .val (.int z), .unset, .unset, .unset] [(.int vn), (.int (8 : Int32)), (.long (-1 : Int64)), (.long d)])) (fun tZ kZ => XS.iloadN X4.here hx rfl (hb hby at_178) rfl kZ) ?_
      refine own_by (S' := T4.setTop (mkF m 180 #[.val (.long d), .second, .val (.int p2), .val (.int vn), .val (.ref b1), .val (.ref r3), .val (.int z), .unset, .unset, .unset] [(.int ((8 : Int32) * vn)), (.long (-1 : Int64)), (.long d)])) (fun tZ kZ => XS.imul X4.here hx rfl (hb hby at_179) rfl kZ) ?_
      refine own_by (S' := T4.setTop (mkF m 181 #[.val (.long d), .second, .val (.int p2), .val (.int vn), .val (.ref b1), .val (.ref r3), .val (.int z), .unset, .unset, .unset] [(.long (((-1 : Int64).toUInt64 >>> (((8 : Int32) * vn) &&& 0x3f).toInt64.toUInt64).toInt64)), (.long d)])) (fun tZ kZ => XS.lushr X4.here hx rfl (hb hby at_180) rfl kZ) ?_
      refine own_by (S' := T4.setTop (mkF m 184 #[.val (.long d), .second, .val (.int p2), .val (.int vn), .val (.ref b1), .val (.ref r3), .val (.int z), .unset, .unset, .unset] [(.long (-1 : Int64)), (.long (((-1 : Int64).toUInt64 >>> (((8 : Int32) * vn) &&& 0x3f).toInt64.toUInt64).toInt64)), (.long d)])) (fun tZ kZ => X4.ldc2Long hx hown (mvT hZ (hw _ (List.mem_of_getElem? (i := 112) rfl))) (g := (mkF m 181 #[.val (.long d), .second, .val (.int p2), .val (.int vn), .val (.ref b1), .val (.ref r3), .val (.int z), .unset, .unset, .unset] [(.long (((-1 : Int64).toUInt64 >>> (((8 : Int32) * vn) &&& 0x3f).toInt64.toUInt64).toInt64)), (.long d)])) rfl (hb hby at_181) _ kZ) ?_
      refine own_by (S' := T4.setTop (mkF m 185 #[.val (.long d), .second, .val (.int p2), .val (.int vn), .val (.ref b1), .val (.ref r3), .val (.int z), .unset, .unset, .unset] [(.long ((((-1 : Int64).toUInt64 >>> (((8 : Int32) * vn) &&& 0x3f).toInt64.toUInt64).toInt64) ^^^ (-1 : Int64))), (.long d)])) (fun tZ kZ => XS.lxor X4.here hx rfl (hb hby at_184) rfl kZ) ?_
      refine own_by (S' := T4.setTop (mkF m 186 #[.val (.long d), .second, .val (.int p2), .val (.int vn), .val (.ref b1), .val (.ref r3), .val (.int z), .unset, .unset, .unset] [(.long (d &&& ((((-1 : Int64).toUInt64 >>> (((8 : Int32) * vn) &&& 0x3f).toInt64.toUInt64).toInt64) ^^^ (-1 : Int64))))])) (fun tZ kZ => XS.land X4.here hx rfl (hb hby at_185) rfl kZ) ?_
      exact J186 _ _ _ (d &&& ((((-1 : Int64).toUInt64 >>> (((8 : Int32) * vn) &&& 0x3f).toInt64.toUInt64).toInt64) ^^^ (-1 : Int64))) X4 heq4 N4 K3 (by rw [hDd]; exact own_vm d vn N hN hN7) rfl
  have Jf7 : ∀ (Tj19 : State) (Lj19 : List Loc) (hj19 : Heap) (vs : List Value) (Xj19 : Stand p l e room_1 s m #[(.long d), (.int p2)] below meth c Tj19 Lj19 1 8) (ej19 : Tj19.heap = hj19) (Nj19 : Fr n0 Lj19) (Kj19 : Keep h0 hj19 []) (V_b1 : OwnA Z hj19 b1 k1 .byte vs) (hl : vs.length = N) (hP : ∀ j, j < 7 → j < N → ByteAt D vs j), OwnG p e below (OwnE s (Q0  h0 n0) room_1.cells room_1.slots) (Tj19.setTop (mkF m 119 #[.val (.long d), .second, .val (.int p2), .val (.int vn), .val (.ref b1), .unset, .unset, .unset, .unset, .unset] [])) := by
    intro Tj19 Lj19 hj19 vs Xj19 ej19 Nj19 Kj19 V_b1 hl hP
    refine own_by (S' := Tj19.setTop (mkF m 120 #[.val (.long d), .second, .val (.int p2), .val (.int vn), .val (.ref b1), .unset, .unset, .unset, .unset, .unset] [(.int vn)])) (fun tZ kZ => XS.iloadN Xj19.here hx rfl (hb hby at_119) rfl kZ) ?_
    refine own_by (S' := Tj19.setTop (mkF m 122 #[.val (.long d), .second, .val (.int p2), .val (.int vn), .val (.ref b1), .unset, .unset, .unset, .unset, .unset] [(.int (7 : Int32)), (.int vn)])) (fun tZ kZ => XS.bipush Xj19.here hx rfl (hb hby at_120) kZ) ?_
    by_cases hcf : (7 : Int32) < vn
    · refine own_by (S' := Tj19.setTop (mkF m 125 #[.val (.long d), .second, .val (.int p2), .val (.int vn), .val (.ref b1), .unset, .unset, .unset, .unset, .unset] [])) (fun tZ kZ => XS.icmpNo Xj19.here hx rfl (hb hby at_122) rfl (tlt hcf).2.2.2 kZ) ?_
      have hni : 7 < N := by rw [own_ltI] at hcf; have e : (7 : Int32).toInt = 7 := rfl; omega
      refine own_by (S' := Tj19.setTop (mkF m 127 #[.val (.long d), .second, .val (.int p2), .val (.int vn), .val (.ref b1), .unset, .unset, .unset, .unset, .unset] [(.ref b1)])) (fun tZ kZ => XS.aload Xj19.here hx rfl (hb hby at_125) rfl rfl kZ) ?_
      refine own_by (S' := Tj19.setTop (mkF m 129 #[.val (.long d), .second, .val (.int p2), .val (.int vn), .val (.ref b1), .unset, .unset, .unset, .unset, .unset] [(.int (7 : Int32)), (.ref b1)])) (fun tZ kZ => XS.bipush Xj19.here hx rfl (hb hby at_127) kZ) ?_
      refine own_by (S' := Tj19.setTop (mkF m 130 #[.val (.long d), .second, .val (.int p2), .val (.int vn), .val (.ref b1), .unset, .unset, .unset, .unset, .unset] [(.long d), (.int (7 : Int32)), (.ref b1)])) (fun tZ kZ => XS.lloadN Xj19.here hx rfl (hb hby at_129) rfl kZ) ?_
      refine own_by (S' := Tj19.setTop (mkF m 131 #[.val (.long d), .second, .val (.int p2), .val (.int vn), .val (.ref b1), .unset, .unset, .unset, .unset, .unset] [(.int (d.toInt32)), (.int (7 : Int32)), (.ref b1)])) (fun tZ kZ => XS.l2i Xj19.here hx rfl (hb hby at_130) rfl kZ) ?_
      refine own_by (S' := Tj19.setTop (mkF m 132 #[.val (.long d), .second, .val (.int p2), .val (.int vn), .val (.ref b1), .unset, .unset, .unset, .unset, .unset] [(.int ((d.toInt32).toInt8.toInt32)), (.int (7 : Int32)), (.ref b1)])) (fun tZ kZ => XS.i2b Xj19.here hx rfl (hb hby at_131) rfl kZ) ?_
      obtain ⟨cc20, Ar20, hc20, hl20⟩ := id V_b1
      have hin20 := OwnA.inb (j := (7 : Int32)) hl20 (by decide) (by rw [hl]; exact hni)
      obtain ⟨T20, h20, X20, e20, W20, st20⟩ := stB Xj19 hx hZ ej19 Ar20 (j := (7 : Int32)) hin20 (g := (mkF m 132 #[.val (.long d), .second, .val (.int p2), .val (.int vn), .val (.ref b1), .unset, .unset, .unset, .unset, .unset] [(.int ((d.toInt32).toInt8.toInt32)), (.int (7 : Int32)), (.ref b1)])) rfl rfl (hb hby at_132)
      have N20 := Fr.snoc X20 Nj19 g_b1
      have Zs20 : n0 ≤ h20.size := Nat.le_trans (Nat.le_trans Z0 Kj19.1) (Keep.of_wr W20).1
      have K20 := Kj19.wr W20 (Or.inr sz_b1)
      have V_b1_w20 := V_b1.set W20
      refine own_by (S' := T20.setTop (mkF m 133 #[.val (.long d), .second, .val (.int p2), .val (.int vn), .val (.ref b1), .unset, .unset, .unset, .unset, .unset] [])) st20 ?_
      exact Jf8 _ _ _ _ X20 e20 N20 K20 V_b1_w20 (by rw [List.length_set]; exact hl) (own_fill hl hP hni (by rw [hDd]; exact own_byt0 d))
    · refine own_by (S' := Tj19.setTop (mkF m 133 #[.val (.long d), .second, .val (.int p2), .val (.int vn), .val (.ref b1), .unset, .unset, .unset, .unset, .unset] [])) (fun tZ kZ => XS.icmpYes Xj19.here hx rfl (pc0 := 122) (pc' := 133) rfl (hb hby at_122) rfl (flt hcf).2.2.2 (by decide) (by decide) kZ) ?_
      have hni : ¬ 7 < N := by rw [own_ltI] at hcf; have e : (7 : Int32).toInt = 7 := rfl; omega
      exact Jf8 _ _ _ vs Xj19 ej19 Nj19 Kj19 V_b1 hl (own_skip hP hni)
  have Jf6 : ∀ (Tj21 : State) (Lj21 : List Loc) (hj21 : Heap) (vs : List Value) (Xj21 : Stand p l e room_1 s m #[(.long d), (.int p2)] below meth c Tj21 Lj21 1 8) (ej21 : Tj21.heap = hj21) (Nj21 : Fr n0 Lj21) (Kj21 : Keep h0 hj21 []) (V_b1 : OwnA Z hj21 b1 k1 .byte vs) (hl : vs.length = N) (hP : ∀ j, j < 6 → j < N → ByteAt D vs j), OwnG p e below (OwnE s (Q0  h0 n0) room_1.cells room_1.slots) (Tj21.setTop (mkF m 102 #[.val (.long d), .second, .val (.int p2), .val (.int vn), .val (.ref b1), .unset, .unset, .unset, .unset, .unset] [])) := by
    intro Tj21 Lj21 hj21 vs Xj21 ej21 Nj21 Kj21 V_b1 hl hP
    refine own_by (S' := Tj21.setTop (mkF m 103 #[.val (.long d), .second, .val (.int p2), .val (.int vn), .val (.ref b1), .unset, .unset, .unset, .unset, .unset] [(.int vn)])) (fun tZ kZ => XS.iloadN Xj21.here hx rfl (hb hby at_102) rfl kZ) ?_
    refine own_by (S' := Tj21.setTop (mkF m 105 #[.val (.long d), .second, .val (.int p2), .val (.int vn), .val (.ref b1), .unset, .unset, .unset, .unset, .unset] [(.int (6 : Int32)), (.int vn)])) (fun tZ kZ => XS.bipush Xj21.here hx rfl (hb hby at_103) kZ) ?_
    by_cases hcf : (6 : Int32) < vn
    · refine own_by (S' := Tj21.setTop (mkF m 108 #[.val (.long d), .second, .val (.int p2), .val (.int vn), .val (.ref b1), .unset, .unset, .unset, .unset, .unset] [])) (fun tZ kZ => XS.icmpNo Xj21.here hx rfl (hb hby at_105) rfl (tlt hcf).2.2.2 kZ) ?_
      have hni : 6 < N := by rw [own_ltI] at hcf; have e : (6 : Int32).toInt = 6 := rfl; omega
      refine own_by (S' := Tj21.setTop (mkF m 110 #[.val (.long d), .second, .val (.int p2), .val (.int vn), .val (.ref b1), .unset, .unset, .unset, .unset, .unset] [(.ref b1)])) (fun tZ kZ => XS.aload Xj21.here hx rfl (hb hby at_108) rfl rfl kZ) ?_
      refine own_by (S' := Tj21.setTop (mkF m 112 #[.val (.long d), .second, .val (.int p2), .val (.int vn), .val (.ref b1), .unset, .unset, .unset, .unset, .unset] [(.int (6 : Int32)), (.ref b1)])) (fun tZ kZ => XS.bipush Xj21.here hx rfl (hb hby at_110) kZ) ?_
      refine own_by (S' := Tj21.setTop (mkF m 113 #[.val (.long d), .second, .val (.int p2), .val (.int vn), .val (.ref b1), .unset, .unset, .unset, .unset, .unset] [(.long d), (.int (6 : Int32)), (.ref b1)])) (fun tZ kZ => XS.lloadN Xj21.here hx rfl (hb hby at_112) rfl kZ) ?_
      refine own_by (S' := Tj21.setTop (mkF m 115 #[.val (.long d), .second, .val (.int p2), .val (.int vn), .val (.ref b1), .unset, .unset, .unset, .unset, .unset] [(.int (8 : Int32)), (.long d), (.int (6 : Int32)), (.ref b1)])) (fun tZ kZ => XS.bipush Xj21.here hx rfl (hb hby at_113) kZ) ?_
      refine own_by (S' := Tj21.setTop (mkF m 116 #[.val (.long d), .second, .val (.int p2), .val (.int vn), .val (.ref b1), .unset, .unset, .unset, .unset, .unset] [(.long ((d.toUInt64 >>> ((8 : Int32) &&& 0x3f).toInt64.toUInt64).toInt64)), (.int (6 : Int32)), (.ref b1)])) (fun tZ kZ => XS.lushr Xj21.here hx rfl (hb hby at_115) rfl kZ) ?_
      refine own_by (S' := Tj21.setTop (mkF m 117 #[.val (.long d), .second, .val (.int p2), .val (.int vn), .val (.ref b1), .unset, .unset, .unset, .unset, .unset] [(.int (((d.toUInt64 >>> ((8 : Int32) &&& 0x3f).toInt64.toUInt64).toInt64).toInt32)), (.int (6 : Int32)), (.ref b1)])) (fun tZ kZ => XS.l2i Xj21.here hx rfl (hb hby at_116) rfl kZ) ?_
      refine own_by (S' := Tj21.setTop (mkF m 118 #[.val (.long d), .second, .val (.int p2), .val (.int vn), .val (.ref b1), .unset, .unset, .unset, .unset, .unset] [(.int ((((d.toUInt64 >>> ((8 : Int32) &&& 0x3f).toInt64.toUInt64).toInt64).toInt32).toInt8.toInt32)), (.int (6 : Int32)), (.ref b1)])) (fun tZ kZ => XS.i2b Xj21.here hx rfl (hb hby at_117) rfl kZ) ?_
      obtain ⟨cc22, Ar22, hc22, hl22⟩ := id V_b1
      have hin22 := OwnA.inb (j := (6 : Int32)) hl22 (by decide) (by rw [hl]; exact hni)
      obtain ⟨T22, h22, X22, e22, W22, st22⟩ := stB Xj21 hx hZ ej21 Ar22 (j := (6 : Int32)) hin22 (g := (mkF m 118 #[.val (.long d), .second, .val (.int p2), .val (.int vn), .val (.ref b1), .unset, .unset, .unset, .unset, .unset] [(.int ((((d.toUInt64 >>> ((8 : Int32) &&& 0x3f).toInt64.toUInt64).toInt64).toInt32).toInt8.toInt32)), (.int (6 : Int32)), (.ref b1)])) rfl rfl (hb hby at_118)
      have N22 := Fr.snoc X22 Nj21 g_b1
      have Zs22 : n0 ≤ h22.size := Nat.le_trans (Nat.le_trans Z0 Kj21.1) (Keep.of_wr W22).1
      have K22 := Kj21.wr W22 (Or.inr sz_b1)
      have V_b1_w22 := V_b1.set W22
      refine own_by (S' := T22.setTop (mkF m 119 #[.val (.long d), .second, .val (.int p2), .val (.int vn), .val (.ref b1), .unset, .unset, .unset, .unset, .unset] [])) st22 ?_
      exact Jf7 _ _ _ _ X22 e22 N22 K22 V_b1_w22 (by rw [List.length_set]; exact hl) (own_fill hl hP hni (by rw [hDd]; exact own_byt d 8 8 (by decide) (by decide) (by decide)))
    · refine own_by (S' := Tj21.setTop (mkF m 119 #[.val (.long d), .second, .val (.int p2), .val (.int vn), .val (.ref b1), .unset, .unset, .unset, .unset, .unset] [])) (fun tZ kZ => XS.icmpYes Xj21.here hx rfl (pc0 := 105) (pc' := 119) rfl (hb hby at_105) rfl (flt hcf).2.2.2 (by decide) (by decide) kZ) ?_
      have hni : ¬ 6 < N := by rw [own_ltI] at hcf; have e : (6 : Int32).toInt = 6 := rfl; omega
      exact Jf7 _ _ _ vs Xj21 ej21 Nj21 Kj21 V_b1 hl (own_skip hP hni)
  have Jf5 : ∀ (Tj23 : State) (Lj23 : List Loc) (hj23 : Heap) (vs : List Value) (Xj23 : Stand p l e room_1 s m #[(.long d), (.int p2)] below meth c Tj23 Lj23 1 8) (ej23 : Tj23.heap = hj23) (Nj23 : Fr n0 Lj23) (Kj23 : Keep h0 hj23 []) (V_b1 : OwnA Z hj23 b1 k1 .byte vs) (hl : vs.length = N) (hP : ∀ j, j < 5 → j < N → ByteAt D vs j), OwnG p e below (OwnE s (Q0  h0 n0) room_1.cells room_1.slots) (Tj23.setTop (mkF m 87 #[.val (.long d), .second, .val (.int p2), .val (.int vn), .val (.ref b1), .unset, .unset, .unset, .unset, .unset] [])) := by
    intro Tj23 Lj23 hj23 vs Xj23 ej23 Nj23 Kj23 V_b1 hl hP
    refine own_by (S' := Tj23.setTop (mkF m 88 #[.val (.long d), .second, .val (.int p2), .val (.int vn), .val (.ref b1), .unset, .unset, .unset, .unset, .unset] [(.int vn)])) (fun tZ kZ => XS.iloadN Xj23.here hx rfl (hb hby at_87) rfl kZ) ?_
    refine own_by (S' := Tj23.setTop (mkF m 89 #[.val (.long d), .second, .val (.int p2), .val (.int vn), .val (.ref b1), .unset, .unset, .unset, .unset, .unset] [(.int (5 : Int32)), (.int vn)])) (fun tZ kZ => XS.iconst Xj23.here hx rfl (hb hby at_88) kZ) ?_
    by_cases hcf : (5 : Int32) < vn
    · refine own_by (S' := Tj23.setTop (mkF m 92 #[.val (.long d), .second, .val (.int p2), .val (.int vn), .val (.ref b1), .unset, .unset, .unset, .unset, .unset] [])) (fun tZ kZ => XS.icmpNo Xj23.here hx rfl (hb hby at_89) rfl (tlt hcf).2.2.2 kZ) ?_
      have hni : 5 < N := by rw [own_ltI] at hcf; have e : (5 : Int32).toInt = 5 := rfl; omega
      refine own_by (S' := Tj23.setTop (mkF m 94 #[.val (.long d), .second, .val (.int p2), .val (.int vn), .val (.ref b1), .unset, .unset, .unset, .unset, .unset] [(.ref b1)])) (fun tZ kZ => XS.aload Xj23.here hx rfl (hb hby at_92) rfl rfl kZ) ?_
      refine own_by (S' := Tj23.setTop (mkF m 95 #[.val (.long d), .second, .val (.int p2), .val (.int vn), .val (.ref b1), .unset, .unset, .unset, .unset, .unset] [(.int (5 : Int32)), (.ref b1)])) (fun tZ kZ => XS.iconst Xj23.here hx rfl (hb hby at_94) kZ) ?_
      refine own_by (S' := Tj23.setTop (mkF m 96 #[.val (.long d), .second, .val (.int p2), .val (.int vn), .val (.ref b1), .unset, .unset, .unset, .unset, .unset] [(.long d), (.int (5 : Int32)), (.ref b1)])) (fun tZ kZ => XS.lloadN Xj23.here hx rfl (hb hby at_95) rfl kZ) ?_
      refine own_by (S' := Tj23.setTop (mkF m 98 #[.val (.long d), .second, .val (.int p2), .val (.int vn), .val (.ref b1), .unset, .unset, .unset, .unset, .unset] [(.int (16 : Int32)), (.long d), (.int (5 : Int32)), (.ref b1)])) (fun tZ kZ => XS.bipush Xj23.here hx rfl (hb hby at_96) kZ) ?_
      refine own_by (S' := Tj23.setTop (mkF m 99 #[.val (.long d), .second, .val (.int p2), .val (.int vn), .val (.ref b1), .unset, .unset, .unset, .unset, .unset] [(.long ((d.toUInt64 >>> ((16 : Int32) &&& 0x3f).toInt64.toUInt64).toInt64)), (.int (5 : Int32)), (.ref b1)])) (fun tZ kZ => XS.lushr Xj23.here hx rfl (hb hby at_98) rfl kZ) ?_
      refine own_by (S' := Tj23.setTop (mkF m 100 #[.val (.long d), .second, .val (.int p2), .val (.int vn), .val (.ref b1), .unset, .unset, .unset, .unset, .unset] [(.int (((d.toUInt64 >>> ((16 : Int32) &&& 0x3f).toInt64.toUInt64).toInt64).toInt32)), (.int (5 : Int32)), (.ref b1)])) (fun tZ kZ => XS.l2i Xj23.here hx rfl (hb hby at_99) rfl kZ) ?_
      refine own_by (S' := Tj23.setTop (mkF m 101 #[.val (.long d), .second, .val (.int p2), .val (.int vn), .val (.ref b1), .unset, .unset, .unset, .unset, .unset] [(.int ((((d.toUInt64 >>> ((16 : Int32) &&& 0x3f).toInt64.toUInt64).toInt64).toInt32).toInt8.toInt32)), (.int (5 : Int32)), (.ref b1)])) (fun tZ kZ => XS.i2b Xj23.here hx rfl (hb hby at_100) rfl kZ) ?_
      obtain ⟨cc24, Ar24, hc24, hl24⟩ := id V_b1
      have hin24 := OwnA.inb (j := (5 : Int32)) hl24 (by decide) (by rw [hl]; exact hni)
      obtain ⟨T24, h24, X24, e24, W24, st24⟩ := stB Xj23 hx hZ ej23 Ar24 (j := (5 : Int32)) hin24 (g := (mkF m 101 #[.val (.long d), .second, .val (.int p2), .val (.int vn), .val (.ref b1), .unset, .unset, .unset, .unset, .unset] [(.int ((((d.toUInt64 >>> ((16 : Int32) &&& 0x3f).toInt64.toUInt64).toInt64).toInt32).toInt8.toInt32)), (.int (5 : Int32)), (.ref b1)])) rfl rfl (hb hby at_101)
      have N24 := Fr.snoc X24 Nj23 g_b1
      have Zs24 : n0 ≤ h24.size := Nat.le_trans (Nat.le_trans Z0 Kj23.1) (Keep.of_wr W24).1
      have K24 := Kj23.wr W24 (Or.inr sz_b1)
      have V_b1_w24 := V_b1.set W24
      refine own_by (S' := T24.setTop (mkF m 102 #[.val (.long d), .second, .val (.int p2), .val (.int vn), .val (.ref b1), .unset, .unset, .unset, .unset, .unset] [])) st24 ?_
      exact Jf6 _ _ _ _ X24 e24 N24 K24 V_b1_w24 (by rw [List.length_set]; exact hl) (own_fill hl hP hni (by rw [hDd]; exact own_byt d 16 16 (by decide) (by decide) (by decide)))
    · refine own_by (S' := Tj23.setTop (mkF m 102 #[.val (.long d), .second, .val (.int p2), .val (.int vn), .val (.ref b1), .unset, .unset, .unset, .unset, .unset] [])) (fun tZ kZ => XS.icmpYes Xj23.here hx rfl (pc0 := 89) (pc' := 102) rfl (hb hby at_89) rfl (flt hcf).2.2.2 (by decide) (by decide) kZ) ?_
      have hni : ¬ 5 < N := by rw [own_ltI] at hcf; have e : (5 : Int32).toInt = 5 := rfl; omega
      exact Jf6 _ _ _ vs Xj23 ej23 Nj23 Kj23 V_b1 hl (own_skip hP hni)
  have Jf4 : ∀ (Tj25 : State) (Lj25 : List Loc) (hj25 : Heap) (vs : List Value) (Xj25 : Stand p l e room_1 s m #[(.long d), (.int p2)] below meth c Tj25 Lj25 1 8) (ej25 : Tj25.heap = hj25) (Nj25 : Fr n0 Lj25) (Kj25 : Keep h0 hj25 []) (V_b1 : OwnA Z hj25 b1 k1 .byte vs) (hl : vs.length = N) (hP : ∀ j, j < 4 → j < N → ByteAt D vs j), OwnG p e below (OwnE s (Q0  h0 n0) room_1.cells room_1.slots) (Tj25.setTop (mkF m 72 #[.val (.long d), .second, .val (.int p2), .val (.int vn), .val (.ref b1), .unset, .unset, .unset, .unset, .unset] [])) := by
    intro Tj25 Lj25 hj25 vs Xj25 ej25 Nj25 Kj25 V_b1 hl hP
    refine own_by (S' := Tj25.setTop (mkF m 73 #[.val (.long d), .second, .val (.int p2), .val (.int vn), .val (.ref b1), .unset, .unset, .unset, .unset, .unset] [(.int vn)])) (fun tZ kZ => XS.iloadN Xj25.here hx rfl (hb hby at_72) rfl kZ) ?_
    refine own_by (S' := Tj25.setTop (mkF m 74 #[.val (.long d), .second, .val (.int p2), .val (.int vn), .val (.ref b1), .unset, .unset, .unset, .unset, .unset] [(.int (4 : Int32)), (.int vn)])) (fun tZ kZ => XS.iconst Xj25.here hx rfl (hb hby at_73) kZ) ?_
    by_cases hcf : (4 : Int32) < vn
    · refine own_by (S' := Tj25.setTop (mkF m 77 #[.val (.long d), .second, .val (.int p2), .val (.int vn), .val (.ref b1), .unset, .unset, .unset, .unset, .unset] [])) (fun tZ kZ => XS.icmpNo Xj25.here hx rfl (hb hby at_74) rfl (tlt hcf).2.2.2 kZ) ?_
      have hni : 4 < N := by rw [own_ltI] at hcf; have e : (4 : Int32).toInt = 4 := rfl; omega
      refine own_by (S' := Tj25.setTop (mkF m 79 #[.val (.long d), .second, .val (.int p2), .val (.int vn), .val (.ref b1), .unset, .unset, .unset, .unset, .unset] [(.ref b1)])) (fun tZ kZ => XS.aload Xj25.here hx rfl (hb hby at_77) rfl rfl kZ) ?_
      refine own_by (S' := Tj25.setTop (mkF m 80 #[.val (.long d), .second, .val (.int p2), .val (.int vn), .val (.ref b1), .unset, .unset, .unset, .unset, .unset] [(.int (4 : Int32)), (.ref b1)])) (fun tZ kZ => XS.iconst Xj25.here hx rfl (hb hby at_79) kZ) ?_
      refine own_by (S' := Tj25.setTop (mkF m 81 #[.val (.long d), .second, .val (.int p2), .val (.int vn), .val (.ref b1), .unset, .unset, .unset, .unset, .unset] [(.long d), (.int (4 : Int32)), (.ref b1)])) (fun tZ kZ => XS.lloadN Xj25.here hx rfl (hb hby at_80) rfl kZ) ?_
      refine own_by (S' := Tj25.setTop (mkF m 83 #[.val (.long d), .second, .val (.int p2), .val (.int vn), .val (.ref b1), .unset, .unset, .unset, .unset, .unset] [(.int (24 : Int32)), (.long d), (.int (4 : Int32)), (.ref b1)])) (fun tZ kZ => XS.bipush Xj25.here hx rfl (hb hby at_81) kZ) ?_
      refine own_by (S' := Tj25.setTop (mkF m 84 #[.val (.long d), .second, .val (.int p2), .val (.int vn), .val (.ref b1), .unset, .unset, .unset, .unset, .unset] [(.long ((d.toUInt64 >>> ((24 : Int32) &&& 0x3f).toInt64.toUInt64).toInt64)), (.int (4 : Int32)), (.ref b1)])) (fun tZ kZ => XS.lushr Xj25.here hx rfl (hb hby at_83) rfl kZ) ?_
      refine own_by (S' := Tj25.setTop (mkF m 85 #[.val (.long d), .second, .val (.int p2), .val (.int vn), .val (.ref b1), .unset, .unset, .unset, .unset, .unset] [(.int (((d.toUInt64 >>> ((24 : Int32) &&& 0x3f).toInt64.toUInt64).toInt64).toInt32)), (.int (4 : Int32)), (.ref b1)])) (fun tZ kZ => XS.l2i Xj25.here hx rfl (hb hby at_84) rfl kZ) ?_
      refine own_by (S' := Tj25.setTop (mkF m 86 #[.val (.long d), .second, .val (.int p2), .val (.int vn), .val (.ref b1), .unset, .unset, .unset, .unset, .unset] [(.int ((((d.toUInt64 >>> ((24 : Int32) &&& 0x3f).toInt64.toUInt64).toInt64).toInt32).toInt8.toInt32)), (.int (4 : Int32)), (.ref b1)])) (fun tZ kZ => XS.i2b Xj25.here hx rfl (hb hby at_85) rfl kZ) ?_
      obtain ⟨cc26, Ar26, hc26, hl26⟩ := id V_b1
      have hin26 := OwnA.inb (j := (4 : Int32)) hl26 (by decide) (by rw [hl]; exact hni)
      obtain ⟨T26, h26, X26, e26, W26, st26⟩ := stB Xj25 hx hZ ej25 Ar26 (j := (4 : Int32)) hin26 (g := (mkF m 86 #[.val (.long d), .second, .val (.int p2), .val (.int vn), .val (.ref b1), .unset, .unset, .unset, .unset, .unset] [(.int ((((d.toUInt64 >>> ((24 : Int32) &&& 0x3f).toInt64.toUInt64).toInt64).toInt32).toInt8.toInt32)), (.int (4 : Int32)), (.ref b1)])) rfl rfl (hb hby at_86)
      have N26 := Fr.snoc X26 Nj25 g_b1
      have Zs26 : n0 ≤ h26.size := Nat.le_trans (Nat.le_trans Z0 Kj25.1) (Keep.of_wr W26).1
      have K26 := Kj25.wr W26 (Or.inr sz_b1)
      have V_b1_w26 := V_b1.set W26
      refine own_by (S' := T26.setTop (mkF m 87 #[.val (.long d), .second, .val (.int p2), .val (.int vn), .val (.ref b1), .unset, .unset, .unset, .unset, .unset] [])) st26 ?_
      exact Jf5 _ _ _ _ X26 e26 N26 K26 V_b1_w26 (by rw [List.length_set]; exact hl) (own_fill hl hP hni (by rw [hDd]; exact own_byt d 24 24 (by decide) (by decide) (by decide)))
    · refine own_by (S' := Tj25.setTop (mkF m 87 #[.val (.long d), .second, .val (.int p2), .val (.int vn), .val (.ref b1), .unset, .unset, .unset, .unset, .unset] [])) (fun tZ kZ => XS.icmpYes Xj25.here hx rfl (pc0 := 74) (pc' := 87) rfl (hb hby at_74) rfl (flt hcf).2.2.2 (by decide) (by decide) kZ) ?_
      have hni : ¬ 4 < N := by rw [own_ltI] at hcf; have e : (4 : Int32).toInt = 4 := rfl; omega
      exact Jf5 _ _ _ vs Xj25 ej25 Nj25 Kj25 V_b1 hl (own_skip hP hni)
  have Jf3 : ∀ (Tj27 : State) (Lj27 : List Loc) (hj27 : Heap) (vs : List Value) (Xj27 : Stand p l e room_1 s m #[(.long d), (.int p2)] below meth c Tj27 Lj27 1 8) (ej27 : Tj27.heap = hj27) (Nj27 : Fr n0 Lj27) (Kj27 : Keep h0 hj27 []) (V_b1 : OwnA Z hj27 b1 k1 .byte vs) (hl : vs.length = N) (hP : ∀ j, j < 3 → j < N → ByteAt D vs j), OwnG p e below (OwnE s (Q0  h0 n0) room_1.cells room_1.slots) (Tj27.setTop (mkF m 57 #[.val (.long d), .second, .val (.int p2), .val (.int vn), .val (.ref b1), .unset, .unset, .unset, .unset, .unset] [])) := by
    intro Tj27 Lj27 hj27 vs Xj27 ej27 Nj27 Kj27 V_b1 hl hP
    refine own_by (S' := Tj27.setTop (mkF m 58 #[.val (.long d), .second, .val (.int p2), .val (.int vn), .val (.ref b1), .unset, .unset, .unset, .unset, .unset] [(.int vn)])) (fun tZ kZ => XS.iloadN Xj27.here hx rfl (hb hby at_57) rfl kZ) ?_
    refine own_by (S' := Tj27.setTop (mkF m 59 #[.val (.long d), .second, .val (.int p2), .val (.int vn), .val (.ref b1), .unset, .unset, .unset, .unset, .unset] [(.int (3 : Int32)), (.int vn)])) (fun tZ kZ => XS.iconst Xj27.here hx rfl (hb hby at_58) kZ) ?_
    by_cases hcf : (3 : Int32) < vn
    · refine own_by (S' := Tj27.setTop (mkF m 62 #[.val (.long d), .second, .val (.int p2), .val (.int vn), .val (.ref b1), .unset, .unset, .unset, .unset, .unset] [])) (fun tZ kZ => XS.icmpNo Xj27.here hx rfl (hb hby at_59) rfl (tlt hcf).2.2.2 kZ) ?_
      have hni : 3 < N := by rw [own_ltI] at hcf; have e : (3 : Int32).toInt = 3 := rfl; omega
      refine own_by (S' := Tj27.setTop (mkF m 64 #[.val (.long d), .second, .val (.int p2), .val (.int vn), .val (.ref b1), .unset, .unset, .unset, .unset, .unset] [(.ref b1)])) (fun tZ kZ => XS.aload Xj27.here hx rfl (hb hby at_62) rfl rfl kZ) ?_
      refine own_by (S' := Tj27.setTop (mkF m 65 #[.val (.long d), .second, .val (.int p2), .val (.int vn), .val (.ref b1), .unset, .unset, .unset, .unset, .unset] [(.int (3 : Int32)), (.ref b1)])) (fun tZ kZ => XS.iconst Xj27.here hx rfl (hb hby at_64) kZ) ?_
      refine own_by (S' := Tj27.setTop (mkF m 66 #[.val (.long d), .second, .val (.int p2), .val (.int vn), .val (.ref b1), .unset, .unset, .unset, .unset, .unset] [(.long d), (.int (3 : Int32)), (.ref b1)])) (fun tZ kZ => XS.lloadN Xj27.here hx rfl (hb hby at_65) rfl kZ) ?_
      refine own_by (S' := Tj27.setTop (mkF m 68 #[.val (.long d), .second, .val (.int p2), .val (.int vn), .val (.ref b1), .unset, .unset, .unset, .unset, .unset] [(.int (32 : Int32)), (.long d), (.int (3 : Int32)), (.ref b1)])) (fun tZ kZ => XS.bipush Xj27.here hx rfl (hb hby at_66) kZ) ?_
      refine own_by (S' := Tj27.setTop (mkF m 69 #[.val (.long d), .second, .val (.int p2), .val (.int vn), .val (.ref b1), .unset, .unset, .unset, .unset, .unset] [(.long ((d.toUInt64 >>> ((32 : Int32) &&& 0x3f).toInt64.toUInt64).toInt64)), (.int (3 : Int32)), (.ref b1)])) (fun tZ kZ => XS.lushr Xj27.here hx rfl (hb hby at_68) rfl kZ) ?_
      refine own_by (S' := Tj27.setTop (mkF m 70 #[.val (.long d), .second, .val (.int p2), .val (.int vn), .val (.ref b1), .unset, .unset, .unset, .unset, .unset] [(.int (((d.toUInt64 >>> ((32 : Int32) &&& 0x3f).toInt64.toUInt64).toInt64).toInt32)), (.int (3 : Int32)), (.ref b1)])) (fun tZ kZ => XS.l2i Xj27.here hx rfl (hb hby at_69) rfl kZ) ?_
      refine own_by (S' := Tj27.setTop (mkF m 71 #[.val (.long d), .second, .val (.int p2), .val (.int vn), .val (.ref b1), .unset, .unset, .unset, .unset, .unset] [(.int ((((d.toUInt64 >>> ((32 : Int32) &&& 0x3f).toInt64.toUInt64).toInt64).toInt32).toInt8.toInt32)), (.int (3 : Int32)), (.ref b1)])) (fun tZ kZ => XS.i2b Xj27.here hx rfl (hb hby at_70) rfl kZ) ?_
      obtain ⟨cc28, Ar28, hc28, hl28⟩ := id V_b1
      have hin28 := OwnA.inb (j := (3 : Int32)) hl28 (by decide) (by rw [hl]; exact hni)
      obtain ⟨T28, h28, X28, e28, W28, st28⟩ := stB Xj27 hx hZ ej27 Ar28 (j := (3 : Int32)) hin28 (g := (mkF m 71 #[.val (.long d), .second, .val (.int p2), .val (.int vn), .val (.ref b1), .unset, .unset, .unset, .unset, .unset] [(.int ((((d.toUInt64 >>> ((32 : Int32) &&& 0x3f).toInt64.toUInt64).toInt64).toInt32).toInt8.toInt32)), (.int (3 : Int32)), (.ref b1)])) rfl rfl (hb hby at_71)
      have N28 := Fr.snoc X28 Nj27 g_b1
      have Zs28 : n0 ≤ h28.size := Nat.le_trans (Nat.le_trans Z0 Kj27.1) (Keep.of_wr W28).1
      have K28 := Kj27.wr W28 (Or.inr sz_b1)
      have V_b1_w28 := V_b1.set W28
      refine own_by (S' := T28.setTop (mkF m 72 #[.val (.long d), .second, .val (.int p2), .val (.int vn), .val (.ref b1), .unset, .unset, .unset, .unset, .unset] [])) st28 ?_
      exact Jf4 _ _ _ _ X28 e28 N28 K28 V_b1_w28 (by rw [List.length_set]; exact hl) (own_fill hl hP hni (by rw [hDd]; exact own_byt d 32 32 (by decide) (by decide) (by decide)))
    · refine own_by (S' := Tj27.setTop (mkF m 72 #[.val (.long d), .second, .val (.int p2), .val (.int vn), .val (.ref b1), .unset, .unset, .unset, .unset, .unset] [])) (fun tZ kZ => XS.icmpYes Xj27.here hx rfl (pc0 := 59) (pc' := 72) rfl (hb hby at_59) rfl (flt hcf).2.2.2 (by decide) (by decide) kZ) ?_
      have hni : ¬ 3 < N := by rw [own_ltI] at hcf; have e : (3 : Int32).toInt = 3 := rfl; omega
      exact Jf4 _ _ _ vs Xj27 ej27 Nj27 Kj27 V_b1 hl (own_skip hP hni)
  have Jf2 : ∀ (Tj29 : State) (Lj29 : List Loc) (hj29 : Heap) (vs : List Value) (Xj29 : Stand p l e room_1 s m #[(.long d), (.int p2)] below meth c Tj29 Lj29 1 8) (ej29 : Tj29.heap = hj29) (Nj29 : Fr n0 Lj29) (Kj29 : Keep h0 hj29 []) (V_b1 : OwnA Z hj29 b1 k1 .byte vs) (hl : vs.length = N) (hP : ∀ j, j < 2 → j < N → ByteAt D vs j), OwnG p e below (OwnE s (Q0  h0 n0) room_1.cells room_1.slots) (Tj29.setTop (mkF m 42 #[.val (.long d), .second, .val (.int p2), .val (.int vn), .val (.ref b1), .unset, .unset, .unset, .unset, .unset] [])) := by
    intro Tj29 Lj29 hj29 vs Xj29 ej29 Nj29 Kj29 V_b1 hl hP
    refine own_by (S' := Tj29.setTop (mkF m 43 #[.val (.long d), .second, .val (.int p2), .val (.int vn), .val (.ref b1), .unset, .unset, .unset, .unset, .unset] [(.int vn)])) (fun tZ kZ => XS.iloadN Xj29.here hx rfl (hb hby at_42) rfl kZ) ?_
    refine own_by (S' := Tj29.setTop (mkF m 44 #[.val (.long d), .second, .val (.int p2), .val (.int vn), .val (.ref b1), .unset, .unset, .unset, .unset, .unset] [(.int (2 : Int32)), (.int vn)])) (fun tZ kZ => XS.iconst Xj29.here hx rfl (hb hby at_43) kZ) ?_
    by_cases hcf : (2 : Int32) < vn
    · refine own_by (S' := Tj29.setTop (mkF m 47 #[.val (.long d), .second, .val (.int p2), .val (.int vn), .val (.ref b1), .unset, .unset, .unset, .unset, .unset] [])) (fun tZ kZ => XS.icmpNo Xj29.here hx rfl (hb hby at_44) rfl (tlt hcf).2.2.2 kZ) ?_
      have hni : 2 < N := by rw [own_ltI] at hcf; have e : (2 : Int32).toInt = 2 := rfl; omega
      refine own_by (S' := Tj29.setTop (mkF m 49 #[.val (.long d), .second, .val (.int p2), .val (.int vn), .val (.ref b1), .unset, .unset, .unset, .unset, .unset] [(.ref b1)])) (fun tZ kZ => XS.aload Xj29.here hx rfl (hb hby at_47) rfl rfl kZ) ?_
      refine own_by (S' := Tj29.setTop (mkF m 50 #[.val (.long d), .second, .val (.int p2), .val (.int vn), .val (.ref b1), .unset, .unset, .unset, .unset, .unset] [(.int (2 : Int32)), (.ref b1)])) (fun tZ kZ => XS.iconst Xj29.here hx rfl (hb hby at_49) kZ) ?_
      refine own_by (S' := Tj29.setTop (mkF m 51 #[.val (.long d), .second, .val (.int p2), .val (.int vn), .val (.ref b1), .unset, .unset, .unset, .unset, .unset] [(.long d), (.int (2 : Int32)), (.ref b1)])) (fun tZ kZ => XS.lloadN Xj29.here hx rfl (hb hby at_50) rfl kZ) ?_
      refine own_by (S' := Tj29.setTop (mkF m 53 #[.val (.long d), .second, .val (.int p2), .val (.int vn), .val (.ref b1), .unset, .unset, .unset, .unset, .unset] [(.int (40 : Int32)), (.long d), (.int (2 : Int32)), (.ref b1)])) (fun tZ kZ => XS.bipush Xj29.here hx rfl (hb hby at_51) kZ) ?_
      refine own_by (S' := Tj29.setTop (mkF m 54 #[.val (.long d), .second, .val (.int p2), .val (.int vn), .val (.ref b1), .unset, .unset, .unset, .unset, .unset] [(.long ((d.toUInt64 >>> ((40 : Int32) &&& 0x3f).toInt64.toUInt64).toInt64)), (.int (2 : Int32)), (.ref b1)])) (fun tZ kZ => XS.lushr Xj29.here hx rfl (hb hby at_53) rfl kZ) ?_
      refine own_by (S' := Tj29.setTop (mkF m 55 #[.val (.long d), .second, .val (.int p2), .val (.int vn), .val (.ref b1), .unset, .unset, .unset, .unset, .unset] [(.int (((d.toUInt64 >>> ((40 : Int32) &&& 0x3f).toInt64.toUInt64).toInt64).toInt32)), (.int (2 : Int32)), (.ref b1)])) (fun tZ kZ => XS.l2i Xj29.here hx rfl (hb hby at_54) rfl kZ) ?_
      refine own_by (S' := Tj29.setTop (mkF m 56 #[.val (.long d), .second, .val (.int p2), .val (.int vn), .val (.ref b1), .unset, .unset, .unset, .unset, .unset] [(.int ((((d.toUInt64 >>> ((40 : Int32) &&& 0x3f).toInt64.toUInt64).toInt64).toInt32).toInt8.toInt32)), (.int (2 : Int32)), (.ref b1)])) (fun tZ kZ => XS.i2b Xj29.here hx rfl (hb hby at_55) rfl kZ) ?_
      obtain ⟨cc30, Ar30, hc30, hl30⟩ := id V_b1
      have hin30 := OwnA.inb (j := (2 : Int32)) hl30 (by decide) (by rw [hl]; exact hni)
      obtain ⟨T30, h30, X30, e30, W30, st30⟩ := stB Xj29 hx hZ ej29 Ar30 (j := (2 : Int32)) hin30 (g := (mkF m 56 #[.val (.long d), .second, .val (.int p2), .val (.int vn), .val (.ref b1), .unset, .unset, .unset, .unset, .unset] [(.int ((((d.toUInt64 >>> ((40 : Int32) &&& 0x3f).toInt64.toUInt64).toInt64).toInt32).toInt8.toInt32)), (.int (2 : Int32)), (.ref b1)])) rfl rfl (hb hby at_56)
      have N30 := Fr.snoc X30 Nj29 g_b1
      have Zs30 : n0 ≤ h30.size := Nat.le_trans (Nat.le_trans Z0 Kj29.1) (Keep.of_wr W30).1
      have K30 := Kj29.wr W30 (Or.inr sz_b1)
      have V_b1_w30 := V_b1.set W30
      refine own_by (S' := T30.setTop (mkF m 57 #[.val (.long d), .second, .val (.int p2), .val (.int vn), .val (.ref b1), .unset, .unset, .unset, .unset, .unset] [])) st30 ?_
      exact Jf3 _ _ _ _ X30 e30 N30 K30 V_b1_w30 (by rw [List.length_set]; exact hl) (own_fill hl hP hni (by rw [hDd]; exact own_byt d 40 40 (by decide) (by decide) (by decide)))
    · refine own_by (S' := Tj29.setTop (mkF m 57 #[.val (.long d), .second, .val (.int p2), .val (.int vn), .val (.ref b1), .unset, .unset, .unset, .unset, .unset] [])) (fun tZ kZ => XS.icmpYes Xj29.here hx rfl (pc0 := 44) (pc' := 57) rfl (hb hby at_44) rfl (flt hcf).2.2.2 (by decide) (by decide) kZ) ?_
      have hni : ¬ 2 < N := by rw [own_ltI] at hcf; have e : (2 : Int32).toInt = 2 := rfl; omega
      exact Jf3 _ _ _ vs Xj29 ej29 Nj29 Kj29 V_b1 hl (own_skip hP hni)
  have Jf1 : ∀ (Tj31 : State) (Lj31 : List Loc) (hj31 : Heap) (vs : List Value) (Xj31 : Stand p l e room_1 s m #[(.long d), (.int p2)] below meth c Tj31 Lj31 1 8) (ej31 : Tj31.heap = hj31) (Nj31 : Fr n0 Lj31) (Kj31 : Keep h0 hj31 []) (V_b1 : OwnA Z hj31 b1 k1 .byte vs) (hl : vs.length = N) (hP : ∀ j, j < 1 → j < N → ByteAt D vs j), OwnG p e below (OwnE s (Q0  h0 n0) room_1.cells room_1.slots) (Tj31.setTop (mkF m 27 #[.val (.long d), .second, .val (.int p2), .val (.int vn), .val (.ref b1), .unset, .unset, .unset, .unset, .unset] [])) := by
    intro Tj31 Lj31 hj31 vs Xj31 ej31 Nj31 Kj31 V_b1 hl hP
    refine own_by (S' := Tj31.setTop (mkF m 28 #[.val (.long d), .second, .val (.int p2), .val (.int vn), .val (.ref b1), .unset, .unset, .unset, .unset, .unset] [(.int vn)])) (fun tZ kZ => XS.iloadN Xj31.here hx rfl (hb hby at_27) rfl kZ) ?_
    refine own_by (S' := Tj31.setTop (mkF m 29 #[.val (.long d), .second, .val (.int p2), .val (.int vn), .val (.ref b1), .unset, .unset, .unset, .unset, .unset] [(.int (1 : Int32)), (.int vn)])) (fun tZ kZ => XS.iconst Xj31.here hx rfl (hb hby at_28) kZ) ?_
    by_cases hcf : (1 : Int32) < vn
    · refine own_by (S' := Tj31.setTop (mkF m 32 #[.val (.long d), .second, .val (.int p2), .val (.int vn), .val (.ref b1), .unset, .unset, .unset, .unset, .unset] [])) (fun tZ kZ => XS.icmpNo Xj31.here hx rfl (hb hby at_29) rfl (tlt hcf).2.2.2 kZ) ?_
      have hni : 1 < N := by rw [own_ltI] at hcf; have e : (1 : Int32).toInt = 1 := rfl; omega
      refine own_by (S' := Tj31.setTop (mkF m 34 #[.val (.long d), .second, .val (.int p2), .val (.int vn), .val (.ref b1), .unset, .unset, .unset, .unset, .unset] [(.ref b1)])) (fun tZ kZ => XS.aload Xj31.here hx rfl (hb hby at_32) rfl rfl kZ) ?_
      refine own_by (S' := Tj31.setTop (mkF m 35 #[.val (.long d), .second, .val (.int p2), .val (.int vn), .val (.ref b1), .unset, .unset, .unset, .unset, .unset] [(.int (1 : Int32)), (.ref b1)])) (fun tZ kZ => XS.iconst Xj31.here hx rfl (hb hby at_34) kZ) ?_
      refine own_by (S' := Tj31.setTop (mkF m 36 #[.val (.long d), .second, .val (.int p2), .val (.int vn), .val (.ref b1), .unset, .unset, .unset, .unset, .unset] [(.long d), (.int (1 : Int32)), (.ref b1)])) (fun tZ kZ => XS.lloadN Xj31.here hx rfl (hb hby at_35) rfl kZ) ?_
      refine own_by (S' := Tj31.setTop (mkF m 38 #[.val (.long d), .second, .val (.int p2), .val (.int vn), .val (.ref b1), .unset, .unset, .unset, .unset, .unset] [(.int (48 : Int32)), (.long d), (.int (1 : Int32)), (.ref b1)])) (fun tZ kZ => XS.bipush Xj31.here hx rfl (hb hby at_36) kZ) ?_
      refine own_by (S' := Tj31.setTop (mkF m 39 #[.val (.long d), .second, .val (.int p2), .val (.int vn), .val (.ref b1), .unset, .unset, .unset, .unset, .unset] [(.long ((d.toUInt64 >>> ((48 : Int32) &&& 0x3f).toInt64.toUInt64).toInt64)), (.int (1 : Int32)), (.ref b1)])) (fun tZ kZ => XS.lushr Xj31.here hx rfl (hb hby at_38) rfl kZ) ?_
      refine own_by (S' := Tj31.setTop (mkF m 40 #[.val (.long d), .second, .val (.int p2), .val (.int vn), .val (.ref b1), .unset, .unset, .unset, .unset, .unset] [(.int (((d.toUInt64 >>> ((48 : Int32) &&& 0x3f).toInt64.toUInt64).toInt64).toInt32)), (.int (1 : Int32)), (.ref b1)])) (fun tZ kZ => XS.l2i Xj31.here hx rfl (hb hby at_39) rfl kZ) ?_
      refine own_by (S' := Tj31.setTop (mkF m 41 #[.val (.long d), .second, .val (.int p2), .val (.int vn), .val (.ref b1), .unset, .unset, .unset, .unset, .unset] [(.int ((((d.toUInt64 >>> ((48 : Int32) &&& 0x3f).toInt64.toUInt64).toInt64).toInt32).toInt8.toInt32)), (.int (1 : Int32)), (.ref b1)])) (fun tZ kZ => XS.i2b Xj31.here hx rfl (hb hby at_40) rfl kZ) ?_
      obtain ⟨cc32, Ar32, hc32, hl32⟩ := id V_b1
      have hin32 := OwnA.inb (j := (1 : Int32)) hl32 (by decide) (by rw [hl]; exact hni)
      obtain ⟨T32, h32, X32, e32, W32, st32⟩ := stB Xj31 hx hZ ej31 Ar32 (j := (1 : Int32)) hin32 (g := (mkF m 41 #[.val (.long d), .second, .val (.int p2), .val (.int vn), .val (.ref b1), .unset, .unset, .unset, .unset, .unset] [(.int ((((d.toUInt64 >>> ((48 : Int32) &&& 0x3f).toInt64.toUInt64).toInt64).toInt32).toInt8.toInt32)), (.int (1 : Int32)), (.ref b1)])) rfl rfl (hb hby at_41)
      have N32 := Fr.snoc X32 Nj31 g_b1
      have Zs32 : n0 ≤ h32.size := Nat.le_trans (Nat.le_trans Z0 Kj31.1) (Keep.of_wr W32).1
      have K32 := Kj31.wr W32 (Or.inr sz_b1)
      have V_b1_w32 := V_b1.set W32
      refine own_by (S' := T32.setTop (mkF m 42 #[.val (.long d), .second, .val (.int p2), .val (.int vn), .val (.ref b1), .unset, .unset, .unset, .unset, .unset] [])) st32 ?_
      exact Jf2 _ _ _ _ X32 e32 N32 K32 V_b1_w32 (by rw [List.length_set]; exact hl) (own_fill hl hP hni (by rw [hDd]; exact own_byt d 48 48 (by decide) (by decide) (by decide)))
    · refine own_by (S' := Tj31.setTop (mkF m 42 #[.val (.long d), .second, .val (.int p2), .val (.int vn), .val (.ref b1), .unset, .unset, .unset, .unset, .unset] [])) (fun tZ kZ => XS.icmpYes Xj31.here hx rfl (pc0 := 29) (pc' := 42) rfl (hb hby at_29) rfl (flt hcf).2.2.2 (by decide) (by decide) kZ) ?_
      have hni : ¬ 1 < N := by rw [own_ltI] at hcf; have e : (1 : Int32).toInt = 1 := rfl; omega
      exact Jf2 _ _ _ vs Xj31 ej31 Nj31 Kj31 V_b1 hl (own_skip hP hni)
  have Jf0 : ∀ (Tj33 : State) (Lj33 : List Loc) (hj33 : Heap) (vs : List Value) (Xj33 : Stand p l e room_1 s m #[(.long d), (.int p2)] below meth c Tj33 Lj33 1 8) (ej33 : Tj33.heap = hj33) (Nj33 : Fr n0 Lj33) (Kj33 : Keep h0 hj33 []) (V_b1 : OwnA Z hj33 b1 k1 .byte vs) (hl : vs.length = N) (hP : ∀ j, j < 0 → j < N → ByteAt D vs j), OwnG p e below (OwnE s (Q0  h0 n0) room_1.cells room_1.slots) (Tj33.setTop (mkF m 13 #[.val (.long d), .second, .val (.int p2), .val (.int vn), .val (.ref b1), .unset, .unset, .unset, .unset, .unset] [])) := by
    intro Tj33 Lj33 hj33 vs Xj33 ej33 Nj33 Kj33 V_b1 hl hP
    refine own_by (S' := Tj33.setTop (mkF m 14 #[.val (.long d), .second, .val (.int p2), .val (.int vn), .val (.ref b1), .unset, .unset, .unset, .unset, .unset] [(.int vn)])) (fun tZ kZ => XS.iloadN Xj33.here hx rfl (hb hby at_13) rfl kZ) ?_
    by_cases hcf : (0 : Int32) < vn
    · refine own_by (S' := Tj33.setTop (mkF m 17 #[.val (.long d), .second, .val (.int p2), .val (.int vn), .val (.ref b1), .unset, .unset, .unset, .unset, .unset] [])) (fun tZ kZ => XS.ifNo Xj33.here hx rfl (hb hby at_14) rfl ((if0 _ _).trans (tlt hcf).2.2.2) kZ) ?_
      have hni : 0 < N := by rw [own_ltI] at hcf; have e : (0 : Int32).toInt = 0 := rfl; omega
      refine own_by (S' := Tj33.setTop (mkF m 19 #[.val (.long d), .second, .val (.int p2), .val (.int vn), .val (.ref b1), .unset, .unset, .unset, .unset, .unset] [(.ref b1)])) (fun tZ kZ => XS.aload Xj33.here hx rfl (hb hby at_17) rfl rfl kZ) ?_
      refine own_by (S' := Tj33.setTop (mkF m 20 #[.val (.long d), .second, .val (.int p2), .val (.int vn), .val (.ref b1), .unset, .unset, .unset, .unset, .unset] [(.int (0 : Int32)), (.ref b1)])) (fun tZ kZ => XS.iconst Xj33.here hx rfl (hb hby at_19) kZ) ?_
      refine own_by (S' := Tj33.setTop (mkF m 21 #[.val (.long d), .second, .val (.int p2), .val (.int vn), .val (.ref b1), .unset, .unset, .unset, .unset, .unset] [(.long d), (.int (0 : Int32)), (.ref b1)])) (fun tZ kZ => XS.lloadN Xj33.here hx rfl (hb hby at_20) rfl kZ) ?_
      refine own_by (S' := Tj33.setTop (mkF m 23 #[.val (.long d), .second, .val (.int p2), .val (.int vn), .val (.ref b1), .unset, .unset, .unset, .unset, .unset] [(.int (56 : Int32)), (.long d), (.int (0 : Int32)), (.ref b1)])) (fun tZ kZ => XS.bipush Xj33.here hx rfl (hb hby at_21) kZ) ?_
      refine own_by (S' := Tj33.setTop (mkF m 24 #[.val (.long d), .second, .val (.int p2), .val (.int vn), .val (.ref b1), .unset, .unset, .unset, .unset, .unset] [(.long ((d.toUInt64 >>> ((56 : Int32) &&& 0x3f).toInt64.toUInt64).toInt64)), (.int (0 : Int32)), (.ref b1)])) (fun tZ kZ => XS.lushr Xj33.here hx rfl (hb hby at_23) rfl kZ) ?_
      refine own_by (S' := Tj33.setTop (mkF m 25 #[.val (.long d), .second, .val (.int p2), .val (.int vn), .val (.ref b1), .unset, .unset, .unset, .unset, .unset] [(.int (((d.toUInt64 >>> ((56 : Int32) &&& 0x3f).toInt64.toUInt64).toInt64).toInt32)), (.int (0 : Int32)), (.ref b1)])) (fun tZ kZ => XS.l2i Xj33.here hx rfl (hb hby at_24) rfl kZ) ?_
      refine own_by (S' := Tj33.setTop (mkF m 26 #[.val (.long d), .second, .val (.int p2), .val (.int vn), .val (.ref b1), .unset, .unset, .unset, .unset, .unset] [(.int ((((d.toUInt64 >>> ((56 : Int32) &&& 0x3f).toInt64.toUInt64).toInt64).toInt32).toInt8.toInt32)), (.int (0 : Int32)), (.ref b1)])) (fun tZ kZ => XS.i2b Xj33.here hx rfl (hb hby at_25) rfl kZ) ?_
      obtain ⟨cc34, Ar34, hc34, hl34⟩ := id V_b1
      have hin34 := OwnA.inb (j := (0 : Int32)) hl34 (by decide) (by rw [hl]; exact hni)
      obtain ⟨T34, h34, X34, e34, W34, st34⟩ := stB Xj33 hx hZ ej33 Ar34 (j := (0 : Int32)) hin34 (g := (mkF m 26 #[.val (.long d), .second, .val (.int p2), .val (.int vn), .val (.ref b1), .unset, .unset, .unset, .unset, .unset] [(.int ((((d.toUInt64 >>> ((56 : Int32) &&& 0x3f).toInt64.toUInt64).toInt64).toInt32).toInt8.toInt32)), (.int (0 : Int32)), (.ref b1)])) rfl rfl (hb hby at_26)
      have N34 := Fr.snoc X34 Nj33 g_b1
      have Zs34 : n0 ≤ h34.size := Nat.le_trans (Nat.le_trans Z0 Kj33.1) (Keep.of_wr W34).1
      have K34 := Kj33.wr W34 (Or.inr sz_b1)
      have V_b1_w34 := V_b1.set W34
      refine own_by (S' := T34.setTop (mkF m 27 #[.val (.long d), .second, .val (.int p2), .val (.int vn), .val (.ref b1), .unset, .unset, .unset, .unset, .unset] [])) st34 ?_
      exact Jf1 _ _ _ _ X34 e34 N34 K34 V_b1_w34 (by rw [List.length_set]; exact hl) (own_fill hl hP hni (by rw [hDd]; exact own_byt d 56 56 (by decide) (by decide) (by decide)))
    · refine own_by (S' := Tj33.setTop (mkF m 27 #[.val (.long d), .second, .val (.int p2), .val (.int vn), .val (.ref b1), .unset, .unset, .unset, .unset, .unset] [])) (fun tZ kZ => XS.ifYes Xj33.here hx rfl (pc0 := 14) (pc' := 27) rfl (hb hby at_14) rfl ((if0 _ _).trans (flt hcf).2.2.2) (by decide) (by decide) kZ) ?_
      have hni : ¬ 0 < N := by rw [own_ltI] at hcf; have e : (0 : Int32).toInt = 0 := rfl; omega
      exact Jf1 _ _ _ vs Xj33 ej33 Nj33 Kj33 V_b1 hl (own_skip hP hni)
  exact Jf0 _ _ _ _ X1 e1 N0 K1 V_b1 (by simp) (fun j h1 => by omega)
theorem own_allF {f : Nat → Option Bool} (l : List Nat) (h : l.foldl (init := some true) (fun acc i => match acc with | some true => f i | x => x) = some true) : ∀ i ∈ l, f i = some true := by
  have stay : ∀ (l : List Nat) (x : Option Bool), x ≠ some true → l.foldl (init := x) (fun acc i => match acc with | some true => f i | x => x) = x := by
    intro l
    induction l with
    | nil => intro x _; rfl
    | cons b t ih =>
      intro x hx
      rw [List.foldl_cons]
      rcases x with _ | (_ | _)
      · exact ih _ (by simp)
      · exact ih _ (by simp)
      · exact absurd rfl hx
  induction l with
  | nil => intro i hi; simp at hi
  | cons b t ih =>
    rw [List.foldl_cons] at h
    change t.foldl (init := f b) (fun acc i => match acc with | some true => f i | x => x) = some true at h
    by_cases hb : f b = some true
    · rw [hb] at h
      intro i hi
      rcases List.mem_cons.mp hi with rfl | hi
      · exact hb
      · exact ih h i hi
    · rw [stay t _ hb] at h
      exact absurd h hb
theorem own_all {args : Array Value} {s : State} {idx : List Nat} {u : Term} {c : Jvm.Cond} {a : Addr} {cell : Cell} (ev : u.eval args s none idx s = some (.ref a)) (ha : s.arrayAt? a = some cell) (h : (Jvm.Cond.all u c).value args s none s idx = some true) : ∀ i, i < cell.slots.size → c.value args s none s (i :: idx) = some true := by
  simp only [Cond.value, ev, ha] at h
  intro i hi
  exact own_allF _ h i (List.mem_range.mpr hi)
theorem own_or2 {args : Array Value} {s : State} {idx : List Nat} {c d : Jvm.Cond} (h : (Jvm.Cond.or c d).value args s none s idx = some true) (h1 : c.value args s none s idx = some false) : d.value args s none s idx = some true := by
  simpa [Cond.value, h1] using h
theorem own_elx {args : Array Value} {s : State} {E : Term} {k : Nat} {K : Int64} {w : Option Value} (h : (Jvm.Cond.eq (.op1 .i2l E) (.op2 .ladd (.op1 .i2l (.index 0)) (.long K))).value args s none s [k] = some true) (hE : E.eval args s none [k] s = w) : w = some (.int (k.toInt32.toInt64 + K).toInt32) := by
  subst hE
  cases hv : E.eval args s none [k] s with
  | none => simp [Cond.value, Term.eval, hv] at h
  | some v =>
    cases v with
    | int x =>
      have e1 : (Term.op1 .i2l E).eval args s none [k] s = some (.long x.toInt64) := by rw [op1_f hv]; rfl
      have e2 : (Term.op2 .ladd (.op1 .i2l (.index 0)) (.long K)).eval args s none [k] s = some (.long (k.toInt32.toInt64 + K)) := rfl
      have h3 := gotT (eq_L e1 e2) h
      rw [← h3]
      congr 2
      apply Int32.toInt_inj.mp
      have f1 := c_l2i x.toInt64
      have f2 := c_i2l x
      have f3 := rng32 x
      have f4 := rng32 x.toInt64.toInt32
      omega
    | _ => simp [Cond.value, Term.eval, hv, Unary.apply] at h
theorem own_alpha {args : Array Value} {s : State} {C n d : String} {al : Addr} {cal : Cell} {ty : FieldType} (ev : (Term.static C n d).eval args s none [] s = some (.ref al)) (A : Arr s s.heap al cal ty) (hs : cal.slots.size = (32 : Int32).toNatClampNeg)
    (h1 : (Jvm.Cond.all (.static C n d) (.or (.le (.int 26) (.index 0)) (.eq (.op1 .i2l (.elem (.static C n d) (.index 0))) (.op2 .ladd (.op1 .i2l (.index 0)) (.long 65))))).value args s none s [] = some true)
    (h2 : (Jvm.Cond.all (.static C n d) (.or (.lt (.index 0) (.int 26)) (.eq (.op1 .i2l (.elem (.static C n d) (.index 0))) (.op2 .ladd (.op1 .i2l (.index 0)) (.long 24))))).value args s none s [] = some true) :
    ∀ q : Int32, ∀ k : Nat, k < 32 → q.toInt = k → cal.slots[q.toNatClampNeg]? = some (.int (alphaI k)) := by
  intro q k hk hq
  have ha : s.arrayAt? al = some cal := A.fin (Vm.Alike.refl _)
  have hs' : cal.slots.size = 32 := hs
  have a1 := own_all ev ha h1 k (by omega)
  have a2 := own_all ev ha h2 k (by omega)
  have ev2 : (Term.static C n d).eval args s none [k] s = some (.ref al) := ev
  have ek : k.toInt32.toInt = k := len_toInt (by omega)
  have en : k.toInt32.toNatClampNeg = k := by show k.toInt32.toInt.toNat = k; rw [ek]; rfl
  have e0 : ¬ k.toInt32 < 0 := by rw [Int32.lt_iff_toInt_lt, ek]; have : (0 : Int32).toInt = 0 := rfl; omega
  have hel : (Term.elem (.static C n d) (.index 0)).eval args s none [k] s = cal.slots[k]? := by
    rw [elem_f ev2 (Term.index_eval k) ha e0, en]
  have hqn : q.toNatClampNeg = k := by show q.toInt.toNat = k; rw [hq]; rfl
  rw [hqn]
  have g1 : (Jvm.Cond.le (.int 26) (.index 0)).value args s none s [k] = some (decide ((26 : Int32) ≤ k.toInt32)) := Cond.le_ints rfl rfl
  have g2 : (Jvm.Cond.lt (.index 0) (.int 26)).value args s none s [k] = some (decide (k.toInt32 < (26 : Int32))) := Cond.lt_ints rfl rfl
  have e26 : (26 : Int32).toInt = 26 := rfl
  by_cases h26 : k < 26
  · have n1 : decide ((26 : Int32) ≤ k.toInt32) = false := decide_eq_false (by rw [Int32.le_iff_toInt_le, ek]; omega)
    rw [n1] at g1
    have b1 := own_elx (own_or2 a1 g1) hel
    rw [b1]
    simp only [alphaI, if_pos h26]
    congr 2
    apply Int32.toInt_inj.mp
    have f1 := c_l2i (k.toInt32.toInt64 + 65)
    have f2 := c_ladd k.toInt32.toInt64 65
    have f3 := rng64 (k.toInt32.toInt64 + 65)
    have f4 := c_i2l k.toInt32
    have f5 := rng32 (k.toInt32.toInt64 + 65).toInt32
    have f6 : (65 : Int64).toInt = 65 := rfl
    have f7 : (Int32.ofNat (65 + k)).toInt = ((65 + k : Nat) : Int) := len_toInt (by omega)
    omega
  · have n1 : decide (k.toInt32 < (26 : Int32)) = false := decide_eq_false (by rw [Int32.lt_iff_toInt_lt, ek]; omega)
    rw [n1] at g2
    have b1 := own_elx (own_or2 a2 g2) hel
    rw [b1]
    simp only [alphaI, if_neg h26]
    congr 2
    apply Int32.toInt_inj.mp
    have f1 := c_l2i (k.toInt32.toInt64 + 24)
    have f2 := c_ladd k.toInt32.toInt64 24
    have f3 := rng64 (k.toInt32.toInt64 + 24)
    have f4 := c_i2l k.toInt32
    have f5 := rng32 (k.toInt32.toInt64 + 24).toInt32
    have f6 : (24 : Int64).toInt = 24 := rfl
    have f7 : (Int32.ofNat (24 + k)).toInt = ((24 + k : Nat) : Int) := len_toInt (by omega)
    omega

set_option maxRecDepth 65536 in
set_option maxHeartbeats 40000000 in
theorem comes_1 {Post : Tables → Env → Array Value → State → Outcome → State → Prop} (hpost : ∀ tb e args s v u, (limb_1_1.after args s (.returned v) u = true ∧ limb_1_2.after args s (.returned v) u = true ∧ True) → FrameEnd s (.returned v) u (Jvm.fieldLocs frame_1_writes args s ++ Jvm.arrayLocs frame_1_arrays args s ++ Jvm.staticLocs frame_1_statics s) 24 192 → Post tb e args s (.returned v) u) :
    ArmFor flags0 classFile x code maxLocals ret World_1 tables_1 room_1 Calls_1 rest_1 Pre_1 Post := by
  intro l hfl _ _ p e ha hc hk s m args below hf hA hF happ hP
  obtain ⟨hcalls, hrest, hpre⟩ := hP
  obtain ⟨-, -, -, hnamed, -, -, -, hat⟩ := (Spec.applies_iff hf).mp happ
  obtain ⟨hg, hn⟩ := and_e (Cond.before_iff.mp (show (Jvm.Cond.and given_1 narrow_1).before args s = true from hpre))
  obtain ⟨gc, gr0⟩ := and_e hg
  obtain ⟨ga0, gr1⟩ := and_e gr0
  obtain ⟨w0, w1, rfl⟩ : ∃ w0 w1 : Value, args = #[w0, w1] := by
    have hs : args.size = 2 := by simpa [Cond.value, given_1] using gc
    obtain ⟨L⟩ := args
    match L, hs with
    | [w0, w1], _ => exact ⟨w0, w1, rfl⟩
  have hw := fun d (hd : d ∈ tables_1) => atoms_spec (ws := Jvm.Cond.code x code maxLocals ret :: tables_1) hat d (List.mem_cons_of_mem _ hd)
  have hfit : Fit s := fun {y c} hc i hi => by
    obtain ⟨ha, rfl⟩ := Array.getElem?_eq_some_iff.mp hc
    have q := List.all_eq_true.mp ((Array.all_eq_true_iff_forall_mem.mp hF) _ (Array.getElem_mem ha)) i (List.mem_range.mpr hi)
    simpa [Array.getElem?_eq_getElem hi] using q
  obtain ⟨hsets, hown0⟩ := atoms_of _ (rest_1_c_eq ▸ (show rest_1_c.before _ s = true from hrest))
  have hr0 := Cond.before_iff.mp hown0
  obtain ⟨i0, ei0⟩ := isL_v ga0
  obtain rfl : w0 = (.long i0) := Option.some.inj ei0
  obtain ⟨i1, ei1⟩ := is_v gr1
  obtain rfl : w1 = (.int i1) := Option.some.inj ei1
  obtain ⟨nb0, nc0⟩ := and_e hn
  obtain ⟨nb1, nc1⟩ := and_e nc0
  obtain ⟨nb2, nc2⟩ := and_e nc1
  obtain ⟨al, eal⟩ := arr_v nb0
  obtain ⟨cal, Aal⟩ := Arr.start eal nb0
  have Sal : Sta s s.heap "com/example/idpd/idpd/Base32" "ALPHABET" "[C" (.ref al) := Sta.start eal (Or.inr ⟨(hw _ (List.mem_of_getElem? (i := 4) rfl)), (hw _ (List.mem_of_getElem? (i := 28) rfl))⟩)
  have hal0 := own_size eal Aal nb1
  have hal := own_alpha eal Aal hal0 nb2 nc2
  obtain ⟨cz, ecz⟩ := is_v (Cond.before_iff.mp (hsets _ (List.mem_of_getElem? (i := 1) rfl)))
  have Sc : Sta s s.heap "java/lang/String" "COMPACT_STRINGS" "Z" (.int cz) := Sta.start ecz (Or.inl (hsets _ (List.mem_of_getElem? (i := 0) rfl)))
  have hcz : ¬ cz = 0 := own_ne ecz (Cond.before_iff.mp (hsets _ (List.mem_of_getElem? (i := 2) rfl)))
  obtain ⟨fm, efm, rf⟩ := isR_v (Cond.before_iff.mp (hsets _ (List.mem_of_getElem? (i := 8) rfl)))
  have Sf : Sta s s.heap "jdk/internal/util/Preconditions" "SIOOBE_FORMATTER" "Ljava/util/function/BiFunction;" fm := Sta.start efm (Or.inl (hsets _ (List.mem_of_getElem? (i := 7) rfl)))
  obtain ⟨n, o, h1, h2, h3, _, L, rfl, ⟨rfl, N⟩, hq⟩ := rm0 l s _ hw tables_1 i0 i1 cz al cal fm s.heap s.heap.size (Nat.le_refl _) Sal Aal hal0 hal Sc hcz Sf rf p e ha hc hk s m _ below hf ((Spec.applies_iff_loose hf).mp happ).1 ⟨rfl, State.Warmed39.refl s, rfl⟩ trivial
  refine ⟨n, _, h1, h2, h3, hpost _ _ _ _ _ _ ⟨Cond.after_iff.mpr rfl, Cond.after_iff.mpr (eq_i res_at (Term.int_eval (1)) rfl), trivial⟩ ⟨hq.1, hq.2.1, (hq.2.2.sift fun y hy => Or.inr (N y hy)).mono (by decide) (by decide)⟩⟩
theorem main_1_1 : Claimed_1_1 := comes_1 fun _ _ _ _ _ _ h hF => ⟨h.1, hF⟩
theorem main_1_2 : Claimed_1_2 := comes_1 fun _ _ _ _ _ _ h hF => ⟨h.2.1, hF⟩

end Jvm.Pilot.@@N@@
namespace Jvm.Pilot.@@N@@
open Jvm Jvm.ClassFile Sem Op Lib Jvm.Free Jvm.Stand Jvm.Pilot.@@N@@.Jvm.D
/-! MADE BY PROGRAM (witnessworld.py) out of the Statement's table words and the real class files: 23 classes; the members and pool entries that the words name. The judged class is class 1, her method 1. -/
namespace start1
open Jvm.ClassFile
def u (s : String) : CpInfo := .utf8 (stringToUtf16 s)
/-- a pool by its gaps: so many unusable entries, then the entry; so many at the end -/
def gap : Nat → List CpInfo → List CpInfo
  | 0, r => r
  | n + 1, r => .unusable :: gap n r
def poolList (es : List (Nat × CpInfo)) (last : Nat) : List CpInfo := es.foldr (fun e r => gap e.1 (e.2 :: r)) (gap last [])
def pool (es : List (Nat × CpInfo)) (last : Nat) : Array CpInfo := ⟨poolList es last⟩
def fileOf (pool : Array CpInfo) (this : Nat) (attrs : Array Attribute := #[]) (ms : Array MethodInfo := #[]) (fl : Nat := 33) (sup : Nat := 0) (ifs : Array Nat := #[]) (fds : Array FieldInfo := #[]) : ClassFile where
  minorVersion := 0
  majorVersion := 65
  constantPool := pool
  accessFlags := fl
  thisClass := this
  superClass := sup
  interfaces := ifs
  fields := fds
  methods := ms
  attributes := attrs
def plain (name : String) (sup : Option ClassId) : Class where
  name := name
  kind := .ordinary
  loader := none
  accessFlags := 33
  super := sup
  interfaces := #[]
  cf := none
  fields := #[]
  methods := #[]
  instanceTypes := #[]
  staticTypes := #[]
  resolved := #[]
  callSites := []
  init := .initialized
  statics := none
  mirror := none

def pool0 : Array CpInfo := pool [(5, u "<init>"), (0, u "()V"), (1, .class_ 10), (1, u "java/lang/Object"), (85, u "clone"), (0, u "()Ljava/lang/Object;")] 26

def k0c0 : Code := { maxStack := 0, maxLocals := 1, code := object_method_1_code, exceptionTable := #[], attributes := #[] }
def k0m0 : Method := { name := "<init>", desc := "()V", sig := { parameters := [], returnType := none }, accessFlags := 1, code := some k0c0 }
def k0m1 : Method := { name := "clone", desc := "()Ljava/lang/Object;", sig := { parameters := [], returnType := some (.object "java/lang/Object") }, accessFlags := 260, code := none }
/-- java/lang/Object -/
def k0 : Class := { plain "java/lang/Object" none with
  accessFlags := 33
  interfaces := #[]
  cf := some (fileOf pool0 8 #[] #[{ accessFlags := 1, nameIndex := 5, descriptorIndex := 6, attributes := #[] }, { accessFlags := 260, nameIndex := 96, descriptorIndex := 97, attributes := #[] }] 33 0 #[] #[])
  fields := #[]
  methods := #[k0m0, k0m1]
  instanceTypes := #[]
  staticTypes := #[]
  resolved := Array.replicate 124 none
  statics := none }

def pool1 : Array CpInfo := pool [(2, .class_ 4), (1, u "java/lang/Object"), (0, u "<init>"), (0, u "()V"), (0, .integer 2147483647), (0, .methodref 9 10), (0, .class_ 11), (0, .nameAndType 12 13), (0, u "com/example/idpd/idpd/Base32"), (0, u "encode"), (0, u "([B)Ljava/lang/String;"), (0, .methodref 15 16), (0, .class_ 17), (0, .nameAndType 18 19), (0, u "java/lang/String"), (0, u "length"), (0, u "()I"), (0, .long 18446744073709551615), (1, .long 31), (1, .methodref 25 26), (0, .class_ 27), (0, .nameAndType 28 29), (0, u "com/example/idpd/idpd/Base32EncodePinLaw"), (0, u "at"), (0, u "(Ljava/lang/String;III)Z"), (0, .long 15), (1, .methodref 15 33), (0, .nameAndType 34 35), (0, u "charAt"), (0, u "(I)C"), (0, .methodref 25 37), (0, .nameAndType 38 35), (0, u "sym"), (2, u "law"), (0, u "(JI)Z")] 5

def k1m0 : Method := { name := "<init>", desc := "()V", sig := { parameters := [], returnType := none }, accessFlags := 1, code := none }
def k1c1 : Code := { maxStack := 7, maxLocals := 10, code := code, exceptionTable := #[], attributes := #[] }
def k1m1 : Method := { name := "law", desc := "(JI)Z", sig := { parameters := [.long, .int], returnType := some .boolean }, accessFlags := 9, code := some k1c1 }
def k1c2 : Code := { maxStack := 2, maxLocals := 4, code := method_3_code, exceptionTable := #[], attributes := #[] }
def k1m2 : Method := { name := "at", desc := "(Ljava/lang/String;III)Z", sig := { parameters := [(.object "java/lang/String"), .int, .int, .int], returnType := some .boolean }, accessFlags := 10, code := some k1c2 }
def k1c3 : Code := { maxStack := 2, maxLocals := 1, code := method_4_code, exceptionTable := #[], attributes := #[] }
def k1m3 : Method := { name := "sym", desc := "(I)C", sig := { parameters := [.int], returnType := some .char }, accessFlags := 10, code := some k1c3 }
/-- com/example/idpd/idpd/Base32EncodePinLaw -/
def k1 : Class := { plain "com/example/idpd/idpd/Base32EncodePinLaw" (some 0) with
  accessFlags := 49
  interfaces := #[]
  cf := some (fileOf pool1 25 #[] #[{ accessFlags := 1, nameIndex := 5, descriptorIndex := 6, attributes := #[] }, { accessFlags := 9, nameIndex := 41, descriptorIndex := 42, attributes := #[] }, { accessFlags := 10, nameIndex := 28, descriptorIndex := 29, attributes := #[] }, { accessFlags := 10, nameIndex := 38, descriptorIndex := 35, attributes := #[] }] 49 2 #[] #[])
  fields := #[]
  methods := #[k1m0, k1m1, k1m2, k1m3]
  instanceTypes := #[]
  staticTypes := #[]
  resolved := Array.replicate 48 none
  statics := none }

def pool2 : Array CpInfo := pool [(2, .class_ 4), (1, u "java/lang/Object"), (0, u "<init>"), (0, u "()V"), (0, .class_ 8), (0, u "java/lang/StringBuilder"), (0, .class_ 10), (0, u "com/example/idpd/idpd/Base32"), (0, .methodref 7 12), (0, .nameAndType 5 13), (0, u "(I)V"), (0, .fieldref 9 15), (0, .nameAndType 16 17), (0, u "ALPHABET"), (0, u "[C"), (0, .methodref 7 19), (0, .nameAndType 20 21), (0, u "append"), (0, u "(C)Ljava/lang/StringBuilder;"), (0, .methodref 7 23), (0, .nameAndType 24 25), (0, u "toString"), (0, u "()Ljava/lang/String;"), (8, u "BITS_PER_CHARACTER"), (0, u "I"), (4, u "encode"), (0, u "([B)Ljava/lang/String;")] 6

def k2m0 : Method := { name := "<init>", desc := "()V", sig := { parameters := [], returnType := none }, accessFlags := 2, code := none }
def k2c1 : Code := { maxStack := 5, maxLocals := 8, code := prog_7_method_2_code, exceptionTable := #[], attributes := #[] }
def k2m1 : Method := { name := "encode", desc := "([B)Ljava/lang/String;", sig := { parameters := [(.array .byte)], returnType := some (.object "java/lang/String") }, accessFlags := 8, code := some k2c1 }
/-- com/example/idpd/idpd/Base32 -/
def k2 : Class := { plain "com/example/idpd/idpd/Base32" (some 0) with
  accessFlags := 32
  interfaces := #[]
  cf := some (fileOf pool2 9 #[] #[{ accessFlags := 2, nameIndex := 5, descriptorIndex := 6, attributes := #[] }, { accessFlags := 8, nameIndex := 40, descriptorIndex := 41, attributes := #[] }] 32 2 #[] #[{ accessFlags := 26, nameIndex := 16, descriptorIndex := 17, attributes := #[] }, { accessFlags := 26, nameIndex := 34, descriptorIndex := 35, attributes := #[] }])
  fields := #[{ name := "ALPHABET", type := (.array .char), accessFlags := 26, slot := 0, constantValue := 0 }, { name := "BITS_PER_CHARACTER", type := .int, accessFlags := 26, slot := 1, constantValue := 0 }]
  methods := #[k2m0, k2m1]
  instanceTypes := #[]
  staticTypes := #[(.array .char), .int]
  resolved := Array.replicate 48 none
  statics := some 0 }

def pool3 : Array CpInfo := pool [(1, .class_ 2), (0, u "java/lang/Appendable"), (0, .class_ 4), (0, u "java/lang/Object")] 9

/-- java/lang/Appendable -/
def k3 : Class := { plain "java/lang/Appendable" (some 0) with
  accessFlags := 1537
  interfaces := #[]
  cf := some (fileOf pool3 1 #[] #[] 1537 3 #[] #[])
  fields := #[]
  methods := #[]
  instanceTypes := #[]
  staticTypes := #[]
  resolved := Array.replicate 14 none
  statics := none }

def pool4 : Array CpInfo := pool [(2, .class_ 4), (1, u "java/lang/CharSequence"), (42, .class_ 48), (0, u "java/lang/CharSequence$1CodePointIterator"), (10, .class_ 60), (0, u "java/lang/CharSequence$1CharIterator"), (5, .class_ 67), (0, u "java/lang/Object")] 63

/-- java/lang/CharSequence -/
def k4 : Class := { plain "java/lang/CharSequence" (some 0) with
  accessFlags := 1537
  interfaces := #[]
  cf := some (fileOf pool4 2 #[.nestMembers #[47, 59]] #[] 1537 66 #[] #[])
  fields := #[]
  methods := #[]
  instanceTypes := #[]
  staticTypes := #[]
  resolved := Array.replicate 131 none
  statics := none }

def pool5 : Array CpInfo := pool [(1, .class_ 2), (0, u "java/lang/String"), (0, .methodref 4 5), (0, .class_ 6), (0, .nameAndType 7 8), (0, u "java/lang/Object"), (0, u "<init>"), (0, u "()V"), (1, .class_ 12), (1, u "java/lang/AbstractStringBuilder"), (0, u "EMPTYVALUE"), (0, u "[B"), (0, .fieldref 10 16), (0, .nameAndType 17 14), (0, u "value"), (0, .fieldref 1 19), (0, .nameAndType 20 21), (0, u "COMPACT_STRINGS"), (0, u "Z"), (0, .fieldref 10 23), (0, .nameAndType 24 25), (0, u "coder"), (0, u "B"), (8, u "length"), (0, u "()I"), (9, u "append"), (2, .class_ 49), (0, u "java/lang/CharSequence"), (25, u "maybeLatin1"), (3, .fieldref 10 80), (0, .nameAndType 81 82), (0, u "count"), (0, u "I"), (0, .methodref 10 84), (0, .nameAndType 85 86), (0, u "isLatin1"), (0, u "()Z"), (1, .class_ 90), (1, u "java/lang/StringLatin1"), (9, .methodref 10 101), (0, .nameAndType 102 103), (0, u "ensureCapacityInternal"), (0, u "(I)V"), (87, .methodref 88 192), (0, .nameAndType 193 194), (0, u "canEncode"), (0, u "(C)Z"), (97, u "(C)Ljava/lang/AbstractStringBuilder;"), (110, u "()[B"), (40, .class_ 445), (0, u "java/lang/Appendable"), (106, u "getValue")] 56

def k5m0 : Method := { name := "<init>", desc := "()V", sig := { parameters := [], returnType := none }, accessFlags := 0, code := none }
def k5c1 : Code := { maxStack := 2, maxLocals := 2, code := jdk_68_method_2_code, exceptionTable := #[], attributes := #[] }
def k5m1 : Method := { name := "<init>", desc := "(I)V", sig := { parameters := [.int], returnType := none }, accessFlags := 0, code := some k5c1 }
def k5c2 : Code := { maxStack := 1, maxLocals := 1, code := jdk_68_method_6_code, exceptionTable := #[], attributes := #[] }
def k5m2 : Method := { name := "length", desc := "()I", sig := { parameters := [], returnType := some .int }, accessFlags := 1, code := some k5c2 }
def k5c3 : Code := { maxStack := 4, maxLocals := 3, code := jdk_68_method_9_code, exceptionTable := #[], attributes := #[] }
def k5m3 : Method := { name := "ensureCapacityInternal", desc := "(I)V", sig := { parameters := [.int], returnType := none }, accessFlags := 2, code := some k5c3 }
def k5c4 : Code := { maxStack := 5, maxLocals := 2, code := jdk_68_method_31_code, exceptionTable := #[], attributes := #[] }
def k5m4 : Method := { name := "append", desc := "(C)Ljava/lang/AbstractStringBuilder;", sig := { parameters := [.char], returnType := some (.object "java/lang/AbstractStringBuilder") }, accessFlags := 1, code := some k5c4 }
def k5c5 : Code := { maxStack := 1, maxLocals := 1, code := jdk_68_method_64_code, exceptionTable := #[], attributes := #[] }
def k5m5 : Method := { name := "getValue", desc := "()[B", sig := { parameters := [], returnType := some (.array .byte) }, accessFlags := 16, code := some k5c5 }
def k5c6 : Code := { maxStack := 1, maxLocals := 1, code := jdk_68_method_68_code, exceptionTable := #[], attributes := #[] }
def k5m6 : Method := { name := "isLatin1", desc := "()Z", sig := { parameters := [], returnType := some .boolean }, accessFlags := 16, code := some k5c6 }
/-- java/lang/AbstractStringBuilder -/
def k5 : Class := { plain "java/lang/AbstractStringBuilder" (some 0) with
  accessFlags := 1056
  interfaces := #[3, 4]
  cf := some (fileOf pool5 10 #[] #[{ accessFlags := 0, nameIndex := 7, descriptorIndex := 8, attributes := #[] }, { accessFlags := 0, nameIndex := 7, descriptorIndex := 103, attributes := #[] }, { accessFlags := 1, nameIndex := 34, descriptorIndex := 35, attributes := #[] }, { accessFlags := 2, nameIndex := 102, descriptorIndex := 103, attributes := #[] }, { accessFlags := 1, nameIndex := 45, descriptorIndex := 292, attributes := #[] }, { accessFlags := 16, nameIndex := 552, descriptorIndex := 403, attributes := #[] }, { accessFlags := 16, nameIndex := 85, descriptorIndex := 86, attributes := #[] }] 1056 4 #[444, 48] #[{ accessFlags := 0, nameIndex := 17, descriptorIndex := 14, attributes := #[] }, { accessFlags := 0, nameIndex := 24, descriptorIndex := 25, attributes := #[] }, { accessFlags := 0, nameIndex := 75, descriptorIndex := 21, attributes := #[] }, { accessFlags := 0, nameIndex := 81, descriptorIndex := 82, attributes := #[] }, { accessFlags := 26, nameIndex := 13, descriptorIndex := 14, attributes := #[] }])
  fields := #[{ name := "value", type := (.array .byte), accessFlags := 0, slot := 0, constantValue := 0 }, { name := "coder", type := .byte, accessFlags := 0, slot := 1, constantValue := 0 }, { name := "maybeLatin1", type := .boolean, accessFlags := 0, slot := 2, constantValue := 0 }, { name := "count", type := .int, accessFlags := 0, slot := 3, constantValue := 0 }, { name := "EMPTYVALUE", type := (.array .byte), accessFlags := 26, slot := 0, constantValue := 0 }]
  methods := #[k5m0, k5m1, k5m2, k5m3, k5m4, k5m5, k5m6]
  instanceTypes := #[(.array .byte), .byte, .boolean, .int]
  staticTypes := #[(.array .byte)]
  resolved := Array.replicate 609 none
  statics := none }

def pool6 : Array CpInfo := pool [(1, .class_ 2), (0, u "java/io/Serializable"), (0, .class_ 4), (0, u "java/lang/Object")] 2

/-- java/io/Serializable -/
def k6 : Class := { plain "java/io/Serializable" (some 0) with
  accessFlags := 1537
  interfaces := #[]
  cf := some (fileOf pool6 1 #[] #[] 1537 3 #[] #[])
  fields := #[]
  methods := #[]
  instanceTypes := #[]
  staticTypes := #[]
  resolved := Array.replicate 7 none
  statics := none }

def pool7 : Array CpInfo := pool [(1, .class_ 2), (0, u "java/lang/Comparable"), (0, .class_ 4), (0, u "java/lang/Object")] 7

/-- java/lang/Comparable -/
def k7 : Class := { plain "java/lang/Comparable" (some 0) with
  accessFlags := 1537
  interfaces := #[]
  cf := some (fileOf pool7 1 #[] #[] 1537 3 #[] #[])
  fields := #[]
  methods := #[]
  instanceTypes := #[]
  staticTypes := #[]
  resolved := Array.replicate 12 none
  statics := none }

def pool8 : Array CpInfo := pool [(1, .methodref 2 3), (0, .class_ 4), (0, .nameAndType 5 6), (0, u "java/lang/AbstractStringBuilder"), (0, u "<init>"), (0, u "(I)V"), (11, .class_ 20), (1, u "java/lang/String"), (3, .class_ 26), (1, u "java/lang/StringBuilder"), (0, u "append"), (22, .methodref 2 51), (0, .nameAndType 27 52), (0, u "(C)Ljava/lang/AbstractStringBuilder;"), (84, .methodref 18 138), (0, .nameAndType 5 139), (0, u "(Ljava/lang/StringBuilder;)V"), (5, u "()V"), (10, u "()I"), (129, u "(C)Ljava/lang/StringBuilder;"), (56, .methodref 2 344), (0, .nameAndType 345 156), (0, u "length"), (3, .class_ 350), (0, u "java/lang/Appendable"), (0, .class_ 352), (0, u "java/io/Serializable"), (0, .class_ 354), (0, u "java/lang/Comparable"), (0, .class_ 356), (0, u "java/lang/CharSequence"), (0, u "serialVersionUID"), (0, u "J"), (40, u "toString"), (0, u "()Ljava/lang/String;")] 21

def k8m0 : Method := { name := "<init>", desc := "()V", sig := { parameters := [], returnType := none }, accessFlags := 1, code := none }
def k8c1 : Code := { maxStack := 2, maxLocals := 2, code := jdk_67_method_2_code, exceptionTable := #[], attributes := #[] }
def k8m1 : Method := { name := "<init>", desc := "(I)V", sig := { parameters := [.int], returnType := none }, accessFlags := 1, code := some k8c1 }
def k8c2 : Code := { maxStack := 2, maxLocals := 2, code := jdk_67_method_14_code, exceptionTable := #[], attributes := #[] }
def k8m2 : Method := { name := "append", desc := "(C)Ljava/lang/StringBuilder;", sig := { parameters := [.char], returnType := some (.object "java/lang/StringBuilder") }, accessFlags := 1, code := some k8c2 }
def k8c3 : Code := { maxStack := 3, maxLocals := 1, code := jdk_67_method_42_code, exceptionTable := #[], attributes := #[] }
def k8m3 : Method := { name := "toString", desc := "()Ljava/lang/String;", sig := { parameters := [], returnType := some (.object "java/lang/String") }, accessFlags := 1, code := some k8c3 }
def k8c4 : Code := { maxStack := 1, maxLocals := 1, code := jdk_67_method_93_code, exceptionTable := #[], attributes := #[] }
def k8m4 : Method := { name := "length", desc := "()I", sig := { parameters := [], returnType := some .int }, accessFlags := 4161, code := some k8c4 }
/-- java/lang/StringBuilder -/
def k8 : Class := { plain "java/lang/StringBuilder" (some 5) with
  accessFlags := 49
  interfaces := #[3, 6, 7, 4]
  cf := some (fileOf pool8 24 #[] #[{ accessFlags := 1, nameIndex := 5, descriptorIndex := 145, attributes := #[] }, { accessFlags := 1, nameIndex := 5, descriptorIndex := 6, attributes := #[] }, { accessFlags := 1, nameIndex := 27, descriptorIndex := 286, attributes := #[] }, { accessFlags := 1, nameIndex := 399, descriptorIndex := 400, attributes := #[] }, { accessFlags := 4161, nameIndex := 345, descriptorIndex := 156, attributes := #[] }] 49 2 #[349, 351, 353, 355] #[{ accessFlags := 24, nameIndex := 357, descriptorIndex := 358, attributes := #[] }])
  fields := #[{ name := "serialVersionUID", type := .long, accessFlags := 24, slot := 0, constantValue := 0 }]
  methods := #[k8m0, k8m1, k8m2, k8m3, k8m4]
  instanceTypes := #[(.array .byte), .byte, .boolean, .int]
  staticTypes := #[.long]
  resolved := Array.replicate 422 none
  statics := none }

def pool9 : Array CpInfo := pool [(1, .class_ 2), (0, u "java/lang/constant/Constable"), (0, .class_ 4), (0, u "java/lang/Object")] 6

/-- java/lang/constant/Constable -/
def k9 : Class := { plain "java/lang/constant/Constable" (some 0) with
  accessFlags := 1537
  interfaces := #[]
  cf := some (fileOf pool9 1 #[] #[] 1537 3 #[] #[])
  fields := #[]
  methods := #[]
  instanceTypes := #[]
  staticTypes := #[]
  resolved := Array.replicate 11 none
  statics := none }

def pool10 : Array CpInfo := pool [(1, .class_ 2), (0, u "java/lang/constant/ConstantDesc"), (0, .class_ 4), (0, u "java/lang/Object")] 32

/-- java/lang/constant/ConstantDesc -/
def k10 : Class := { plain "java/lang/constant/ConstantDesc" (some 0) with
  accessFlags := 1537
  interfaces := #[]
  cf := some (fileOf pool10 1 #[] #[] 1537 3 #[] #[])
  fields := #[]
  methods := #[]
  instanceTypes := #[]
  staticTypes := #[]
  resolved := Array.replicate 37 none
  statics := none }

def pool11 : Array CpInfo := pool [(1, .methodref 2 3), (0, .class_ 4), (0, .nameAndType 5 6), (0, u "java/lang/Object"), (0, u "<init>"), (0, u "()V"), (2, .fieldref 10 11), (0, .class_ 12), (0, .nameAndType 13 14), (0, u "java/lang/String"), (0, u "value"), (0, u "[B"), (0, .fieldref 10 16), (0, .nameAndType 17 18), (0, u "coder"), (0, u "B"), (2, u "hash"), (0, u "I"), (2, u "hashIsZero"), (0, u "Z"), (11, .fieldref 10 39), (0, .nameAndType 40 26), (0, u "COMPACT_STRINGS"), (13, .methodref 55 56), (0, .class_ 57), (0, .nameAndType 58 59), (0, u "java/util/Arrays"), (0, u "copyOfRange"), (0, u "([BII)[B"), (47, .class_ 109), (1, u "java/lang/StringLatin1"), (32, u "()Z"), (191, u "()I"), (0, .methodref 10 336), (0, .nameAndType 17 337), (0, u "()B"), (2, u "()[B"), (22, u "([BI)C"), (27, u "(II)V"), (35, u "(I)C"), (61, .methodref 10 490), (0, .nameAndType 5 491), (0, u "(Ljava/lang/AbstractStringBuilder;Ljava/lang/Void;)V"), (0, .methodref 10 493), (0, .nameAndType 494 142), (0, u "isLatin1"), (0, .methodref 107 496), (0, .nameAndType 497 363), (0, u "charAt"), (3, u "checkIndex"), (4, .nameAndType 507 334), (0, u "length"), (41, .methodref 550 506), (0, .class_ 551), (0, u "java/lang/AbstractStringBuilder"), (0, .methodref 550 553), (0, .nameAndType 554 340), (0, u "getValue"), (20, .class_ 576), (0, u "java/lang/CharSequence"), (22, u "CASE_INSENSITIVE_ORDER"), (0, u "Ljava/util/Comparator;"), (446, .methodref 550 493), (5, .fieldref 1054 1055), (0, .class_ 1056), (0, .nameAndType 1057 1058), (0, u "jdk/internal/util/Preconditions"), (0, u "SIOOBE_FORMATTER"), (0, u "Ljava/util/function/BiFunction;"), (0, .methodref 1054 1060), (0, .nameAndType 501 1061), (0, u "(IILjava/util/function/BiFunction;)I"), (39, u "serialPersistentFields"), (0, u "[Ljava/io/ObjectStreamField;"), (0, .class_ 1104), (0, u "java/lang/String$CaseInsensitiveComparator"), (1, .class_ 1107), (0, u "java/io/Serializable"), (0, .class_ 1109), (0, u "java/lang/Comparable"), (0, .class_ 1111), (0, u "java/lang/constant/Constable"), (0, .class_ 1113), (0, u "java/lang/constant/ConstantDesc"), (2, u "serialVersionUID"), (0, u "J"), (3, u "REPL"), (0, u "C"), (2, u "LATIN1"), (1, u "UTF16"), (105, u "(Ljava/lang/StringBuilder;)V")] 217

def k11m0 : Method := { name := "<init>", desc := "()V", sig := { parameters := [], returnType := none }, accessFlags := 1, code := none }
def k11c1 : Code := { maxStack := 3, maxLocals := 2, code := jdk_42_method_53_code, exceptionTable := #[], attributes := #[] }
def k11m1 : Method := { name := "<init>", desc := "(Ljava/lang/StringBuilder;)V", sig := { parameters := [(.object "java/lang/StringBuilder")], returnType := none }, accessFlags := 1, code := some k11c1 }
def k11c2 : Code := { maxStack := 2, maxLocals := 1, code := jdk_42_method_54_code, exceptionTable := #[], attributes := #[] }
def k11m2 : Method := { name := "length", desc := "()I", sig := { parameters := [], returnType := some .int }, accessFlags := 1, code := some k11c2 }
def k11c3 : Code := { maxStack := 2, maxLocals := 2, code := jdk_42_method_56_code, exceptionTable := #[], attributes := #[] }
def k11m3 : Method := { name := "charAt", desc := "(I)C", sig := { parameters := [.int], returnType := some .char }, accessFlags := 1, code := some k11c3 }
def k11c4 : Code := { maxStack := 5, maxLocals := 5, code := jdk_42_method_150_code, exceptionTable := #[], attributes := #[] }
def k11m4 : Method := { name := "<init>", desc := "(Ljava/lang/AbstractStringBuilder;Ljava/lang/Void;)V", sig := { parameters := [(.object "java/lang/AbstractStringBuilder"), (.object "java/lang/Void")], returnType := none }, accessFlags := 0, code := some k11c4 }
def k11c5 : Code := { maxStack := 1, maxLocals := 1, code := jdk_42_method_152_code, exceptionTable := #[], attributes := #[] }
def k11m5 : Method := { name := "coder", desc := "()B", sig := { parameters := [], returnType := some .byte }, accessFlags := 0, code := some k11c5 }
def k11c6 : Code := { maxStack := 1, maxLocals := 1, code := jdk_42_method_154_code, exceptionTable := #[], attributes := #[] }
def k11m6 : Method := { name := "isLatin1", desc := "()Z", sig := { parameters := [], returnType := some .boolean }, accessFlags := 0, code := some k11c6 }
def k11c7 : Code := { maxStack := 3, maxLocals := 2, code := jdk_42_method_155_code, exceptionTable := #[], attributes := #[] }
def k11m7 : Method := { name := "checkIndex", desc := "(II)V", sig := { parameters := [.int, .int], returnType := none }, accessFlags := 8, code := some k11c7 }
/-- java/lang/String -/
def k11 : Class := { plain "java/lang/String" (some 0) with
  accessFlags := 49
  interfaces := #[6, 7, 4, 9, 10]
  cf := some (fileOf pool11 10 #[.nestMembers #[1103]] #[{ accessFlags := 1, nameIndex := 5, descriptorIndex := 6, attributes := #[] }, { accessFlags := 1, nameIndex := 5, descriptorIndex := 1233, attributes := #[] }, { accessFlags := 1, nameIndex := 507, descriptorIndex := 334, attributes := #[] }, { accessFlags := 1, nameIndex := 497, descriptorIndex := 427, attributes := #[] }, { accessFlags := 0, nameIndex := 5, descriptorIndex := 491, attributes := #[] }, { accessFlags := 0, nameIndex := 17, descriptorIndex := 337, attributes := #[] }, { accessFlags := 0, nameIndex := 494, descriptorIndex := 142, attributes := #[] }, { accessFlags := 8, nameIndex := 501, descriptorIndex := 391, attributes := #[] }] 49 2 #[1106, 1108, 575, 1110, 1112] #[{ accessFlags := 18, nameIndex := 13, descriptorIndex := 14, attributes := #[] }, { accessFlags := 18, nameIndex := 17, descriptorIndex := 18, attributes := #[] }, { accessFlags := 2, nameIndex := 21, descriptorIndex := 22, attributes := #[] }, { accessFlags := 2, nameIndex := 25, descriptorIndex := 26, attributes := #[] }, { accessFlags := 26, nameIndex := 1116, descriptorIndex := 1117, attributes := #[] }, { accessFlags := 24, nameIndex := 40, descriptorIndex := 26, attributes := #[] }, { accessFlags := 26, nameIndex := 1101, descriptorIndex := 1102, attributes := #[] }, { accessFlags := 26, nameIndex := 1121, descriptorIndex := 1122, attributes := #[] }, { accessFlags := 25, nameIndex := 599, descriptorIndex := 600, attributes := #[] }, { accessFlags := 24, nameIndex := 1125, descriptorIndex := 18, attributes := #[] }, { accessFlags := 24, nameIndex := 1127, descriptorIndex := 18, attributes := #[] }])
  fields := #[{ name := "value", type := (.array .byte), accessFlags := 18, slot := 0, constantValue := 0 }, { name := "coder", type := .byte, accessFlags := 18, slot := 1, constantValue := 0 }, { name := "hash", type := .int, accessFlags := 2, slot := 2, constantValue := 0 }, { name := "hashIsZero", type := .boolean, accessFlags := 2, slot := 3, constantValue := 0 }, { name := "serialVersionUID", type := .long, accessFlags := 26, slot := 0, constantValue := 0 }, { name := "COMPACT_STRINGS", type := .boolean, accessFlags := 24, slot := 1, constantValue := 0 }, { name := "serialPersistentFields", type := (.array (.object "java/io/ObjectStreamField")), accessFlags := 26, slot := 2, constantValue := 0 }, { name := "REPL", type := .char, accessFlags := 26, slot := 3, constantValue := 0 }, { name := "CASE_INSENSITIVE_ORDER", type := (.object "java/util/Comparator"), accessFlags := 25, slot := 4, constantValue := 0 }, { name := "LATIN1", type := .byte, accessFlags := 24, slot := 5, constantValue := 0 }, { name := "UTF16", type := .byte, accessFlags := 24, slot := 6, constantValue := 0 }]
  methods := #[k11m0, k11m1, k11m2, k11m3, k11m4, k11m5, k11m6, k11m7]
  instanceTypes := #[(.array .byte), .byte, .int, .boolean]
  staticTypes := #[.long, .boolean, (.array (.object "java/io/ObjectStreamField")), .char, (.object "java/util/Comparator"), .byte, .byte]
  resolved := Array.replicate 1451 none
  statics := some 1 }

def pool12 : Array CpInfo := pool [(1, .class_ 2), (0, u "java/lang/String"), (1, .class_ 6), (1, u "java/lang/Object"), (0, u "<init>"), (0, u "()V"), (0, .methodref 1 10), (0, .nameAndType 11 12), (0, u "checkIndex"), (0, u "(II)V"), (1, .class_ 16), (1, u "java/lang/StringLatin1"), (36, u "([BI)C"), (36, u "canEncode"), (14, u "(C)Z"), (15, u "$assertionsDisabled"), (0, u "Z"), (98, .class_ 223), (1, u "java/lang/StringLatin1$LinesSpliterator"), (28, u "charAt"), (137, .class_ 391), (0, u "java/lang/StringLatin1$CharsSpliterator")] 3

def k12m0 : Method := { name := "<init>", desc := "()V", sig := { parameters := [], returnType := none }, accessFlags := 0, code := none }
def k12c1 : Code := { maxStack := 2, maxLocals := 2, code := jdk_43_method_2_code, exceptionTable := #[], attributes := #[] }
def k12m1 : Method := { name := "charAt", desc := "([BI)C", sig := { parameters := [(.array .byte), .int], returnType := some .char }, accessFlags := 9, code := some k12c1 }
def k12c2 : Code := { maxStack := 2, maxLocals := 1, code := jdk_43_method_3_code, exceptionTable := #[], attributes := #[] }
def k12m2 : Method := { name := "canEncode", desc := "(C)Z", sig := { parameters := [.char], returnType := some .boolean }, accessFlags := 9, code := some k12c2 }
/-- java/lang/StringLatin1 -/
def k12 : Class := { plain "java/lang/StringLatin1" (some 0) with
  accessFlags := 48
  interfaces := #[]
  cf := some (fileOf pool12 14 #[.nestMembers #[390, 221]] #[{ accessFlags := 0, nameIndex := 7, descriptorIndex := 8, attributes := #[] }, { accessFlags := 9, nameIndex := 252, descriptorIndex := 53, attributes := #[] }, { accessFlags := 9, nameIndex := 90, descriptorIndex := 105, attributes := #[] }] 48 4 #[] #[{ accessFlags := 4120, nameIndex := 121, descriptorIndex := 122, attributes := #[] }])
  fields := #[{ name := "$assertionsDisabled", type := .boolean, accessFlags := 4120, slot := 0, constantValue := 0 }]
  methods := #[k12m0, k12m1, k12m2]
  instanceTypes := #[]
  staticTypes := #[.boolean]
  resolved := Array.replicate 395 none
  statics := none }

def pool13 : Array CpInfo := pool [(2, .class_ 4), (1, u "java/lang/Object"), (0, u "<init>"), (0, u "()V"), (7, .class_ 16), (1, u "java/util/Arrays"), (57, .class_ 76), (1, u "java/util/Arrays$NaturalOrder"), (32, u "()Ljava/lang/Object;"), (3, .class_ 115), (1, u "java/util/Arrays$LegacyMergeSort"), (1, u "Z"), (10, .nameAndType 129 109), (0, u "clone"), (9, u "copyOfRange"), (170, .methodref 311 128), (0, .class_ 312), (0, u "[B"), (29, u "([BII)[B"), (32, .class_ 376), (0, u "java/util/Arrays$ArrayList"), (68, u "$assertionsDisabled"), (269, u "MIN_ARRAY_SORT_GRAN"), (0, u "I"), (2, u "INSERTIONSORT_THRESHOLD"), (255, .class_ 976), (0, u "java/util/Arrays$ArrayItr")] 52

def k13m0 : Method := { name := "<init>", desc := "()V", sig := { parameters := [], returnType := none }, accessFlags := 2, code := none }
def k13c1 : Code := { maxStack := 3, maxLocals := 3, code := jdk_65_method_132_code, exceptionTable := #[], attributes := #[] }
def k13m1 : Method := { name := "copyOfRange", desc := "([BII)[B", sig := { parameters := [(.array .byte), .int, .int], returnType := some (.array .byte) }, accessFlags := 9, code := some k13c1 }
/-- java/util/Arrays -/
def k13 : Class := { plain "java/util/Arrays" (some 0) with
  accessFlags := 49
  interfaces := #[]
  cf := some (fileOf pool13 14 #[.nestMembers #[975, 375, 113, 74]] #[{ accessFlags := 2, nameIndex := 5, descriptorIndex := 6, attributes := #[] }, { accessFlags := 9, nameIndex := 139, descriptorIndex := 342, attributes := #[] }] 49 2 #[] #[{ accessFlags := 26, nameIndex := 715, descriptorIndex := 716, attributes := #[] }, { accessFlags := 26, nameIndex := 719, descriptorIndex := 716, attributes := #[] }, { accessFlags := 4120, nameIndex := 445, descriptorIndex := 117, attributes := #[] }])
  fields := #[{ name := "MIN_ARRAY_SORT_GRAN", type := .int, accessFlags := 26, slot := 0, constantValue := 0 }, { name := "INSERTIONSORT_THRESHOLD", type := .int, accessFlags := 26, slot := 1, constantValue := 0 }, { name := "$assertionsDisabled", type := .boolean, accessFlags := 4120, slot := 2, constantValue := 0 }]
  methods := #[k13m0, k13m1]
  instanceTypes := #[]
  staticTypes := #[.int, .int, .boolean]
  resolved := Array.replicate 1029 none
  statics := none }

def pool14 : Array CpInfo := pool [(1, .class_ 2), (0, u "java/lang/Cloneable"), (0, .class_ 4), (0, u "java/lang/Object")] 2

/-- java/lang/Cloneable -/
def k14 : Class := { plain "java/lang/Cloneable" (some 0) with
  accessFlags := 1537
  interfaces := #[]
  cf := some (fileOf pool14 1 #[] #[] 1537 3 #[] #[])
  fields := #[]
  methods := #[]
  instanceTypes := #[]
  staticTypes := #[]
  resolved := Array.replicate 7 none
  statics := none }

def pool15 : Array CpInfo := pool [(2, .class_ 4), (1, u "java/lang/Object"), (0, u "<init>"), (0, u "()V"), (17, .class_ 26), (1, u "jdk/internal/util/Preconditions"), (6, u "checkIndex"), (21, .class_ 56), (0, u "jdk/internal/util/Preconditions$4"), (57, .class_ 115), (0, u "jdk/internal/util/Preconditions$1"), (7, u "SIOOBE_FORMATTER"), (0, u "Ljava/util/function/BiFunction;"), (0, .class_ 126), (0, u "jdk/internal/util/Preconditions$2"), (3, u "AIOOBE_FORMATTER"), (0, .class_ 132), (0, u "jdk/internal/util/Preconditions$3"), (3, u "IOOBE_FORMATTER"), (41, u "(IILjava/util/function/BiFunction;)I")] 15

def k15m0 : Method := { name := "<init>", desc := "()V", sig := { parameters := [], returnType := none }, accessFlags := 1, code := none }
def k15c1 : Code := { maxStack := 3, maxLocals := 3, code := jdk_41_method_11_code, exceptionTable := #[], attributes := #[] }
def k15m1 : Method := { name := "checkIndex", desc := "(IILjava/util/function/BiFunction;)I", sig := { parameters := [.int, .int, (.object "java/util/function/BiFunction")], returnType := some .int }, accessFlags := 9, code := some k15c1 }
/-- jdk/internal/util/Preconditions -/
def k15 : Class := { plain "jdk/internal/util/Preconditions" (some 0) with
  accessFlags := 33
  interfaces := #[]
  cf := some (fileOf pool15 24 #[.nestMembers #[55, 131, 125, 114]] #[{ accessFlags := 1, nameIndex := 5, descriptorIndex := 6, attributes := #[] }, { accessFlags := 9, nameIndex := 33, descriptorIndex := 178, attributes := #[] }] 33 2 #[] #[{ accessFlags := 25, nameIndex := 123, descriptorIndex := 124, attributes := #[] }, { accessFlags := 25, nameIndex := 130, descriptorIndex := 124, attributes := #[] }, { accessFlags := 25, nameIndex := 136, descriptorIndex := 124, attributes := #[] }])
  fields := #[{ name := "SIOOBE_FORMATTER", type := (.object "java/util/function/BiFunction"), accessFlags := 25, slot := 0, constantValue := 0 }, { name := "AIOOBE_FORMATTER", type := (.object "java/util/function/BiFunction"), accessFlags := 25, slot := 1, constantValue := 0 }, { name := "IOOBE_FORMATTER", type := (.object "java/util/function/BiFunction"), accessFlags := 25, slot := 2, constantValue := 0 }]
  methods := #[k15m0, k15m1]
  instanceTypes := #[]
  staticTypes := #[(.object "java/util/function/BiFunction"), (.object "java/util/function/BiFunction"), (.object "java/util/function/BiFunction")]
  resolved := Array.replicate 194 none
  statics := some 2 }

def pool16 : Array CpInfo := pool [(9, u "<init>"), (6, .class_ 18), (1, u "java/lang/Object"), (0, u "()V"), (1, .class_ 23), (1, u "jdk/internal/util/ArraysSupport"), (0, u "LOG2_ARRAY_LONG_INDEX_SCALE"), (0, u "I"), (2, u "U"), (0, u "Ljdk/internal/misc/Unsafe;"), (8, u "BIG_ENDIAN"), (0, u "Z"), (8, u "LOG2_BYTE_BIT_SIZE"), (4, u "LOG2_ARRAY_INT_INDEX_SCALE"), (54, u "JLA"), (0, u "Ljdk/internal/access/JavaLangAccess;"), (11, u "LOG2_ARRAY_BOOLEAN_INDEX_SCALE"), (9, u "LOG2_ARRAY_BYTE_INDEX_SCALE"), (5, u "LOG2_ARRAY_CHAR_INDEX_SCALE"), (5, u "LOG2_ARRAY_SHORT_INDEX_SCALE"), (18, u "LOG2_ARRAY_FLOAT_INDEX_SCALE"), (24, u "LOG2_ARRAY_DOUBLE_INDEX_SCALE"), (89, u "T_BOOLEAN"), (2, u "T_CHAR"), (1, u "T_FLOAT"), (1, u "T_DOUBLE"), (1, u "T_BYTE"), (1, u "T_SHORT"), (1, u "T_INT"), (1, u "T_LONG"), (1, u "SOFT_MAX_ARRAY_LENGTH")] 83

def k16m0 : Method := { name := "<init>", desc := "()V", sig := { parameters := [], returnType := none }, accessFlags := 2, code := none }
/-- jdk/internal/util/ArraysSupport -/
def k16 : Class := { plain "jdk/internal/util/ArraysSupport" (some 0) with
  accessFlags := 33
  interfaces := #[]
  cf := some (fileOf pool16 21 #[] #[{ accessFlags := 2, nameIndex := 9, descriptorIndex := 19, attributes := #[] }] 33 16 #[] #[{ accessFlags := 24, nameIndex := 28, descriptorIndex := 29, attributes := #[] }, { accessFlags := 26, nameIndex := 38, descriptorIndex := 39, attributes := #[] }, { accessFlags := 25, nameIndex := 121, descriptorIndex := 25, attributes := #[] }, { accessFlags := 25, nameIndex := 131, descriptorIndex := 25, attributes := #[] }, { accessFlags := 25, nameIndex := 137, descriptorIndex := 25, attributes := #[] }, { accessFlags := 25, nameIndex := 143, descriptorIndex := 25, attributes := #[] }, { accessFlags := 25, nameIndex := 53, descriptorIndex := 25, attributes := #[] }, { accessFlags := 25, nameIndex := 24, descriptorIndex := 25, attributes := #[] }, { accessFlags := 25, nameIndex := 162, descriptorIndex := 25, attributes := #[] }, { accessFlags := 25, nameIndex := 187, descriptorIndex := 25, attributes := #[] }, { accessFlags := 26, nameIndex := 48, descriptorIndex := 25, attributes := #[] }, { accessFlags := 25, nameIndex := 277, descriptorIndex := 25, attributes := #[] }, { accessFlags := 25, nameIndex := 280, descriptorIndex := 25, attributes := #[] }, { accessFlags := 25, nameIndex := 282, descriptorIndex := 25, attributes := #[] }, { accessFlags := 25, nameIndex := 284, descriptorIndex := 25, attributes := #[] }, { accessFlags := 25, nameIndex := 286, descriptorIndex := 25, attributes := #[] }, { accessFlags := 25, nameIndex := 288, descriptorIndex := 25, attributes := #[] }, { accessFlags := 25, nameIndex := 290, descriptorIndex := 25, attributes := #[] }, { accessFlags := 25, nameIndex := 292, descriptorIndex := 25, attributes := #[] }, { accessFlags := 26, nameIndex := 108, descriptorIndex := 109, attributes := #[] }, { accessFlags := 25, nameIndex := 294, descriptorIndex := 25, attributes := #[] }])
  fields := #[{ name := "U", type := (.object "jdk/internal/misc/Unsafe"), accessFlags := 24, slot := 0, constantValue := 0 }, { name := "BIG_ENDIAN", type := .boolean, accessFlags := 26, slot := 1, constantValue := 0 }, { name := "LOG2_ARRAY_BOOLEAN_INDEX_SCALE", type := .int, accessFlags := 25, slot := 2, constantValue := 0 }, { name := "LOG2_ARRAY_BYTE_INDEX_SCALE", type := .int, accessFlags := 25, slot := 3, constantValue := 0 }, { name := "LOG2_ARRAY_CHAR_INDEX_SCALE", type := .int, accessFlags := 25, slot := 4, constantValue := 0 }, { name := "LOG2_ARRAY_SHORT_INDEX_SCALE", type := .int, accessFlags := 25, slot := 5, constantValue := 0 }, { name := "LOG2_ARRAY_INT_INDEX_SCALE", type := .int, accessFlags := 25, slot := 6, constantValue := 0 }, { name := "LOG2_ARRAY_LONG_INDEX_SCALE", type := .int, accessFlags := 25, slot := 7, constantValue := 0 }, { name := "LOG2_ARRAY_FLOAT_INDEX_SCALE", type := .int, accessFlags := 25, slot := 8, constantValue := 0 }, { name := "LOG2_ARRAY_DOUBLE_INDEX_SCALE", type := .int, accessFlags := 25, slot := 9, constantValue := 0 }, { name := "LOG2_BYTE_BIT_SIZE", type := .int, accessFlags := 26, slot := 10, constantValue := 0 }, { name := "T_BOOLEAN", type := .int, accessFlags := 25, slot := 11, constantValue := 0 }, { name := "T_CHAR", type := .int, accessFlags := 25, slot := 12, constantValue := 0 }, { name := "T_FLOAT", type := .int, accessFlags := 25, slot := 13, constantValue := 0 }, { name := "T_DOUBLE", type := .int, accessFlags := 25, slot := 14, constantValue := 0 }, { name := "T_BYTE", type := .int, accessFlags := 25, slot := 15, constantValue := 0 }, { name := "T_SHORT", type := .int, accessFlags := 25, slot := 16, constantValue := 0 }, { name := "T_INT", type := .int, accessFlags := 25, slot := 17, constantValue := 0 }, { name := "T_LONG", type := .int, accessFlags := 25, slot := 18, constantValue := 0 }, { name := "JLA", type := (.object "jdk/internal/access/JavaLangAccess"), accessFlags := 26, slot := 19, constantValue := 0 }, { name := "SOFT_MAX_ARRAY_LENGTH", type := .int, accessFlags := 25, slot := 20, constantValue := 0 }]
  methods := #[k16m0]
  instanceTypes := #[]
  staticTypes := #[(.object "jdk/internal/misc/Unsafe"), .boolean, .int, .int, .int, .int, .int, .int, .int, .int, .int, .int, .int, .int, .int, .int, .int, .int, .int, (.object "jdk/internal/access/JavaLangAccess"), .int]
  resolved := Array.replicate 378 none
  statics := none }

/-- the primitive byte -/
def k17 : Class := { plain "byte" none with kind := .primitive 'B', accessFlags := 0x411 }
/-- [B -/
def k18 : Class := { plain "[B" (some 0) with kind := .array 17 .byte, interfaces := #[14, 6], accessFlags := 1041 }

/-- the primitive char -/
def k19 : Class := { plain "char" none with kind := .primitive 'C', accessFlags := 0x411 }
/-- [C -/
def k20 : Class := { plain "[C" (some 0) with kind := .array 19 .char, interfaces := #[14, 6], accessFlags := 1041 }

/-- the primitive int -/
def k21 : Class := { plain "int" none with kind := .primitive 'I', accessFlags := 0x411 }
/-- [I -/
def k22 : Class := { plain "[I" (some 0) with kind := .array 21 .int, interfaces := #[14, 6], accessFlags := 1041 }

def heap : Heap := #[{ cls := 2, slots := #[.ref 3, .int 0], vm := .statics 2 },
  { cls := 11, slots := #[.long 0, .int 1, .null, .int 0, .null, .int 0, .int 0], vm := .statics 11 },
  { cls := 15, slots := #[.null, .null, .null], vm := .statics 15 },
  { cls := 20, slots := #[.int 65, .int 66, .int 67, .int 68, .int 69, .int 70, .int 71, .int 72, .int 73, .int 74, .int 75, .int 76, .int 77, .int 78, .int 79, .int 80, .int 81, .int 82, .int 83, .int 84, .int 85, .int 86, .int 87, .int 88, .int 89, .int 90, .int 50, .int 51, .int 52, .int 53, .int 54, .int 55], vm := .none }]
def classes : Array Class := #[k0, k1, k2, k3, k4, k5, k6, k7, k8, k9, k10, k11, k12, k13, k14, k15, k16, k17, k18, k19, k20, k21, k22]
def interned : List (Array UInt16 × Addr) := []
def slotsUsed : Nat := 44
def theMethod : MethodId := ⟨1, 1⟩
def args0 : Array Value := #[.long 81985529216486895, .int 5]
def aboutOver (below : List Frame) : State where
  vm := { classes := classes, interned := interned.toArray }
  heap := heap
  slotsUsed := slotsUsed
  threads := #[{ frames := .invoking theMethod args0 :: below }]
def below0 : List Frame := [.native { method := ⟨0, 0⟩, args := #[] }]
def about1 : State := aboutOver below0
def p0 : Program := .bare "" "" ""
def e0 : Env := launch0.env 0 0 0
theorem w_frames : about1.frames = Frame.invoking theMethod args0 :: below0 := rfl
set_option maxRecDepth 65536 in
theorem w_args : argsFit about1.vm theMethod args0 = true := by decide +kernel
set_option maxRecDepth 65536 in
theorem w_heap : heapFits about1 = true := by decide +kernel
set_option maxRecDepth 65536 in
theorem w_runnable : about1.curStatus? = some .runnable := by decide +kernel
set_option maxRecDepth 65536 in
theorem w_alone : about1.alone = true := by decide +kernel
set_option maxRecDepth 65536 in
theorem w_named : about1.methodNamed? x = some theMethod := by decide +kernel
set_option maxRecDepth 65536 in
theorem w_hears : about1.hears theMethod below0 = true := by decide +kernel
set_option maxRecDepth 65536 in
theorem w_ripe : about1.ripe theMethod args0 below0 = true := by decide +kernel
theorem w_running : about1.status = .running := rfl
set_option maxRecDepth 65536 in
theorem w_room : about1.hasRoom e0.platform room_1 = true :=
  launch0.hasRoom_least _ room_1 (by decide +kernel) (by decide +kernel) (by decide +kernel) (by decide +kernel) (by decide +kernel) (by decide +kernel)
theorem allAtoms_all (ts : List Jvm.Cond) (a : Array Jvm.Value) (st : Jvm.State) : (allAtoms ts).before a st = ts.all (fun c => c.before a st) := by
  induction ts with
  | nil => rfl
  | cons c t ih =>
    show (Jvm.Cond.and c (allAtoms t)).before a st = _
    rw [Jvm.Cond.before_and, ih, List.all_cons]
def words1 : List Jvm.Cond := Jvm.Cond.code x code maxLocals ret :: tables_1
/-- a 'code' word, met by the world's own term for the bytes: nothing is compared byte by byte -/
theorem code_word {y : MethodName} {bytes : ByteArray} {mx : Nat} {rt : Option FieldType} {a : Array Value} {s : State} {m : MethodId} {meth : Method} {c : Code} (h1 : s.methodNamed? y = some m) (h2 : s.vm.method? m = some meth) (h3 : meth.code = some c) (h4 : c.code = bytes)
    (h5 : (c.maxLocals == mx && c.exceptionTable.isEmpty && decide (c.maxStack ≤ mostOperands) && decide (meth.sig.returnType = rt) && !meth.locks && decide (parseMethodDescriptor y.desc = some meth.sig)) = true) : (Jvm.Cond.code y bytes mx rt).before a s = true := by
  simp only [Bool.and_eq_true, beq_iff_eq, Bool.not_eq_true', decide_eq_true_eq] at h5
  obtain ⟨⟨⟨⟨⟨g1, g2⟩, g3⟩, g4⟩, g5⟩, g6⟩ := h5
  simp [Cond.before, Cond.holds, Cond.value, h1, h2, h3, h4, g1, g2, g3, g4, g5, g6]
def isCode : Jvm.Cond → Bool
  | .code _ _ _ _ => true
  | _ => false
theorem all_split {L : List Jvm.Cond} {P : Jvm.Cond → Bool} (h1 : L.all (fun c => isCode c || P c) = true) (h2 : ∀ c ∈ L.filter isCode, P c = true) : L.all P = true := by
  refine List.all_eq_true.mpr fun c hc => ?_
  have h := List.all_eq_true.mp h1 c hc
  rcases Bool.eq_false_or_eq_true (isCode c) with hi | hi
  · exact h2 c (List.mem_filter.mpr ⟨hc, hi⟩)
  · simpa [hi] using h
set_option maxRecDepth 65536 in
theorem w_c0 : (Jvm.Cond.code x code maxLocals ret).before args0 about1 = true := code_word (m := ⟨1, 1⟩) (meth := k1m1) (c := k1c1) (by decide +kernel) rfl rfl rfl (by decide +kernel)
set_option maxRecDepth 65536 in
theorem w_c1 : (Jvm.Cond.code ({ cls := "com/example/idpd/idpd/Base32", name := "encode", desc := "([B)Ljava/lang/String;" } : Jvm.MethodName) prog_7_method_2_code (8 : Nat) (Option.some (Jvm.ClassFile.FieldType.object "java/lang/String"))).before args0 about1 = true := code_word (m := ⟨2, 1⟩) (meth := k2m1) (c := k2c1) (by decide +kernel) rfl rfl rfl (by decide +kernel)
set_option maxRecDepth 65536 in
theorem w_c2 : (Jvm.Cond.code ({ cls := "java/lang/StringBuilder", name := "<init>", desc := "(I)V" } : Jvm.MethodName) jdk_67_method_2_code (2 : Nat) (Option.none : Option Jvm.ClassFile.FieldType)).before args0 about1 = true := code_word (m := ⟨8, 1⟩) (meth := k8m1) (c := k8c1) (by decide +kernel) rfl rfl rfl (by decide +kernel)
set_option maxRecDepth 65536 in
theorem w_c3 : (Jvm.Cond.code ({ cls := "java/lang/AbstractStringBuilder", name := "<init>", desc := "(I)V" } : Jvm.MethodName) jdk_68_method_2_code (2 : Nat) (Option.none : Option Jvm.ClassFile.FieldType)).before args0 about1 = true := code_word (m := ⟨5, 1⟩) (meth := k5m1) (c := k5c1) (by decide +kernel) rfl rfl rfl (by decide +kernel)
set_option maxRecDepth 65536 in
theorem w_c4 : (Jvm.Cond.code ({ cls := "java/lang/Object", name := "<init>", desc := "()V" } : Jvm.MethodName) object_method_1_code (1 : Nat) (Option.none : Option Jvm.ClassFile.FieldType)).before args0 about1 = true := code_word (m := ⟨0, 0⟩) (meth := k0m0) (c := k0c0) (by decide +kernel) rfl rfl rfl (by decide +kernel)
set_option maxRecDepth 65536 in
theorem w_c5 : (Jvm.Cond.code ({ cls := "java/lang/StringBuilder", name := "append", desc := "(C)Ljava/lang/StringBuilder;" } : Jvm.MethodName) jdk_67_method_14_code (2 : Nat) (Option.some (Jvm.ClassFile.FieldType.object "java/lang/StringBuilder"))).before args0 about1 = true := code_word (m := ⟨8, 2⟩) (meth := k8m2) (c := k8c2) (by decide +kernel) rfl rfl rfl (by decide +kernel)
set_option maxRecDepth 65536 in
theorem w_c6 : (Jvm.Cond.code ({ cls := "java/lang/AbstractStringBuilder", name := "append", desc := "(C)Ljava/lang/AbstractStringBuilder;" } : Jvm.MethodName) jdk_68_method_31_code (2 : Nat) (Option.some (Jvm.ClassFile.FieldType.object "java/lang/AbstractStringBuilder"))).before args0 about1 = true := code_word (m := ⟨5, 4⟩) (meth := k5m4) (c := k5c4) (by decide +kernel) rfl rfl rfl (by decide +kernel)
set_option maxRecDepth 65536 in
theorem w_c7 : (Jvm.Cond.code ({ cls := "java/lang/AbstractStringBuilder", name := "ensureCapacityInternal", desc := "(I)V" } : Jvm.MethodName) jdk_68_method_9_code (3 : Nat) (Option.none : Option Jvm.ClassFile.FieldType)).before args0 about1 = true := code_word (m := ⟨5, 3⟩) (meth := k5m3) (c := k5c3) (by decide +kernel) rfl rfl rfl (by decide +kernel)
set_option maxRecDepth 65536 in
theorem w_c8 : (Jvm.Cond.code ({ cls := "java/lang/AbstractStringBuilder", name := "isLatin1", desc := "()Z" } : Jvm.MethodName) jdk_68_method_68_code (1 : Nat) (Option.some Jvm.ClassFile.FieldType.boolean)).before args0 about1 = true := code_word (m := ⟨5, 6⟩) (meth := k5m6) (c := k5c6) (by decide +kernel) rfl rfl rfl (by decide +kernel)
set_option maxRecDepth 65536 in
theorem w_c9 : (Jvm.Cond.code ({ cls := "java/lang/StringLatin1", name := "canEncode", desc := "(C)Z" } : Jvm.MethodName) jdk_43_method_3_code (1 : Nat) (Option.some Jvm.ClassFile.FieldType.boolean)).before args0 about1 = true := code_word (m := ⟨12, 2⟩) (meth := k12m2) (c := k12c2) (by decide +kernel) rfl rfl rfl (by decide +kernel)
set_option maxRecDepth 65536 in
theorem w_c10 : (Jvm.Cond.code ({ cls := "java/lang/StringBuilder", name := "toString", desc := "()Ljava/lang/String;" } : Jvm.MethodName) jdk_67_method_42_code (1 : Nat) (Option.some (Jvm.ClassFile.FieldType.object "java/lang/String"))).before args0 about1 = true := code_word (m := ⟨8, 3⟩) (meth := k8m3) (c := k8c3) (by decide +kernel) rfl rfl rfl (by decide +kernel)
set_option maxRecDepth 65536 in
theorem w_c11 : (Jvm.Cond.code ({ cls := "java/lang/String", name := "<init>", desc := "(Ljava/lang/StringBuilder;)V" } : Jvm.MethodName) jdk_42_method_53_code (2 : Nat) (Option.none : Option Jvm.ClassFile.FieldType)).before args0 about1 = true := code_word (m := ⟨11, 1⟩) (meth := k11m1) (c := k11c1) (by decide +kernel) rfl rfl rfl (by decide +kernel)
set_option maxRecDepth 65536 in
theorem w_c12 : (Jvm.Cond.code ({ cls := "java/lang/String", name := "<init>", desc := "(Ljava/lang/AbstractStringBuilder;Ljava/lang/Void;)V" } : Jvm.MethodName) jdk_42_method_150_code (5 : Nat) (Option.none : Option Jvm.ClassFile.FieldType)).before args0 about1 = true := code_word (m := ⟨11, 4⟩) (meth := k11m4) (c := k11c4) (by decide +kernel) rfl rfl rfl (by decide +kernel)
set_option maxRecDepth 65536 in
theorem w_c13 : (Jvm.Cond.code ({ cls := "java/lang/AbstractStringBuilder", name := "getValue", desc := "()[B" } : Jvm.MethodName) jdk_68_method_64_code (1 : Nat) (Option.some (Jvm.ClassFile.FieldType.array Jvm.ClassFile.FieldType.byte))).before args0 about1 = true := code_word (m := ⟨5, 5⟩) (meth := k5m5) (c := k5c5) (by decide +kernel) rfl rfl rfl (by decide +kernel)
set_option maxRecDepth 65536 in
theorem w_c14 : (Jvm.Cond.code ({ cls := "java/lang/StringBuilder", name := "length", desc := "()I" } : Jvm.MethodName) jdk_67_method_93_code (1 : Nat) (Option.some Jvm.ClassFile.FieldType.int)).before args0 about1 = true := code_word (m := ⟨8, 4⟩) (meth := k8m4) (c := k8c4) (by decide +kernel) rfl rfl rfl (by decide +kernel)
set_option maxRecDepth 65536 in
theorem w_c15 : (Jvm.Cond.code ({ cls := "java/lang/AbstractStringBuilder", name := "length", desc := "()I" } : Jvm.MethodName) jdk_68_method_6_code (1 : Nat) (Option.some Jvm.ClassFile.FieldType.int)).before args0 about1 = true := code_word (m := ⟨5, 2⟩) (meth := k5m2) (c := k5c2) (by decide +kernel) rfl rfl rfl (by decide +kernel)
set_option maxRecDepth 65536 in
theorem w_c16 : (Jvm.Cond.code ({ cls := "java/util/Arrays", name := "copyOfRange", desc := "([BII)[B" } : Jvm.MethodName) jdk_65_method_132_code (3 : Nat) (Option.some (Jvm.ClassFile.FieldType.array Jvm.ClassFile.FieldType.byte))).before args0 about1 = true := code_word (m := ⟨13, 1⟩) (meth := k13m1) (c := k13c1) (by decide +kernel) rfl rfl rfl (by decide +kernel)
set_option maxRecDepth 65536 in
theorem w_c17 : (Jvm.Cond.code ({ cls := "java/lang/String", name := "length", desc := "()I" } : Jvm.MethodName) jdk_42_method_54_code (1 : Nat) (Option.some Jvm.ClassFile.FieldType.int)).before args0 about1 = true := code_word (m := ⟨11, 2⟩) (meth := k11m2) (c := k11c2) (by decide +kernel) rfl rfl rfl (by decide +kernel)
set_option maxRecDepth 65536 in
theorem w_c18 : (Jvm.Cond.code ({ cls := "java/lang/String", name := "coder", desc := "()B" } : Jvm.MethodName) jdk_42_method_152_code (1 : Nat) (Option.some Jvm.ClassFile.FieldType.byte)).before args0 about1 = true := code_word (m := ⟨11, 5⟩) (meth := k11m5) (c := k11c5) (by decide +kernel) rfl rfl rfl (by decide +kernel)
set_option maxRecDepth 65536 in
theorem w_c19 : (Jvm.Cond.code ({ cls := "com/example/idpd/idpd/Base32EncodePinLaw", name := "at", desc := "(Ljava/lang/String;III)Z" } : Jvm.MethodName) method_3_code (4 : Nat) (Option.some Jvm.ClassFile.FieldType.boolean)).before args0 about1 = true := code_word (m := ⟨1, 2⟩) (meth := k1m2) (c := k1c2) (by decide +kernel) rfl rfl rfl (by decide +kernel)
set_option maxRecDepth 65536 in
theorem w_c20 : (Jvm.Cond.code ({ cls := "java/lang/String", name := "charAt", desc := "(I)C" } : Jvm.MethodName) jdk_42_method_56_code (2 : Nat) (Option.some Jvm.ClassFile.FieldType.char)).before args0 about1 = true := code_word (m := ⟨11, 3⟩) (meth := k11m3) (c := k11c3) (by decide +kernel) rfl rfl rfl (by decide +kernel)
set_option maxRecDepth 65536 in
theorem w_c21 : (Jvm.Cond.code ({ cls := "java/lang/String", name := "isLatin1", desc := "()Z" } : Jvm.MethodName) jdk_42_method_154_code (1 : Nat) (Option.some Jvm.ClassFile.FieldType.boolean)).before args0 about1 = true := code_word (m := ⟨11, 6⟩) (meth := k11m6) (c := k11c6) (by decide +kernel) rfl rfl rfl (by decide +kernel)
set_option maxRecDepth 65536 in
theorem w_c22 : (Jvm.Cond.code ({ cls := "java/lang/StringLatin1", name := "charAt", desc := "([BI)C" } : Jvm.MethodName) jdk_43_method_2_code (2 : Nat) (Option.some Jvm.ClassFile.FieldType.char)).before args0 about1 = true := code_word (m := ⟨12, 1⟩) (meth := k12m1) (c := k12c1) (by decide +kernel) rfl rfl rfl (by decide +kernel)
set_option maxRecDepth 65536 in
theorem w_c23 : (Jvm.Cond.code ({ cls := "java/lang/String", name := "checkIndex", desc := "(II)V" } : Jvm.MethodName) jdk_42_method_155_code (2 : Nat) (Option.none : Option Jvm.ClassFile.FieldType)).before args0 about1 = true := code_word (m := ⟨11, 7⟩) (meth := k11m7) (c := k11c7) (by decide +kernel) rfl rfl rfl (by decide +kernel)
set_option maxRecDepth 65536 in
theorem w_c24 : (Jvm.Cond.code ({ cls := "jdk/internal/util/Preconditions", name := "checkIndex", desc := "(IILjava/util/function/BiFunction;)I" } : Jvm.MethodName) jdk_41_method_11_code (3 : Nat) (Option.some Jvm.ClassFile.FieldType.int)).before args0 about1 = true := code_word (m := ⟨15, 1⟩) (meth := k15m1) (c := k15c1) (by decide +kernel) rfl rfl rfl (by decide +kernel)
set_option maxRecDepth 65536 in
theorem w_c25 : (Jvm.Cond.code ({ cls := "com/example/idpd/idpd/Base32EncodePinLaw", name := "sym", desc := "(I)C" } : Jvm.MethodName) method_4_code (1 : Nat) (Option.some Jvm.ClassFile.FieldType.char)).before args0 about1 = true := code_word (m := ⟨1, 3⟩) (meth := k1m3) (c := k1c3) (by decide +kernel) rfl rfl rfl (by decide +kernel)
def codes1 : List Jvm.Cond := [Jvm.Cond.code x code maxLocals ret, Jvm.Cond.code ({ cls := "com/example/idpd/idpd/Base32", name := "encode", desc := "([B)Ljava/lang/String;" } : Jvm.MethodName) prog_7_method_2_code (8 : Nat) (Option.some (Jvm.ClassFile.FieldType.object "java/lang/String")), Jvm.Cond.code ({ cls := "java/lang/StringBuilder", name := "<init>", desc := "(I)V" } : Jvm.MethodName) jdk_67_method_2_code (2 : Nat) (Option.none : Option Jvm.ClassFile.FieldType), Jvm.Cond.code ({ cls := "java/lang/AbstractStringBuilder", name := "<init>", desc := "(I)V" } : Jvm.MethodName) jdk_68_method_2_code (2 : Nat) (Option.none : Option Jvm.ClassFile.FieldType), Jvm.Cond.code ({ cls := "java/lang/Object", name := "<init>", desc := "()V" } : Jvm.MethodName) object_method_1_code (1 : Nat) (Option.none : Option Jvm.ClassFile.FieldType), Jvm.Cond.code ({ cls := "java/lang/StringBuilder", name := "append", desc := "(C)Ljava/lang/StringBuilder;" } : Jvm.MethodName) jdk_67_method_14_code (2 : Nat) (Option.some (Jvm.ClassFile.FieldType.object "java/lang/StringBuilder")), Jvm.Cond.code ({ cls := "java/lang/AbstractStringBuilder", name := "append", desc := "(C)Ljava/lang/AbstractStringBuilder;" } : Jvm.MethodName) jdk_68_method_31_code (2 : Nat) (Option.some (Jvm.ClassFile.FieldType.object "java/lang/AbstractStringBuilder")), Jvm.Cond.code ({ cls := "java/lang/AbstractStringBuilder", name := "ensureCapacityInternal", desc := "(I)V" } : Jvm.MethodName) jdk_68_method_9_code (3 : Nat) (Option.none : Option Jvm.ClassFile.FieldType), Jvm.Cond.code ({ cls := "java/lang/AbstractStringBuilder", name := "isLatin1", desc := "()Z" } : Jvm.MethodName) jdk_68_method_68_code (1 : Nat) (Option.some Jvm.ClassFile.FieldType.boolean), Jvm.Cond.code ({ cls := "java/lang/StringLatin1", name := "canEncode", desc := "(C)Z" } : Jvm.MethodName) jdk_43_method_3_code (1 : Nat) (Option.some Jvm.ClassFile.FieldType.boolean), Jvm.Cond.code ({ cls := "java/lang/StringBuilder", name := "toString", desc := "()Ljava/lang/String;" } : Jvm.MethodName) jdk_67_method_42_code (1 : Nat) (Option.some (Jvm.ClassFile.FieldType.object "java/lang/String")), Jvm.Cond.code ({ cls := "java/lang/String", name := "<init>", desc := "(Ljava/lang/StringBuilder;)V" } : Jvm.MethodName) jdk_42_method_53_code (2 : Nat) (Option.none : Option Jvm.ClassFile.FieldType), Jvm.Cond.code ({ cls := "java/lang/String", name := "<init>", desc := "(Ljava/lang/AbstractStringBuilder;Ljava/lang/Void;)V" } : Jvm.MethodName) jdk_42_method_150_code (5 : Nat) (Option.none : Option Jvm.ClassFile.FieldType), Jvm.Cond.code ({ cls := "java/lang/AbstractStringBuilder", name := "getValue", desc := "()[B" } : Jvm.MethodName) jdk_68_method_64_code (1 : Nat) (Option.some (Jvm.ClassFile.FieldType.array Jvm.ClassFile.FieldType.byte)), Jvm.Cond.code ({ cls := "java/lang/StringBuilder", name := "length", desc := "()I" } : Jvm.MethodName) jdk_67_method_93_code (1 : Nat) (Option.some Jvm.ClassFile.FieldType.int), Jvm.Cond.code ({ cls := "java/lang/AbstractStringBuilder", name := "length", desc := "()I" } : Jvm.MethodName) jdk_68_method_6_code (1 : Nat) (Option.some Jvm.ClassFile.FieldType.int), Jvm.Cond.code ({ cls := "java/util/Arrays", name := "copyOfRange", desc := "([BII)[B" } : Jvm.MethodName) jdk_65_method_132_code (3 : Nat) (Option.some (Jvm.ClassFile.FieldType.array Jvm.ClassFile.FieldType.byte)), Jvm.Cond.code ({ cls := "java/lang/String", name := "length", desc := "()I" } : Jvm.MethodName) jdk_42_method_54_code (1 : Nat) (Option.some Jvm.ClassFile.FieldType.int), Jvm.Cond.code ({ cls := "java/lang/String", name := "coder", desc := "()B" } : Jvm.MethodName) jdk_42_method_152_code (1 : Nat) (Option.some Jvm.ClassFile.FieldType.byte), Jvm.Cond.code ({ cls := "com/example/idpd/idpd/Base32EncodePinLaw", name := "at", desc := "(Ljava/lang/String;III)Z" } : Jvm.MethodName) method_3_code (4 : Nat) (Option.some Jvm.ClassFile.FieldType.boolean), Jvm.Cond.code ({ cls := "java/lang/String", name := "charAt", desc := "(I)C" } : Jvm.MethodName) jdk_42_method_56_code (2 : Nat) (Option.some Jvm.ClassFile.FieldType.char), Jvm.Cond.code ({ cls := "java/lang/String", name := "isLatin1", desc := "()Z" } : Jvm.MethodName) jdk_42_method_154_code (1 : Nat) (Option.some Jvm.ClassFile.FieldType.boolean), Jvm.Cond.code ({ cls := "java/lang/StringLatin1", name := "charAt", desc := "([BI)C" } : Jvm.MethodName) jdk_43_method_2_code (2 : Nat) (Option.some Jvm.ClassFile.FieldType.char), Jvm.Cond.code ({ cls := "java/lang/String", name := "checkIndex", desc := "(II)V" } : Jvm.MethodName) jdk_42_method_155_code (2 : Nat) (Option.none : Option Jvm.ClassFile.FieldType), Jvm.Cond.code ({ cls := "jdk/internal/util/Preconditions", name := "checkIndex", desc := "(IILjava/util/function/BiFunction;)I" } : Jvm.MethodName) jdk_41_method_11_code (3 : Nat) (Option.some Jvm.ClassFile.FieldType.int), Jvm.Cond.code ({ cls := "com/example/idpd/idpd/Base32EncodePinLaw", name := "sym", desc := "(I)C" } : Jvm.MethodName) method_4_code (1 : Nat) (Option.some Jvm.ClassFile.FieldType.char)]
set_option maxRecDepth 65536 in
theorem codes_eq : words1.filter isCode = codes1 := rfl
theorem w_codes : ∀ c ∈ words1.filter isCode, c.before args0 about1 = true := by
  rw [codes_eq]
  intro c hc
  simp only [codes1, List.mem_cons, List.not_mem_nil, or_false] at hc
  rcases hc with rfl | rfl | rfl | rfl | rfl | rfl | rfl | rfl | rfl | rfl | rfl | rfl | rfl | rfl | rfl | rfl | rfl | rfl | rfl | rfl | rfl | rfl | rfl | rfl | rfl | rfl
  · exact w_c0
  · exact w_c1
  · exact w_c2
  · exact w_c3
  · exact w_c4
  · exact w_c5
  · exact w_c6
  · exact w_c7
  · exact w_c8
  · exact w_c9
  · exact w_c10
  · exact w_c11
  · exact w_c12
  · exact w_c13
  · exact w_c14
  · exact w_c15
  · exact w_c16
  · exact w_c17
  · exact w_c18
  · exact w_c19
  · exact w_c20
  · exact w_c21
  · exact w_c22
  · exact w_c23
  · exact w_c24
  · exact w_c25
set_option maxRecDepth 65536 in
theorem w_t1 : (words1.take 24).all (fun c => isCode c || c.before args0 about1) = true := by decide +kernel
set_option maxRecDepth 65536 in
theorem w_t2 : ((words1.drop 24).take 24).all (fun c => isCode c || c.before args0 about1) = true := by decide +kernel
set_option maxRecDepth 65536 in
theorem w_t3 : (((words1.drop 24).drop 24).take 24).all (fun c => isCode c || c.before args0 about1) = true := by decide +kernel
set_option maxRecDepth 65536 in
theorem w_t4 : ((((words1.drop 24).drop 24).drop 24).take 24).all (fun c => isCode c || c.before args0 about1) = true := by decide +kernel
set_option maxRecDepth 65536 in
theorem w_t5 : (((((words1.drop 24).drop 24).drop 24).drop 24).take 24).all (fun c => isCode c || c.before args0 about1) = true := by decide +kernel
set_option maxRecDepth 65536 in
theorem w_t6 : (((((words1.drop 24).drop 24).drop 24).drop 24).drop 24).all (fun c => isCode c || c.before args0 about1) = true := by decide +kernel
theorem w_tables : (allAtoms (Jvm.Cond.code x code maxLocals ret :: tables_1)).before args0 about1 = true := by
  rw [allAtoms_all]
  show words1.all (fun c => c.before args0 about1) = true
  refine all_split ?_ w_codes
  rw [← List.take_append_drop 24 words1, List.all_append, w_t1, ← List.take_append_drop 24 (words1.drop 24), List.all_append, w_t2, ← List.take_append_drop 24 ((words1.drop 24).drop 24), List.all_append, w_t3, ← List.take_append_drop 24 (((words1.drop 24).drop 24).drop 24), List.all_append, w_t4, ← List.take_append_drop 24 ((((words1.drop 24).drop 24).drop 24).drop 24), List.all_append, w_t5, w_t6]
  rfl
set_option maxRecDepth 65536 in
theorem w_rest : rest_1_c.before args0 about1 = true := by decide +kernel
set_option maxRecDepth 65536 in
theorem w_case : (Jvm.Cond.and given_1 narrow_1).before args0 about1 = true := by decide +kernel
theorem w_applies : (headSpec (Jvm.Cond.code x code maxLocals ret :: tables_1) room_1).applies x e0.platform about1 = true :=
  (Spec.applies_iff w_frames).mpr ⟨w_running, w_runnable, w_alone, w_named, w_hears, w_ripe, w_room, w_tables⟩
theorem atStart : AtStart classFile x code maxLocals ret World_1 tables_1 room_1 Calls_1 rest_1 Pre_1 launch0 p0 e0 about1 theMethod args0 below0 :=
  ⟨lists_1, trivial, launch0.admits_env _ _ _, launch0.least_env, fairChoices_fair.cas, fairChoices_fair.clock, w_frames, w_args, w_heap, w_applies, trivial, w_rest, w_case⟩
end start1
theorem witness_1 : WitnessClaimed_1 := ⟨start1.p0, start1.e0, start1.about1, start1.theMethod, start1.args0, start1.below0, start1.atStart⟩
end Jvm.Pilot.@@N@@
