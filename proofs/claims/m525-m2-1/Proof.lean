import JvmDerived
import JvmDerived.Pilot.@@N@@Statement
import JvmDerived.Pilot.@@N@@Code
set_option linter.unusedVariables false
set_option linter.unusedSimpArgs false
namespace Jvm.Pilot.@@N@@
open Jvm Jvm.ClassFile Sem Op Lib Jvm.Free Jvm.Stand Jvm.LawKit Jvm.RoadKit Bundle Jvm.Pilot.@@N@@.Jvm.D
section Own
variable {p : Program} {l : Launch} {e : Env} {R : Room} {s : State} {m : MethodId} {args : Array Value} {below : List Frame} {meth : Method} {c : Code} {T : State} {locs : List Loc} {cells slots : Nat}
/-- from S the run comes to an end that E tells -/
def OwnG (p : Program) (e : Env) (below : List Frame) (E : Outcome → State → Prop) (S : State) : Prop :=
  ∃ s₂ o, Steps p.tables e below S s₂ ∧ s₂.status = .running ∧ Ended s₂ below o ∧ E o s₂
/-- it returned, Q holds of the value and the heap, and the frame is k new cells of n slots -/
def OwnE (s : State) (Q : Option Value → Heap → List Loc → Prop) (k n : Nat) (o : Outcome) (U : State) : Prop :=
  ∃ v L, o = .returned v ∧ Q v U.heap L ∧ FrameEnd s o U L k n
theorem own_by {E : Outcome → State → Prop} {S S' : State} (h : ∀ t, Steps p.tables e below S' t → Steps p.tables e below S t) (g : OwnG p e below E S') : OwnG p e below E S := by
  obtain ⟨s2, o, h1, r⟩ := g
  exact ⟨s2, o, h _ h1, r⟩
theorem own_ret (X : Stand p l e R s m args below meth c T locs cells slots) (hx : p.tables.exec = Jvm.exec) {pc : Nat} {Ls : Array Slot} {w : Value} {t : FieldType} {i : Instr} {rest : List Value} (hret : meth.sig.returnType = some t) (hn : narrow t w = w)
    (hi : (i = .ireturn ∧ (t = .int ∨ t = .boolean ∨ t = .byte ∨ t = .char ∨ t = .short) ∧ ∃ z, w = .int z) ∨ (i = .lreturn ∧ t = .long ∧ ∃ z, w = .long z) ∨ (i = .dreturn ∧ t = .double ∧ ∃ z, w = .double z) ∨ (i = .freturn ∧ t = .float ∧ ∃ z, w = .float z) ∨ (i = .areturn ∧ t.isReference = true ∧ w.isRef = true))
    (hd : decode c.code pc = .ok (i, 1)) (hlk : meth.locks = false) {Q : Option Value → Heap → List Loc → Prop} {k n : Nat} (hk : cells ≤ k) (hs : slots ≤ n) (hQ : Q (some w) T.heap locs) : OwnG p e below (OwnE s Q k n) (T.setTop (mkF m pc Ls (w :: rest))) := by
  obtain ⟨fs, hr, hrun, hended, hW, hsame⟩ := X.leave (v := some w) (fun h => by rw [hret] at h; cases h) hlk
  exact ⟨_, _, retOut X hx hret hn hi hd hr, hrun, hended, _, _, rfl, hQ, ⟨_, rfl⟩, hW, hsame.mono hk hs⟩
theorem own_retI (X : Stand p l e R s m args below meth c T locs cells slots) (hx : p.tables.exec = Jvm.exec) {pc : Nat} {Ls : Array Slot} {z : Int32} {t : FieldType} {rest : List Value} (hret : meth.sig.returnType = some t) (ht : t = .int ∨ t = .boolean ∨ t = .byte ∨ t = .char ∨ t = .short) (hn : narrow t (.int z) = .int z)
    (hd : decode c.code pc = .ok (.ireturn, 1)) (hlk : meth.locks = false) {Q : Option Value → Heap → List Loc → Prop} {k n : Nat} (hk : cells ≤ k) (hs : slots ≤ n) (hQ : Q (some (.int z)) T.heap locs) : OwnG p e below (OwnE s Q k n) (T.setTop (mkF m pc Ls (.int z :: rest))) :=
  own_ret X hx hret hn (Or.inl ⟨rfl, ht, _, rfl⟩) hd hlk hk hs hQ
theorem own_retL (X : Stand p l e R s m args below meth c T locs cells slots) (hx : p.tables.exec = Jvm.exec) {pc : Nat} {Ls : Array Slot} {z : Int64} {rest : List Value} (hret : meth.sig.returnType = some .long)
    (hd : decode c.code pc = .ok (.lreturn, 1)) (hlk : meth.locks = false) {Q : Option Value → Heap → List Loc → Prop} {k n : Nat} (hk : cells ≤ k) (hs : slots ≤ n) (hQ : Q (some (.long z)) T.heap locs) : OwnG p e below (OwnE s Q k n) (T.setTop (mkF m pc Ls (.long z :: rest))) :=
  own_ret X hx hret rfl (Or.inr (Or.inl ⟨rfl, rfl, _, rfl⟩)) hd hlk hk hs hQ
theorem own_retD (X : Stand p l e R s m args below meth c T locs cells slots) (hx : p.tables.exec = Jvm.exec) {pc : Nat} {Ls : Array Slot} {z : UInt64} {rest : List Value} (hret : meth.sig.returnType = some .double)
    (hd : decode c.code pc = .ok (.dreturn, 1)) (hlk : meth.locks = false) {Q : Option Value → Heap → List Loc → Prop} {k n : Nat} (hk : cells ≤ k) (hs : slots ≤ n) (hQ : Q (some (.double z)) T.heap locs) : OwnG p e below (OwnE s Q k n) (T.setTop (mkF m pc Ls (.double z :: rest))) :=
  own_ret X hx hret rfl (Or.inr (Or.inr (Or.inl ⟨rfl, rfl, _, rfl⟩))) hd hlk hk hs hQ
theorem own_narR {t : FieldType} (ht : t.isReference = true) {w : Value} (hw : w.isRef = true) : narrow t w = w := by
  cases t <;> cases w <;> first | rfl | (simp [FieldType.isReference] at ht; done) | (simp [Value.isRef] at hw; done)
theorem own_retA (X : Stand p l e R s m args below meth c T locs cells slots) (hx : p.tables.exec = Jvm.exec) {pc : Nat} {Ls : Array Slot} {w : Value} {t : FieldType} {rest : List Value} (hret : meth.sig.returnType = some t) (ht : t.isReference = true) (hw : w.isRef = true)
    (hd : decode c.code pc = .ok (.areturn, 1)) (hlk : meth.locks = false) {Q : Option Value → Heap → List Loc → Prop} {k n : Nat} (hk : cells ≤ k) (hs : slots ≤ n) (hQ : Q (some w) T.heap locs) : OwnG p e below (OwnE s Q k n) (T.setTop (mkF m pc Ls (w :: rest))) :=
  own_ret X hx hret (own_narR ht hw) (Or.inr (Or.inr (Or.inr (Or.inr ⟨rfl, ht, hw⟩)))) hd hlk hk hs hQ
theorem own_ret0 (X : Stand p l e R s m args below meth c T locs cells slots) (hx : p.tables.exec = Jvm.exec) {pc : Nat} {Ls : Array Slot} (hret : meth.sig.returnType = none)
    (hd : decode c.code pc = .ok (.return_, 1)) (hlk : meth.locks = false) {Q : Option Value → Heap → List Loc → Prop} {k n : Nat} (hk : cells ≤ k) (hs : slots ≤ n) (hQ : Q none T.heap locs) : OwnG p e below (OwnE s Q k n) (T.setTop (mkF m pc Ls [])) := by
  obtain ⟨fs, hr, hrun, hended, hW, hsame⟩ := X.leave (v := none) (fun _ => rfl) hlk
  exact ⟨_, _, X.returnOut hx hret hd hr, hrun, hended, _, _, rfl, hQ, ⟨_, rfl⟩, hW, hsame.mono hk hs⟩
/-- the same, where the walk may have interned -/
def OwnEW (s : State) (Q : Option Value → Heap → List Loc → Prop) (k n : Nat) (o : Outcome) (U : State) : Prop :=
  ∃ v L, o = .returned v ∧ Q v U.heap L ∧ ReturnedEndW s o U L k n
theorem own_endW {s U : State} {o : Outcome} {L : List Loc} {k n k' n' : Nat} (h : ReturnedEndW s o U L k n) (hk : k ≤ k') (hn : n ≤ n') : ReturnedEndW s o U L k' n' := ⟨h.1, h.2.1, h.2.2.1, h.2.2.2.mono hk hn⟩
theorem own_retW {vm₁ : Vm} (X : Stand p l e R (s.setVm vm₁) m args below meth c T locs cells slots) {n1 : Nat} (hS : s.Since vm₁ n1) (hn1 : n1 ≤ T.heap.size) (hx : p.tables.exec = Jvm.exec) {pc : Nat} {Ls : Array Slot} {w : Value} {t : FieldType} {i : Instr} {rest : List Value} (hret : meth.sig.returnType = some t) (hn : narrow t w = w)
    (hi : (i = .ireturn ∧ (t = .int ∨ t = .boolean ∨ t = .byte ∨ t = .char ∨ t = .short) ∧ ∃ z, w = .int z) ∨ (i = .lreturn ∧ t = .long ∧ ∃ z, w = .long z) ∨ (i = .dreturn ∧ t = .double ∧ ∃ z, w = .double z) ∨ (i = .freturn ∧ t = .float ∧ ∃ z, w = .float z) ∨ (i = .areturn ∧ t.isReference = true ∧ w.isRef = true))
    (hd : decode c.code pc = .ok (i, 1)) (hlk : meth.locks = false) {Q : Option Value → Heap → List Loc → Prop} {k n : Nat} (hk : cells ≤ k) (hs : slots ≤ n) (hQ : Q (some w) T.heap locs) : OwnG p e below (OwnEW s Q k n) (T.setTop (mkF m pc Ls (w :: rest))) := by
  obtain ⟨fs, hr, hrun, hended, hE⟩ := X.leaveW hS hn1 (v := some w) (fun h => by rw [hret] at h; cases h) hlk
  exact ⟨_, _, retOut X hx hret hn hi hd hr, hrun, hended, _, _, rfl, hQ, own_endW hE hk hs⟩
theorem own_retWI {vm₁ : Vm} (X : Stand p l e R (s.setVm vm₁) m args below meth c T locs cells slots) {n1 : Nat} (hS : s.Since vm₁ n1) (hn1 : n1 ≤ T.heap.size) (hx : p.tables.exec = Jvm.exec) {pc : Nat} {Ls : Array Slot} {z : Int32} {t : FieldType} {rest : List Value} (hret : meth.sig.returnType = some t) (ht : t = .int ∨ t = .boolean ∨ t = .byte ∨ t = .char ∨ t = .short) (hn : narrow t (.int z) = .int z)
    (hd : decode c.code pc = .ok (.ireturn, 1)) (hlk : meth.locks = false) {Q : Option Value → Heap → List Loc → Prop} {k n : Nat} (hk : cells ≤ k) (hs : slots ≤ n) (hQ : Q (some (.int z)) T.heap locs) : OwnG p e below (OwnEW s Q k n) (T.setTop (mkF m pc Ls (.int z :: rest))) :=
  own_retW X hS hn1 hx hret hn (Or.inl ⟨rfl, ht, _, rfl⟩) hd hlk hk hs hQ
theorem own_retWA {vm₁ : Vm} (X : Stand p l e R (s.setVm vm₁) m args below meth c T locs cells slots) {n1 : Nat} (hS : s.Since vm₁ n1) (hn1 : n1 ≤ T.heap.size) (hx : p.tables.exec = Jvm.exec) {pc : Nat} {Ls : Array Slot} {w : Value} {t : FieldType} {rest : List Value} (hret : meth.sig.returnType = some t) (ht : t.isReference = true) (hw : w.isRef = true)
    (hd : decode c.code pc = .ok (.areturn, 1)) (hlk : meth.locks = false) {Q : Option Value → Heap → List Loc → Prop} {k n : Nat} (hk : cells ≤ k) (hs : slots ≤ n) (hQ : Q (some w) T.heap locs) : OwnG p e below (OwnEW s Q k n) (T.setTop (mkF m pc Ls (w :: rest))) :=
  own_retW X hS hn1 hx hret (own_narR ht hw) (Or.inr (Or.inr (Or.inr (Or.inr ⟨rfl, ht, hw⟩)))) hd hlk hk hs hQ
theorem own_retW0 {vm₁ : Vm} (X : Stand p l e R (s.setVm vm₁) m args below meth c T locs cells slots) {n1 : Nat} (hS : s.Since vm₁ n1) (hn1 : n1 ≤ T.heap.size) (hx : p.tables.exec = Jvm.exec) {pc : Nat} {Ls : Array Slot} (hret : meth.sig.returnType = none)
    (hd : decode c.code pc = .ok (.return_, 1)) (hlk : meth.locks = false) {Q : Option Value → Heap → List Loc → Prop} {k n : Nat} (hk : cells ≤ k) (hs : slots ≤ n) (hQ : Q none T.heap locs) : OwnG p e below (OwnEW s Q k n) (T.setTop (mkF m pc Ls [])) := by
  obtain ⟨fs, hr, hrun, hended, hE⟩ := X.leaveW hS hn1 (v := none) (fun _ => rfl) hlk
  exact ⟨_, _, X.returnOut hx hret hd hr, hrun, hended, _, _, rfl, hQ, own_endW hE hk hs⟩
theorem own_ext0 {h h' : Heap} (K : Keep h h' []) : Ext h h' := ⟨K.1, fun a c q => K.2.1 a c q (by simp)⟩
theorem own_staK {Z : State} {h h' : Heap} {C n d : String} {v : Value} {ws : List Addr} (S : Sta Z h C n d v) (K : Keep h h' ws) (q : ∀ x ∈ ws, ∃ c : Cell, h[x]? = some c ∧ c.vm.isStatics = false) : Sta Z h' C n d v := by
  obtain ⟨cf, i, k, f, st, cell, h1, h2, h3, h4, h5, h6, h7⟩ := S
  refine ⟨cf, i, k, f, st, cell, h1, h2, h3, h4, K.2.1 st cell h5 (fun hm => ?_), h6, h7⟩
  obtain ⟨c, c1, c2⟩ := q st hm
  rw [h5] at c1
  cases c1
  rw [h6] at c2
  cases c2
theorem own_plain {Z : State} {h : Heap} {a : Addr} {C : String} (E : Exa Z h a C) : ∃ c : Cell, h[a]? = some c ∧ c.vm.isStatics = false := by
  obtain ⟨c, k, h1, h2, h3, h4, h5⟩ := E
  exact ⟨c, h1, h4⟩
theorem own_arrK {Z : State} {h h' : Heap} {a : Addr} {c : Cell} {ty : FieldType} {ws : List Addr} (A : Arr Z h a c ty) (K : Keep h h' ws) (q : a ∉ ws) : Arr Z h' a c ty := ⟨K.2.1 a c A.1 q, A.2⟩
/-- the array at a, of the class k, holds just vs -/
def OwnA (Z : State) (h : Heap) (a : Addr) (k : ClassId) (ty : FieldType) (vs : List Value) : Prop := ∃ c : Cell, Arr Z h a c ty ∧ c.cls = k ∧ c.slots.toList = vs
theorem OwnA.lt {Z : State} {h : Heap} {a : Addr} {k : ClassId} {ty : FieldType} {vs : List Value} (F : OwnA Z h a k ty vs) : a < h.size := by obtain ⟨c, A, -⟩ := F; exact A.lt
theorem OwnA.ext {Z : State} {h h' : Heap} {a : Addr} {k : ClassId} {ty : FieldType} {vs : List Value} (F : OwnA Z h a k ty vs) (E : Ext h h') : OwnA Z h' a k ty vs := by obtain ⟨c, A, r⟩ := F; exact ⟨c, A.ext E, r⟩
theorem OwnA.other {Z : State} {h h' : Heap} {a b : Addr} {k : ClassId} {ty : FieldType} {vs : List Value} {sl : Nat} {v : Value} (F : OwnA Z h a k ty vs) (W : Wr h h' b sl v) (q : a ≠ b) : OwnA Z h' a k ty vs := by obtain ⟨c, A, r⟩ := F; exact ⟨c, A.other W q, r⟩
theorem OwnA.keep {Z : State} {h h' : Heap} {a : Addr} {k : ClassId} {ty : FieldType} {vs : List Value} {ws : List Addr} (F : OwnA Z h a k ty vs) (K : Keep h h' ws) (q : a ∉ ws) : OwnA Z h' a k ty vs := by obtain ⟨c, A, r⟩ := F; exact ⟨c, own_arrK A K q, r⟩
theorem OwnA.new {Z : State} {h : Heap} {a : Addr} {k : ClassId} {ty : FieldType} {z : Int32} (A : Arr Z h a (newA k ty z) ty) : OwnA Z h a k ty (List.replicate z.toNatClampNeg (defaultValue ty)) := ⟨_, A, rfl, by simp [newA]⟩
theorem OwnA.set {Z : State} {h h' : Heap} {a : Addr} {k : ClassId} {ty : FieldType} {vs : List Value} {j : Nat} {v : Value} (F : OwnA Z h a k ty vs) (W : Wr h h' a j v) : OwnA Z h' a k ty (vs.set j v) := by
  obtain ⟨c, A, r1, r2⟩ := F
  refine ⟨_, A.same W, r1, ?_⟩
  rw [← r2]
  simp [Cell.setSlot]
theorem OwnA.inb {c : Cell} {vs : List Value} {j : Int32} (H : c.slots.toList = vs) (h1 : ¬ j < 0) (h2 : j.toNatClampNeg < vs.length) : ¬ (j < 0 ∨ c.slots.size ≤ j.toNatClampNeg) := by
  rintro (q | q)
  · exact h1 q
  · rw [← H, Array.length_toList] at h2; omega
theorem OwnA.at {c : Cell} {vs : List Value} {j : Int32} {v : Value} (H : c.slots.toList = vs) (h : vs[j.toNatClampNeg]? = some v) : c.slots[j.toNatClampNeg]? = some v := by
  rw [← H] at h; simpa using h
theorem OwnA.size {c : Cell} {vs : List Value} {z : Int32} (H : c.slots.toList = vs) (h : vs.length = z.toNatClampNeg) : c.slots.size = z.toNatClampNeg := by
  rw [← h, ← H, Array.length_toList]
theorem OwnA.ofArv {Z : State} {h : Heap} {a : Addr} {k : ClassId} {ty : FieldType} {z : Int32} {vs : List Value} {d : Value} (F : Arv Z h a k ty z vs d) (hl : z.toNatClampNeg = vs.length) : OwnA Z h a k ty vs := by
  obtain ⟨c, A, r1, r2, r3, r4, r5⟩ := F
  refine ⟨c, A, r1, ?_⟩
  apply List.ext_getElem?
  intro i
  by_cases hi : i < c.slots.size
  · have q := r4 i hi
    rw [Array.getElem?_toList, q, List.getD_eq_getElem?_getD]
    rw [r2, hl] at hi
    rw [List.getElem?_eq_getElem hi]; rfl
  · rw [Array.getElem?_toList, Array.getElem?_eq_none (by omega), List.getElem?_eq_none (by omega)]
theorem OwnA.one {Z : State} {h : Heap} {a : Addr} {k k' : ClassId} {ty ty' : FieldType} {vs vs' : List Value} (F : OwnA Z h a k ty vs) (G : OwnA Z h a k' ty' vs') : vs = vs' := by
  obtain ⟨c, A, -, r⟩ := F
  obtain ⟨c', A', -, r'⟩ := G
  have q := A.1.symm.trans A'.1
  cases q
  rw [← r, ← r']
theorem own_fldOne {Z : State} {h : Heap} {a : Addr} {C n d : String} {v w : Value} (F : Fld Z h a C n d v) (G : Fld Z h a C n d w) : v = w := by
  obtain ⟨c, cf, k, i, f, h1, h2, h3, h4, h5, h6, h7⟩ := F
  obtain ⟨c', cf', k', i', f', g1, g2, g3, g4, g5, g6, g7⟩ := G
  have q := h1.symm.trans g1
  cases q
  have q := h2.symm.trans g2
  cases q
  have q := h7.symm.trans g7
  cases q
  rfl
theorem own_decl {Z : State} {a0 : Array Value} {y : MethodName} {b : ByteArray} {ml : Nat} {rt : Option FieldType} (hi : (Jvm.Cond.instanceMethod y).before a0 Z = true) (hc : (Jvm.Cond.code y b ml rt).before a0 Z = true) : (Jvm.Cond.declares y).before a0 Z = true := by
  obtain ⟨mk, methM, hnamed, hmethM, hstM, habM⟩ := Cond.instanceMethod_spec hi
  obtain ⟨m2, cM, q1, -, -, -, -, -, -, hsig⟩ := Cond.code_spec hnamed hc
  cases hmethM.symm.trans q1
  simp [Cond.before, Cond.holds, Cond.value, hnamed, hmethM, hstM, hsig]
theorem own_selp {Z : State} {a0 : Array Value} {C : String} {y y' : MethodName} (h' : (Jvm.Cond.selects C y' y').before a0 Z = true) (hc : y'.cls = y.cls) (hp : (Jvm.Cond.privateMethod y).before a0 Z = true) (hi : (Jvm.Cond.instanceMethod y).before a0 Z = true) (hy : y.cls ≠ "java/lang/invoke/MethodHandle" ∧ y.cls ≠ "java/lang/invoke/VarHandle") : (Jvm.Cond.selects y.cls y y).before a0 Z = true := by
  obtain ⟨c2, r2, m2, q1, q2, q3, q4, kP, hkP, hkPi⟩ := Cond.selects_spec h'
  exact selects_self_of_private (c := m2.cls) (by rw [← hc]; exact findClass_of_methodNamed q3) hkP hkPi (Cond.privateMethod_at hp) hi hy
theorem own_plainA {Z : State} {h : Heap} {a : Addr} {k : ClassId} {ty : FieldType} {vs : List Value} (F : OwnA Z h a k ty vs) : ∃ c : Cell, h[a]? = some c ∧ c.vm.isStatics = false := by
  obtain ⟨c, A, -⟩ := F
  exact ⟨c, A.1, A.plain⟩
theorem own_eqI {args : Array Value} {s : State} {u : Term} {k : Int32} (h : (Jvm.Cond.eq u (.int k)).value args s none s [] = some true) : u.eval args s none [] s = some (.int k) := by
  cases hv : u.eval args s none [] s with
  | none => simp [Cond.value, hv] at h
  | some v => cases v <;> simp [Cond.value, Term.eval, hv] at h ⊢ <;> exact h
theorem own_eqL {args : Array Value} {s : State} {u : Term} {k : Int64} (h : (Jvm.Cond.eq u (.long k)).value args s none s [] = some true) : u.eval args s none [] s = some (.long k) := by
  cases hv : u.eval args s none [] s with
  | none => simp [Cond.value, hv] at h
  | some v => cases v <;> simp [Cond.value, Term.eval, hv] at h ⊢ <;> exact h
theorem own_size {args : Array Value} {s : State} {u : Term} {a : Addr} {cl : Cell} {ty : FieldType} {k : Int32} (ev : u.eval args s none [] s = some (.ref a)) (A : Arr s s.heap a cl ty) (h : (Jvm.Cond.eq (.length u) (.int k)).value args s none s [] = some true) : cl.slots.size = k.toNatClampNeg := by
  have h1 := own_eqI h
  have h2 : s.arrayAt? a = some cl := A.fin (Vm.Alike.refl _)
  simp only [Term.eval, ev, h2, Option.bind_eq_bind, Option.bind_some] at h1
  split at h1
  · rename_i hl
    have h3 : cl.slots.size.toInt32 = k := by simpa using h1
    rw [← h3]
    have := len_toInt hl
    rw [Int32.toNatClampNeg, this]; rfl
  · simp at h1
theorem own_elL {args : Array Value} {s : State} {u : Term} {a : Addr} {cl : Cell} {ty : FieldType} {j : Int32} {k : Int64} (ev : u.eval args s none [] s = some (.ref a)) (A : Arr s s.heap a cl ty) (h : (Jvm.Cond.eq (.elem u (.int j)) (.long k)).value args s none s [] = some true) : cl.slots[j.toNatClampNeg]? = some (.long k) :=
  (elem_in (own_eqL h) ev (Term.int_eval _) A.1).2
theorem own_elI {args : Array Value} {s : State} {u : Term} {a : Addr} {cl : Cell} {ty : FieldType} {j k : Int32} (ev : u.eval args s none [] s = some (.ref a)) (A : Arr s s.heap a cl ty) (h : (Jvm.Cond.eq (.elem u (.int j)) (.int k)).value args s none s [] = some true) : cl.slots[j.toNatClampNeg]? = some (.int k) :=
  (elem_in (own_eqI h) ev (Term.int_eval _) A.1).2
theorem own_ne {args : Array Value} {s : State} {u : Term} {z k : Int32} (ev : u.eval args s none [] s = some (.int z)) (h : (Jvm.Cond.not (Jvm.Cond.eq u (.int k))).value args s none s [] = some true) : ¬ z = k := by
  have h2 := not_v h
  intro q
  subst q
  simp [Cond.value, Term.eval, ev] at h2
theorem own_in {i z : Int32} {cl : Cell} (S : cl.slots.size = z.toNatClampNeg) (h1 : ¬ i < 0) (h2 : i < z) : ¬ (i < 0 ∨ cl.slots.size ≤ i.toNatClampNeg) := by
  rintro (q | q)
  · exact h1 q
  · rw [S] at q
    rw [Int32.lt_iff_toInt_lt] at h1 h2
    have e0 : (0 : Int32).toInt = 0 := rfl
    have e1 : ((i.toNatClampNeg : Nat) : Int) = i.toInt := by rw [Int32.toNatClampNeg]; exact Int.toNat_of_nonneg (by omega)
    have e2 : ((z.toNatClampNeg : Nat) : Int) = z.toInt := by rw [Int32.toNatClampNeg]; exact Int.toNat_of_nonneg (by omega)
    omega
end Own

theorem pd_0 : parseMethodDescriptor "()V" = some ⟨[], none⟩ := by decide +kernel
theorem pd_1 : parseMethodDescriptor "(J)V" = some ⟨[.long], none⟩ := by decide +kernel
theorem pd_2 : parseMethodDescriptor "(Ljava/math/BigInteger;ZZI)Ljava/math/BigInteger;" = some ⟨[(.object "java/math/BigInteger"), .boolean, .boolean, .int], some (.object "java/math/BigInteger")⟩ := by decide +kernel
theorem pd_3 : parseMethodDescriptor "(Ljava/math/BigInteger;)Ljava/math/BigInteger;" = some ⟨[(.object "java/math/BigInteger")], some (.object "java/math/BigInteger")⟩ := by decide +kernel
theorem pd_4 : parseMethodDescriptor "(Ljava/math/BigInteger;)J" = some ⟨[(.object "java/math/BigInteger")], some .long⟩ := by decide +kernel
theorem pd_5 : parseMethodDescriptor "(Ljava/math/BigInteger;JII)V" = some ⟨[(.object "java/math/BigInteger"), .long, .int, .int], none⟩ := by decide +kernel
theorem pd_6 : parseMethodDescriptor "(J)Ljava/math/BigDecimal;" = some ⟨[.long], some (.object "java/math/BigDecimal")⟩ := by decide +kernel
theorem pd_7 : parseMethodDescriptor "(JI)Ljava/math/BigDecimal;" = some ⟨[.long, .int], some (.object "java/math/BigDecimal")⟩ := by decide +kernel
theorem pd_8 : parseMethodDescriptor "(JJ)I" = some ⟨[.long, .long], some .int⟩ := by decide +kernel
theorem pd_9 : parseMethodDescriptor "(JI)J" = some ⟨[.long, .int], some .long⟩ := by decide +kernel
theorem pd_10 : parseMethodDescriptor "(JJIII)Ljava/math/BigDecimal;" = some ⟨[.long, .long, .int, .int, .int], some (.object "java/math/BigDecimal")⟩ := by decide +kernel
theorem pd_11 : parseMethodDescriptor "(JIJIII)Ljava/math/BigDecimal;" = some ⟨[.long, .int, .long, .int, .int, .int], some (.object "java/math/BigDecimal")⟩ := by decide +kernel
theorem pd_12 : parseMethodDescriptor "(Ljava/math/BigDecimal;II)Ljava/math/BigDecimal;" = some ⟨[(.object "java/math/BigDecimal"), .int, .int], some (.object "java/math/BigDecimal")⟩ := by decide +kernel
theorem pd_13 : parseMethodDescriptor "()J" = some ⟨[], some .long⟩ := by decide +kernel
theorem pd_14 : parseMethodDescriptor "(Ljava/math/BigInteger;)V" = some ⟨[(.object "java/math/BigInteger")], none⟩ := by decide +kernel
theorem pd_15 : parseMethodDescriptor "(Ljava/math/BigDecimal;ILjava/math/RoundingMode;)Ljava/math/BigDecimal;" = some ⟨[(.object "java/math/BigDecimal"), .int, (.object "java/math/RoundingMode")], some (.object "java/math/BigDecimal")⟩ := by decide +kernel
theorem pd_16 : parseMethodDescriptor "(J)Ljava/math/BigInteger;" = some ⟨[.long], some (.object "java/math/BigInteger")⟩ := by decide +kernel
theorem pd_17 : parseMethodDescriptor "(Lcom/example/fairgate/fairgate/processor/Trade;Lcom/example/fairgate/fairgate/processor/OrderKey;Lcom/example/fairgate/fairgate/core/EntryPoint;JJJ)V" = some ⟨[(.object "com/example/fairgate/fairgate/processor/Trade"), (.object "com/example/fairgate/fairgate/processor/OrderKey"), (.object "com/example/fairgate/fairgate/core/EntryPoint"), .long, .long, .long], none⟩ := by decide +kernel
theorem pd_18 : parseMethodDescriptor "(JJ)J" = some ⟨[.long, .long], some .long⟩ := by decide +kernel
theorem pd_19 : parseMethodDescriptor "(Lcom/example/fairgate/fairgate/processor/OrderKey;Lcom/example/fairgate/fairgate/core/EntryPoint;Ljava/lang/String;Lcom/example/fairgate/fairgate/processor/Side;JJZ)V" = some ⟨[(.object "com/example/fairgate/fairgate/processor/OrderKey"), (.object "com/example/fairgate/fairgate/core/EntryPoint"), (.object "java/lang/String"), (.object "com/example/fairgate/fairgate/processor/Side"), .long, .long, .boolean], none⟩ := by decide +kernel
theorem pd_20 : parseMethodDescriptor "(JJLcom/example/fairgate/fairgate/processor/OrderKey;Lcom/example/fairgate/fairgate/processor/OrderKey;JJ)V" = some ⟨[.long, .long, (.object "com/example/fairgate/fairgate/processor/OrderKey"), (.object "com/example/fairgate/fairgate/processor/OrderKey"), .long, .long], none⟩ := by decide +kernel
theorem pd_21 : parseMethodDescriptor "(Lcom/example/fairgate/fairgate/processor/Trade;)Lcom/example/fairgate/fairgate/processor/Fill;" = some ⟨[(.object "com/example/fairgate/fairgate/processor/Trade")], some (.object "com/example/fairgate/fairgate/processor/Fill")⟩ := by decide +kernel
theorem own_str {Z : State} {a0 : Array Value} (hw : ∀ d ∈ tables_1, d.before a0 Z = true) : ∀ a ∈ Bundle.stringAtoms, a.before a0 Z = true := by
  intro a ha
  simp only [Bundle.stringAtoms, List.mem_cons, List.not_mem_nil, or_false] at ha
  rcases ha with rfl | rfl | rfl | rfl | rfl | rfl | rfl
  · exact (hw _ (List.mem_of_getElem? (i := 9) rfl))
  · exact (hw _ (List.mem_of_getElem? (i := 10) rfl))
  · exact (hw _ (List.mem_of_getElem? (i := 11) rfl))
  · exact (hw _ (List.mem_of_getElem? (i := 12) rfl))
  · exact (hw _ (List.mem_of_getElem? (i := 13) rfl))
  · exact (hw _ (List.mem_of_getElem? (i := 14) rfl))
  · exact (hw _ (List.mem_of_getElem? (i := 15) rfl))
def QSame (r : Option Value) (h0 : Heap) (n0 : Nat) (v : Option Value) (h : Heap) (L : List Loc) : Prop := v = r ∧ Fr n0 L ∧ h = h0
section OwnC
variable {p : Program} {l : Launch} {e : Env} {R : Room} {s : State} {m : MethodId} {args : Array Value} {below : List Frame} {meth : Method} {c : Code} {T : State} {locs : List Loc} {cells slots : Nat}
theorem own_gc {Z : State} {a0 : Array Value} {h : Heap} (X : Stand p l e R s m args below meth c T locs cells slots) (hx : p.tables.exec = Jvm.exec) (hZ : Z.Warmed39 s.vm) {own C : String} {index : Nat} (hown : s.vm.findClass own = some m.cls)
    (w1 : (Jvm.Cond.methodLink own index Jvm.Stand.gcN).before a0 Z = true) (w2 : (Jvm.Cond.declares Jvm.Stand.gcN).before a0 Z = true) (w3 : (Jvm.Cond.selects C Jvm.Stand.gcN Jvm.Stand.gcN).before a0 Z = true) (w4 : (Jvm.Cond.instanceMethod Jvm.Stand.gcN).before a0 Z = true) (w5 : (Jvm.Cond.native Jvm.Stand.gcN).before a0 Z = true)
    (eT : T.heap = h) {b mir : Addr} (E : Exa Z h b C) (hm : (Term.mirror C).eval a0 Z none [] Z = some (.ref mir))
    {g : JFrame} (hg : g.method = m) (hsize : g.locals.size = c.maxLocals) {rest : List Value} (hstack : g.stack = .ref b :: rest) (hdg : decode c.code g.pc = .ok (.invokevirtual index, 3))
    {W : Nat} (hW : 2 * g.monitorRoom + (rest.map fun v => v.category).sum ≤ W) (hfr : 1 ≤ R.frames) (hlo : W + 14 ≤ R.locals) :
    ∃ T' : State, Stand p l e R s m args below meth c T' locs cells slots ∧ T'.heap = h ∧
      ∀ target, Steps p.tables e below (T'.setTop { g with pc := g.pc + 3, stack := .ref mir :: rest }) target → Steps p.tables e below (T.setTop g) target := by
  obtain ⟨cB, kB, q1, q2, q3⟩ := isOf hZ eT E
  obtain ⟨cC, kC, a', hfc, hkC, hmir, ha⟩ := Term.mirror_spec (Jvm.Free.ALB.Dup.mirror_any (a' := args) hZ.alike hm)
  cases ha
  cases q1.symm.trans hfc
  have hlo' : 2 * g.monitorRoom + (rest.map fun v => v.category).sum + (nativeFrameWords "java/lang/Object" "getClass" 1 + 11) ≤ R.locals := by
    rw [show nativeFrameWords "java/lang/Object" "getClass" 1 = 3 from by decide]; omega
  obtain ⟨vm1, X1, st⟩ := X.getClassOf hx hown (mvT hZ w1) (mvT hZ w2) (notFace_of_selects (args := #[]) (mvT hZ w3)) (mvT hZ w3) (mvT hZ w4) (mv hZ w5) q1 q3 hkC hmir hg hsize hstack hdg hfr hlo'
  exact ⟨_, X1, eT, st⟩
theorem own_lm {Z : State} {a0 : Array Value} {h : Heap} (X : Stand p l e R s m args below meth c T locs cells slots) (hx : p.tables.exec = Jvm.exec) (hZ : Z.Warmed39 s.vm) {own C : String} {index : Nat} (hown : s.vm.findClass own = some m.cls)
    (w1 : (Jvm.Cond.classLink own index C).before a0 Z = true) (eT : T.heap = h) {mir : Addr} (hm : (Term.mirror C).eval a0 Z none [] Z = some (.ref mir))
    {g : JFrame} (hg : g.method = m) (hdg : decode c.code g.pc = .ok (.ldc index, 2)) :
    ∃ T' : State, Stand p l e R s m args below meth c T' locs cells slots ∧ T'.heap = h ∧
      ∀ target, Steps p.tables e below (T'.setTop { g with pc := g.pc + 2, stack := .ref mir :: g.stack }) target → Steps p.tables e below (T.setTop g) target := by
  obtain ⟨vm1, X1, st⟩ := X.ldcMirror hx hown (mvT hZ w1) (Jvm.Free.ALB.Dup.mirror_any (a' := args) hZ.alike hm) hg hdg
  exact ⟨_, X1, eT, st⟩
theorem own_mir {Z : State} {a0 : Array Value} {C : String} (h : MirrorMade Z C) : ∃ mir, (Term.mirror C).eval a0 Z none [] Z = some (.ref mir) := by
  obtain ⟨c, k, mir, h1, h2, h3, -⟩ := h
  exact ⟨mir, by simp [Term.eval, h1, h2, h3]⟩
end OwnC
theorem own_eb {hB h0 H : Heap} {ws : List Addr} (Eb : Ext hB h0) (K : Keep h0 H ws) (q : ∀ x ∈ ws, hB.size ≤ x) : Ext hB H := ⟨Nat.le_trans Eb.1 K.1, fun a c h => K.2.1 a c (Eb.2 a c h) fun hm => by
  have h1 := q a hm
  have h2 := (Array.getElem?_eq_some_iff.mp h).1
  omega⟩
theorem own_eb0 {hB h0 H : Heap} (Eb : Ext hB h0) (K : Keep h0 H []) : Ext hB H := own_eb Eb K (by simp)
def OwnWd (Z : State) (a0 : Array Value) (hB : Heap) (zr mz pa za rmo lt mir : Addr) (mc pk zc lc : Cell) : Prop :=
  Sta Z hB "java/math/BigInteger" "ZERO" "Ljava/math/BigInteger;" (.ref zr) ∧ Exa Z hB zr "java/math/BigInteger" ∧ Fld Z hB zr "java/math/BigInteger" "signum" "I" (.int 0) ∧ Fld Z hB zr "java/math/BigInteger" "mag" "[I" (.ref mz) ∧ Arr Z hB mz mc .int ∧ mc.slots.size = (0 : Int32).toNatClampNeg ∧
  Sta Z hB "java/math/BigInteger" "posConst" "[Ljava/math/BigInteger;" (.ref pa) ∧ Arr Z hB pa pk (.object "java/math/BigInteger") ∧ pk.slots.size = (17 : Int32).toNatClampNeg ∧ (∀ k : Nat, 1 ≤ k → k ≤ 16 → ∃ r sg, pk.slots[k]? = some (.ref r) ∧ Exa Z hB r "java/math/BigInteger" ∧ Fld Z hB r "java/math/BigInteger" "signum" "I" (.int sg)) ∧
  Sta Z hB "java/math/BigDecimal" "ZERO_THROUGH_TEN" "[Ljava/math/BigDecimal;" (.ref za) ∧ Arr Z hB za zc (.object "java/math/BigDecimal") ∧ zc.slots.size = (11 : Int32).toNatClampNeg ∧ (∀ k : Nat, k ≤ 10 → ∃ (r : Addr) (x : Int64), zc.slots[k]? = some (.ref r) ∧ x.toInt = k ∧ Exa Z hB r "java/math/BigDecimal" ∧ Fld Z hB r "java/math/BigDecimal" "intCompact" "J" (.long x) ∧ Fld Z hB r "java/math/BigDecimal" "scale" "I" (.int 0)) ∧
  Sta Z hB "java/math/RoundingMode" "HALF_EVEN" "Ljava/math/RoundingMode;" (.ref rmo) ∧ Fld Z hB rmo "java/math/RoundingMode" "oldMode" "I" (.int 6) ∧
  Sta Z hB "java/math/BigDecimal" "LONG_TEN_POWERS_TABLE" "[J" (.ref lt) ∧ Arr Z hB lt lc .long ∧ lc.slots.size = (19 : Int32).toNatClampNeg ∧ (Term.mirror "java/math/BigInteger").eval a0 Z none [] Z = some (.ref mir)
def OwnO (Z : State) (h : Heap) (o zr : Addr) (q rem res : Int64) (can : Int32) : Prop := Exa Z h o "com/example/fairgate/fairgate/processor/Order" ∧ Fld Z h o "com/example/fairgate/fairgate/processor/Order" "qty" "J" (.long q) ∧ Fld Z h o "com/example/fairgate/fairgate/processor/Order" "remaining" "J" (.long rem) ∧ Fld Z h o "com/example/fairgate/fairgate/processor/Order" "reserved" "J" (.long res) ∧ Fld Z h o "com/example/fairgate/fairgate/processor/Order" "cancelled" "Z" (.int can) ∧ Fld Z h o "com/example/fairgate/fairgate/processor/Order" "traded" "Ljava/math/BigInteger;" (.ref zr) ∧ Fld Z h o "com/example/fairgate/fairgate/processor/Order" "key" "Lcom/example/fairgate/fairgate/processor/OrderKey;" .null ∧ Fld Z h o "com/example/fairgate/fairgate/processor/Order" "edge" "Lcom/example/fairgate/fairgate/core/EntryPoint;" .null
def OwnT (Z : State) (h : Heap) (a : Addr) (q : Int64) : Prop := Exa Z h a "com/example/fairgate/fairgate/processor/Trade" ∧ Fld Z h a "com/example/fairgate/fairgate/processor/Trade" "price" "J" (.long 0) ∧ Fld Z h a "com/example/fairgate/fairgate/processor/Trade" "qty" "J" (.long q)
def OwnD (Z : State) (h : Heap) (a : Addr) (x : Int64) : Prop := Exa Z h a "java/math/BigDecimal" ∧ Fld Z h a "java/math/BigDecimal" "intCompact" "J" (.long x) ∧ Fld Z h a "java/math/BigDecimal" "scale" "I" (.int 0)
theorem OwnO.ext {Z : State} {h h' : Heap} {o zr : Addr} {q rem res : Int64} {can : Int32} (F : OwnO Z h o zr q rem res can) (E : Ext h h') : OwnO Z h' o zr q rem res can := ⟨F.1.ext E, F.2.1.ext E, F.2.2.1.ext E, F.2.2.2.1.ext E, F.2.2.2.2.1.ext E, F.2.2.2.2.2.1.ext E, F.2.2.2.2.2.2.1.ext E, F.2.2.2.2.2.2.2.ext E⟩
theorem OwnO.lt {Z : State} {h : Heap} {o zr : Addr} {q rem res : Int64} {can : Int32} (F : OwnO Z h o zr q rem res can) : o < h.size := F.1.lt
theorem OwnO.keep {Z : State} {h h' : Heap} {o zr : Addr} {q rem res : Int64} {can : Int32} {ws : List Addr} (F : OwnO Z h o zr q rem res can) (K : Keep h h' ws) (n : o ∉ ws) : OwnO Z h' o zr q rem res can := ⟨F.1.keep K, F.2.1.keep K n, F.2.2.1.keep K n, F.2.2.2.1.keep K n, F.2.2.2.2.1.keep K n, F.2.2.2.2.2.1.keep K n, F.2.2.2.2.2.2.1.keep K n, F.2.2.2.2.2.2.2.keep K n⟩
theorem OwnT.ext {Z : State} {h h' : Heap} {a : Addr} {q : Int64} (F : OwnT Z h a q) (E : Ext h h') : OwnT Z h' a q := ⟨F.1.ext E, F.2.1.ext E, F.2.2.ext E⟩
theorem OwnT.keep {Z : State} {h h' : Heap} {a : Addr} {q : Int64} {ws : List Addr} (F : OwnT Z h a q) (K : Keep h h' ws) (n : a ∉ ws) : OwnT Z h' a q := ⟨F.1.keep K, F.2.1.keep K n, F.2.2.keep K n⟩
theorem OwnT.lt {Z : State} {h : Heap} {a : Addr} {q : Int64} (F : OwnT Z h a q) : a < h.size := F.1.lt
theorem OwnT.other {Z : State} {h h' : Heap} {a b : Addr} {q : Int64} {sl : Nat} {v : Value} (F : OwnT Z h a q) (W : Wr h h' b sl v) (n : a ≠ b) : OwnT Z h' a q := ⟨F.1.wr W, F.2.1.other W (Or.inl n), F.2.2.other W (Or.inl n)⟩
theorem OwnD.ext {Z : State} {h h' : Heap} {a : Addr} {x : Int64} (F : OwnD Z h a x) (E : Ext h h') : OwnD Z h' a x := ⟨F.1.ext E, F.2.1.ext E, F.2.2.ext E⟩
theorem OwnD.lt {Z : State} {h : Heap} {a : Addr} {x : Int64} (F : OwnD Z h a x) : a < h.size := F.1.lt
def QO (Z : State) (o zr : Addr) (q rem res : Int64) (can : Int32) (h0 : Heap) (n0 : Nat) (v : Option Value) (h : Heap) (L : List Loc) : Prop := v = none ∧ Fr n0 L ∧ Keep h0 h [o] ∧ OwnO Z h o zr q rem res can
def QT (Z : State) (a : Addr) (q : Int64) (h0 : Heap) (n0 : Nat) (v : Option Value) (h : Heap) (L : List Loc) : Prop := v = none ∧ Fr n0 L ∧ Keep h0 h [a] ∧ OwnT Z h a q
def QD (Z : State) (a : Addr) (x : Int64) (h0 : Heap) (n0 : Nat) (v : Option Value) (h : Heap) (L : List Loc) : Prop := v = none ∧ Fr n0 L ∧ Keep h0 h [a] ∧ OwnD Z h a x
def QBI (Z : State) (a : Addr) (h0 : Heap) (n0 : Nat) (v : Option Value) (h : Heap) (L : List Loc) : Prop := v = none ∧ Fr n0 L ∧ Keep h0 h [a] ∧ Exa Z h a "java/math/BigInteger" ∧ Fld Z h a "java/math/BigInteger" "signum" "I" (.int 1)
def QK (a : Addr) (h0 : Heap) (n0 : Nat) (v : Option Value) (h : Heap) (L : List Loc) : Prop := v = none ∧ Fr n0 L ∧ Keep h0 h [a]
def QVo (Z : State) (h0 : Heap) (n0 : Nat) (v : Option Value) (h : Heap) (L : List Loc) : Prop := ∃ r sg, v = some (.ref r) ∧ Fr n0 L ∧ Keep h0 h [] ∧ Exa Z h r "java/math/BigInteger" ∧ Fld Z h r "java/math/BigInteger" "signum" "I" (.int sg)
def QDv (Z : State) (x : Int64) (h0 : Heap) (n0 : Nat) (v : Option Value) (h : Heap) (L : List Loc) : Prop := ∃ r, v = some (.ref r) ∧ Fr n0 L ∧ Keep h0 h [] ∧ OwnD Z h r x
def QAvg (h0 : Heap) (n0 : Nat) (v : Option Value) (h : Heap) (L : List Loc) : Prop := ∃ z, v = some (.long z) ∧ Fr n0 L ∧ Keep h0 h []
def QFill (Z : State) (o zr : Addr) (q rem res : Int64) (can : Int32) (h0 : Heap) (n0 : Nat) (v : Option Value) (h : Heap) (L : List Loc) : Prop := ∃ r, v = some (.ref r) ∧ Fr n0 L ∧ Keep h0 h [o] ∧ OwnO Z h o zr q rem res can
theorem own_ltL {x y : Int64} : x < y ↔ x.toInt < y.toInt := Int64.lt_iff_toInt_lt
theorem own_idx {v : Int64} {n : Nat} (h1 : 0 ≤ v.toInt) (h2 : v.toInt ≤ n) (h3 : n ≤ 1000) : ¬ v.toInt32 < 0 ∧ v.toInt32.toNatClampNeg = v.toInt.toNat := by
  have a := c_l2i v
  have b := rng32 v.toInt32
  have e1 : v.toInt32.toInt = v.toInt := by omega
  refine ⟨?_, ?_⟩
  · rw [Int32.lt_iff_toInt_lt]; have e : (0 : Int32).toInt = 0 := rfl; omega
  · rw [Int32.toNatClampNeg, e1]
theorem own_inA {v : Int64} {n : Nat} {z : Int32} {cl : Cell} (h1 : 0 ≤ v.toInt) (h2 : v.toInt ≤ n) (h3 : n ≤ 1000) (hz : cl.slots.size = z.toNatClampNeg) (hn : n < z.toNatClampNeg) : ¬ (v.toInt32 < 0 ∨ cl.slots.size ≤ v.toInt32.toNatClampNeg) := by
  obtain ⟨a, b⟩ := own_idx h1 h2 h3
  rintro (q | q)
  · exact a q
  · omega
theorem own_e0 : (0 : Int64).toInt = 0 := rfl
theorem own_e16 : (16 : Int64).toInt = 16 := rfl
theorem own_neMin {v : Int64} (h : 0 ≤ v.toInt) : ¬ v = -9223372036854775808 := by
  intro q
  rw [q] at h
  exact absurd h (by decide)
theorem own_mx {q : Int64} : 1 ≤ (if lcmpW 1 (q &&& 9223372036854775807) < 0 then (q &&& 9223372036854775807) else 1).toInt := by
  split
  · rename_i h
    rw [lw_lt, own_ltL] at h
    have e : (1 : Int64).toInt = 1 := rfl
    omega
  · decide
theorem own_pos {q : Int64} : 0 ≤ (q &&& 9223372036854775807).toInt := by
  rw [c_maskL q 9223372036854775807 63 (by decide) (by decide)]
  omega
theorem own_rem {x y : Int64} (h1 : 0 ≤ x.toInt) (h2 : 0 < y.toInt) : 0 ≤ (x - x / y * y).toInt := by
  rw [(c_lrem x y y.toInt rfl).1 h1]
  exact Int.emod_nonneg _ (by omega)
theorem own_nz {y : Int64} (h : 0 < y.toInt) : y ≠ 0 := by
  intro q
  rw [q] at h
  exact absurd h (by decide)
theorem own_a0 (a : Int64) : a - 0 = a := by
  apply Int64.toInt_inj.mp
  have h1 := c_lsub a 0
  have h2 := rng64 (a - 0)
  have h3 := rng64 a
  have h4 := own_e0
  omega
theorem own_a1 (a b : Int64) : a - (0 + b) = a - b := by
  apply Int64.toInt_inj.mp
  have h1 := c_lsub a (0 + b)
  have h5 := c_ladd 0 b
  have h6 := c_lsub a b
  have h2 := rng64 (a - (0 + b))
  have h3 := rng64 (a - b)
  have h4 := own_e0
  omega
theorem own_a2 (a b f : Int64) : a - f - (0 + b - f) = a - b := by
  apply Int64.toInt_inj.mp
  have h1 := c_lsub (a - f) (0 + b - f)
  have h5 := c_ladd 0 b
  have h6 := c_lsub a b
  have h7 := c_lsub a f
  have h8 := c_lsub (0 + b) f
  have h2 := rng64 (a - f - (0 + b - f))
  have h3 := rng64 (a - b)
  have h4 := own_e0
  omega
theorem own_a3 (a b f r : Int64) : a - f - (0 + b - f - r) = a - b + r := by
  apply Int64.toInt_inj.mp
  have h1 := c_lsub (a - f) (0 + b - f - r)
  have h5 := c_ladd 0 b
  have h6 := c_lsub a b
  have h7 := c_lsub a f
  have h8 := c_lsub (0 + b) f
  have h9 := c_lsub (0 + b - f) r
  have h10 := c_ladd (a - b) r
  have h2 := rng64 (a - f - (0 + b - f - r))
  have h3 := rng64 (a - b + r)
  have h4 := own_e0
  omega
theorem own_cum (a f : Int64) : a - (a - f) = f := by
  apply Int64.toInt_inj.mp
  have h1 := c_lsub a (a - f)
  have h7 := c_lsub a f
  have h2 := rng64 (a - (a - f))
  have h3 := rng64 f
  omega
theorem own_z (v : Int64) (h : 0 < v.toInt) : 0 / v = 0 ∧ (0 : Int64) - 0 / v * v = 0 := by
  have h1 := c_ldiv 0 v v.toInt rfl (fun q => by rw [q] at h; exact absurd h (by decide))
  have e : (0 / v).toInt = 0 := by rw [h1.1 (by decide), own_e0]; simp
  have e2 : 0 / v = 0 := Int64.toInt_inj.mp (e.trans own_e0.symm)
  rw [e2]
  exact ⟨rfl, by simp⟩
theorem d1_0 : decode jdk_29_method_66_code 0 = .ok (.lload_n 0, 1) := by decide +kernel
theorem d1_1 : decode jdk_29_method_66_code 1 = .ok (.lload_n 2, 1) := by decide +kernel
theorem d1_2 : decode jdk_29_method_66_code 2 = .ok (.lcmp, 1) := by decide +kernel
theorem d1_3 : decode jdk_29_method_66_code 3 = .ok (.ifCond .lt 7, 3) := by decide +kernel
theorem d1_6 : decode jdk_29_method_66_code 6 = .ok (.lload_n 0, 1) := by decide +kernel
theorem d1_7 : decode jdk_29_method_66_code 7 = .ok (.goto 4, 3) := by decide +kernel
theorem d1_10 : decode jdk_29_method_66_code 10 = .ok (.lload_n 2, 1) := by decide +kernel
theorem d1_11 : decode jdk_29_method_66_code 11 = .ok (.lreturn, 1) := by decide +kernel
theorem ef_rmMax (m : MethodId) (a : Int64) (b : Int64) : entryFrame m #[(.long a), (.long b)] 4 = mkF m 0 #[.val (.long a), .second, .val (.long b), .second] [] := by first | (simp [entryFrame, mkF, argsToLocals, Value.category, maxLocals]; done) | rfl
set_option maxRecDepth 65536 in
set_option maxHeartbeats 40000000 in
theorem rmMax (l : Launch) (Z : State) (a0 : Array Value) (hw : ∀ d ∈ tables_1, d.before a0 Z = true) (ws : List Jvm.Cond) (a b : Int64) (h0 : Heap) (n0 : Nat) (Z0 : n0 ≤ h0.size) :
    MetFree l (⟨"java/lang/Math", "max", "(JJ)J"⟩ : MethodName) (head1 (Jvm.Cond.code (⟨"java/lang/Math", "max", "(JJ)J"⟩ : MethodName) jdk_29_method_66_code (4 : Nat) (Option.some Jvm.ClassFile.FieldType.long) :: ws) ({ frames := 0, cells := 0, slots := 0, locals := 0 } : Room)) (fun aZ UZ => aZ = #[(.long a), (.long b)] ∧ Z.Warmed39 UZ.vm ∧ UZ.heap = h0) (fun _ _ _ _ _ => True) (fun _ UZ oZ VZ => ∃ vZ LZ, oZ = .returned vZ ∧ (QSame (some (.long (if lcmpW a b < 0 then b else a))) h0 n0) vZ VZ.heap LZ ∧ FrameEnd UZ oZ VZ LZ ({ frames := 0, cells := 0, slots := 0, locals := 0 } : Room).cells ({ frames := 0, cells := 0, slots := 0, locals := 0 } : Room).slots) := by
  refine MetFree.of_bodySF (Jvm.Free.JP.mathPlain rfl (by decide +kernel)) hisR ?_
  intro p e s m args below meth c s₁ Bd hml0 hP hK
  obtain ⟨rfl, hZ, hh⟩ := hP
  have hx := Bd.exec
  have hby := Bd.bytes
  have hml : c.maxLocals = 4 := hml0
  have hown : s.vm.findClass "java/lang/Math" = some m.cls := findClass_of_methodNamed Bd.named
  have hnm := (name_of_methodNamed Bd.named Bd.method).1
  have X0 : Stand p l e ({ frames := 0, cells := 0, slots := 0, locals := 0 } : Room) s m #[(.long a), (.long b)] below meth c s₁ [] 0 0 := Stand.of_body Bd
  have e0 : s₁.heap = h0 := by rw [← hh, Bd.state]; rfl
  have N0 := Fr.nil n0
  show OwnG p e below (OwnE s (QSame (some (.long (if lcmpW a b < 0 then b else a))) h0 n0) ({ frames := 0, cells := 0, slots := 0, locals := 0 } : Room).cells ({ frames := 0, cells := 0, slots := 0, locals := 0 } : Room).slots) _
  refine own_by (S' := s₁.setTop (mkF m 0 #[.val (.long a), .second, .val (.long b), .second] [])) (fun tZ kZ => castTop (ef_rmMax m a b) kZ) ?_
  refine own_by (S' := s₁.setTop (mkF m 1 #[.val (.long a), .second, .val (.long b), .second] [(.long a)])) (fun tZ kZ => XS.lloadN X0.here hx rfl (hb hby d1_0) rfl kZ) ?_
  refine own_by (S' := s₁.setTop (mkF m 2 #[.val (.long a), .second, .val (.long b), .second] [(.long b), (.long a)])) (fun tZ kZ => XS.lloadN X0.here hx rfl (hb hby d1_1) rfl kZ) ?_
  refine own_by (S' := s₁.setTop (mkF m 3 #[.val (.long a), .second, .val (.long b), .second] [(.int (lcmpW a b))])) (fun tZ kZ => XS.lcmp X0.here hx rfl (hb hby d1_2) rfl kZ) ?_
  by_cases hc : (lcmpW a b) < (0 : Int32)
  · refine own_by (S' := s₁.setTop (mkF m 10 #[.val (.long a), .second, .val (.long b), .second] [])) (fun tZ kZ => XS.ifYes X0.here hx rfl (pc0 := 3) (pc' := 10) rfl (hb hby d1_3) rfl ((if0 _ _).trans (tlt hc).1) (by decide) (by decide) kZ) ?_
    refine own_by (S' := s₁.setTop (mkF m 11 #[.val (.long a), .second, .val (.long b), .second] [(.long b)])) (fun tZ kZ => XS.lloadN X0.here hx rfl (hb hby d1_10) rfl kZ) ?_
    exact own_retL X0 hx Bd.returns  (hb hby d1_11) Bd.notSynchronized (by decide) (by decide) ⟨by rw [if_pos hc], N0, e0⟩
  · refine own_by (S' := s₁.setTop (mkF m 6 #[.val (.long a), .second, .val (.long b), .second] [])) (fun tZ kZ => XS.ifNo X0.here hx rfl (hb hby d1_3) rfl ((if0 _ _).trans (flt hc).1) kZ) ?_
    refine own_by (S' := s₁.setTop (mkF m 7 #[.val (.long a), .second, .val (.long b), .second] [(.long a)])) (fun tZ kZ => XS.lloadN X0.here hx rfl (hb hby d1_6) rfl kZ) ?_
    refine own_by (S' := s₁.setTop (mkF m 11 #[.val (.long a), .second, .val (.long b), .second] [(.long a)])) (fun tZ kZ => XS.goto X0.here hx rfl (pc0 := 7) (pc' := 11) rfl (hb hby d1_7) (by decide) (by decide) kZ) ?_
    exact own_retL X0 hx Bd.returns  (hb hby d1_11) Bd.notSynchronized (by decide) (by decide) ⟨by rw [if_neg hc], N0, e0⟩
theorem d5_0 : decode jdk_30_method_1_code 0 = .ok (.aload_n 0, 1) := by decide +kernel
theorem d5_1 : decode jdk_30_method_1_code 1 = .ok (.invokespecial 1, 3) := by decide +kernel
theorem d5_4 : decode jdk_30_method_1_code 4 = .ok (.return_, 1) := by decide +kernel
theorem pn_0 : plainName "java/lang/Record" = true := by first | (simp [plainName, overriddenIn]; done) | decide +kernel
theorem ef_rmRec (m : MethodId) (f : Addr) : entryFrame m #[(.ref f)] 1 = mkF m 0 #[.val (.ref f)] [] := by first | (simp [entryFrame, mkF, argsToLocals, Value.category, maxLocals]; done) | rfl
set_option maxRecDepth 65536 in
set_option maxHeartbeats 40000000 in
theorem rmRec (l : Launch) (Z : State) (a0 : Array Value) (hw : ∀ d ∈ tables_1, d.before a0 Z = true) (ws : List Jvm.Cond) (f : Addr) (h0 : Heap) (n0 : Nat) (Z0 : n0 ≤ h0.size) :
    MetFree l (⟨"java/lang/Record", "<init>", "()V"⟩ : MethodName) (head1 (Jvm.Cond.code (⟨"java/lang/Record", "<init>", "()V"⟩ : MethodName) jdk_30_method_1_code (1 : Nat) (Option.none : Option Jvm.ClassFile.FieldType) :: ws) ({ frames := 1, cells := 0, slots := 0, locals := 12 } : Room)) (fun aZ UZ => aZ = #[(.ref f)] ∧ Z.Warmed39 UZ.vm ∧ UZ.heap = h0) (fun _ _ _ _ _ => True) (fun _ UZ oZ VZ => ∃ vZ LZ, oZ = .returned vZ ∧ (QSame none h0 n0) vZ VZ.heap LZ ∧ FrameEnd UZ oZ VZ LZ ({ frames := 1, cells := 0, slots := 0, locals := 12 } : Room).cells ({ frames := 1, cells := 0, slots := 0, locals := 12 } : Room).slots) := by
  refine MetFree.of_bodySF (plainFor_of_name pn_0) hisR ?_
  intro p e s m args below meth c s₁ Bd hml0 hP hK
  obtain ⟨rfl, hZ, hh⟩ := hP
  have hx := Bd.exec
  have hby := Bd.bytes
  have hml : c.maxLocals = 1 := hml0
  have hown : s.vm.findClass "java/lang/Record" = some m.cls := findClass_of_methodNamed Bd.named
  have hnm := (name_of_methodNamed Bd.named Bd.method).1
  have X0 : Stand p l e ({ frames := 1, cells := 0, slots := 0, locals := 12 } : Room) s m #[(.ref f)] below meth c s₁ [] 0 0 := Stand.of_body Bd
  have e0 : s₁.heap = h0 := by rw [← hh, Bd.state]; rfl
  have N0 := Fr.nil n0
  show OwnG p e below (OwnE s (QSame none h0 n0) ({ frames := 1, cells := 0, slots := 0, locals := 12 } : Room).cells ({ frames := 1, cells := 0, slots := 0, locals := 12 } : Room).slots) _
  refine own_by (S' := s₁.setTop (mkF m 0 #[.val (.ref f)] [])) (fun tZ kZ => castTop (ef_rmRec m f) kZ) ?_
  refine own_by (S' := s₁.setTop (mkF m 1 #[.val (.ref f)] [(.ref f)])) (fun tZ kZ => XS.aloadN X0.here hx rfl (hb hby d5_0) rfl rfl kZ) ?_
  obtain ⟨T1, X1, e1, st1⟩ := initO X0 hx hZ hown (hw _ (List.mem_of_getElem? (i := 53) rfl)) (hw _ (List.mem_of_getElem? (i := 20) rfl)) (hw _ (List.mem_of_getElem? (i := 21) rfl)) e0 (g := (mkF m 1 #[.val (.ref f)] [(.ref f)])) rfl (by rw [hml]; rfl) rfl (hb hby d5_1) (by decide) (W := 0) (by show 2 * 0 + _ ≤ _; exact Nat.le_of_eq rfl) (by decide)
  refine own_by (S' := T1.setTop (mkF m 4 #[.val (.ref f)] [])) st1 ?_
  exact own_ret0 X1 hx Bd.returns (hb hby d5_4) Bd.notSynchronized (by decide) (by decide) ⟨rfl, N0, e1⟩
theorem d18_0 : decode jdk_18_method_1_code 0 = .ok (.aload_n 0, 1) := by decide +kernel
theorem d18_1 : decode jdk_18_method_1_code 1 = .ok (.invokespecial 1, 3) := by decide +kernel
theorem d18_4 : decode jdk_18_method_1_code 4 = .ok (.return_, 1) := by decide +kernel
theorem pn_1 : plainName "java/lang/Number" = true := by first | (simp [plainName, overriddenIn]; done) | decide +kernel
theorem ef_rmNum (m : MethodId) (f : Addr) : entryFrame m #[(.ref f)] 1 = mkF m 0 #[.val (.ref f)] [] := by first | (simp [entryFrame, mkF, argsToLocals, Value.category, maxLocals]; done) | rfl
set_option maxRecDepth 65536 in
set_option maxHeartbeats 40000000 in
theorem rmNum (l : Launch) (Z : State) (a0 : Array Value) (hw : ∀ d ∈ tables_1, d.before a0 Z = true) (ws : List Jvm.Cond) (f : Addr) (h0 : Heap) (n0 : Nat) (Z0 : n0 ≤ h0.size) :
    MetFree l (⟨"java/lang/Number", "<init>", "()V"⟩ : MethodName) (head1 (Jvm.Cond.code (⟨"java/lang/Number", "<init>", "()V"⟩ : MethodName) jdk_18_method_1_code (1 : Nat) (Option.none : Option Jvm.ClassFile.FieldType) :: ws) ({ frames := 1, cells := 0, slots := 0, locals := 12 } : Room)) (fun aZ UZ => aZ = #[(.ref f)] ∧ Z.Warmed39 UZ.vm ∧ UZ.heap = h0) (fun _ _ _ _ _ => True) (fun _ UZ oZ VZ => ∃ vZ LZ, oZ = .returned vZ ∧ (QSame none h0 n0) vZ VZ.heap LZ ∧ FrameEnd UZ oZ VZ LZ ({ frames := 1, cells := 0, slots := 0, locals := 12 } : Room).cells ({ frames := 1, cells := 0, slots := 0, locals := 12 } : Room).slots) := by
  refine MetFree.of_bodySF (plainFor_of_name pn_1) hisR ?_
  intro p e s m args below meth c s₁ Bd hml0 hP hK
  obtain ⟨rfl, hZ, hh⟩ := hP
  have hx := Bd.exec
  have hby := Bd.bytes
  have hml : c.maxLocals = 1 := hml0
  have hown : s.vm.findClass "java/lang/Number" = some m.cls := findClass_of_methodNamed Bd.named
  have hnm := (name_of_methodNamed Bd.named Bd.method).1
  have X0 : Stand p l e ({ frames := 1, cells := 0, slots := 0, locals := 12 } : Room) s m #[(.ref f)] below meth c s₁ [] 0 0 := Stand.of_body Bd
  have e0 : s₁.heap = h0 := by rw [← hh, Bd.state]; rfl
  have N0 := Fr.nil n0
  show OwnG p e below (OwnE s (QSame none h0 n0) ({ frames := 1, cells := 0, slots := 0, locals := 12 } : Room).cells ({ frames := 1, cells := 0, slots := 0, locals := 12 } : Room).slots) _
  refine own_by (S' := s₁.setTop (mkF m 0 #[.val (.ref f)] [])) (fun tZ kZ => castTop (ef_rmNum m f) kZ) ?_
  refine own_by (S' := s₁.setTop (mkF m 1 #[.val (.ref f)] [(.ref f)])) (fun tZ kZ => XS.aloadN X0.here hx rfl (hb hby d18_0) rfl rfl kZ) ?_
  obtain ⟨T1, X1, e1, st1⟩ := initO X0 hx hZ hown (hw _ (List.mem_of_getElem? (i := 141) rfl)) (hw _ (List.mem_of_getElem? (i := 20) rfl)) (hw _ (List.mem_of_getElem? (i := 21) rfl)) e0 (g := (mkF m 1 #[.val (.ref f)] [(.ref f)])) rfl (by rw [hml]; rfl) rfl (hb hby d18_1) (by decide) (W := 0) (by show 2 * 0 + _ ≤ _; exact Nat.le_of_eq rfl) (by decide)
  refine own_by (S' := T1.setTop (mkF m 4 #[.val (.ref f)] [])) st1 ?_
  exact own_ret0 X1 hx Bd.returns (hb hby d18_4) Bd.notSynchronized (by decide) (by decide) ⟨rfl, N0, e1⟩
theorem d2_0 : decode prog_140_method_1_code 0 = .ok (.aload_n 0, 1) := by decide +kernel
theorem d2_1 : decode prog_140_method_1_code 1 = .ok (.invokespecial 1, 3) := by decide +kernel
theorem d2_4 : decode prog_140_method_1_code 4 = .ok (.aload_n 0, 1) := by decide +kernel
theorem d2_5 : decode prog_140_method_1_code 5 = .ok (.getstatic 7, 3) := by decide +kernel
theorem d2_8 : decode prog_140_method_1_code 8 = .ok (.putfield 13, 3) := by decide +kernel
theorem d2_11 : decode prog_140_method_1_code 11 = .ok (.aload_n 0, 1) := by decide +kernel
theorem d2_12 : decode prog_140_method_1_code 12 = .ok (.aload_n 1, 1) := by decide +kernel
theorem d2_13 : decode prog_140_method_1_code 13 = .ok (.putfield 18, 3) := by decide +kernel
theorem d2_16 : decode prog_140_method_1_code 16 = .ok (.aload_n 0, 1) := by decide +kernel
theorem d2_17 : decode prog_140_method_1_code 17 = .ok (.aload_n 2, 1) := by decide +kernel
theorem d2_18 : decode prog_140_method_1_code 18 = .ok (.putfield 22, 3) := by decide +kernel
theorem d2_21 : decode prog_140_method_1_code 21 = .ok (.aload_n 0, 1) := by decide +kernel
theorem d2_22 : decode prog_140_method_1_code 22 = .ok (.aload_n 3, 1) := by decide +kernel
theorem d2_23 : decode prog_140_method_1_code 23 = .ok (.putfield 26, 3) := by decide +kernel
theorem d2_26 : decode prog_140_method_1_code 26 = .ok (.aload_n 0, 1) := by decide +kernel
theorem d2_27 : decode prog_140_method_1_code 27 = .ok (.aload 4, 2) := by decide +kernel
theorem d2_29 : decode prog_140_method_1_code 29 = .ok (.putfield 30, 3) := by decide +kernel
theorem d2_32 : decode prog_140_method_1_code 32 = .ok (.aload_n 0, 1) := by decide +kernel
theorem d2_33 : decode prog_140_method_1_code 33 = .ok (.lload 5, 2) := by decide +kernel
theorem d2_35 : decode prog_140_method_1_code 35 = .ok (.putfield 34, 3) := by decide +kernel
theorem d2_38 : decode prog_140_method_1_code 38 = .ok (.aload_n 0, 1) := by decide +kernel
theorem d2_39 : decode prog_140_method_1_code 39 = .ok (.lload 7, 2) := by decide +kernel
theorem d2_41 : decode prog_140_method_1_code 41 = .ok (.putfield 38, 3) := by decide +kernel
theorem d2_44 : decode prog_140_method_1_code 44 = .ok (.aload_n 0, 1) := by decide +kernel
theorem d2_45 : decode prog_140_method_1_code 45 = .ok (.iload 9, 2) := by decide +kernel
theorem d2_47 : decode prog_140_method_1_code 47 = .ok (.putfield 41, 3) := by decide +kernel
theorem d2_50 : decode prog_140_method_1_code 50 = .ok (.aload_n 0, 1) := by decide +kernel
theorem d2_51 : decode prog_140_method_1_code 51 = .ok (.lload 5, 2) := by decide +kernel
theorem d2_53 : decode prog_140_method_1_code 53 = .ok (.putfield 45, 3) := by decide +kernel
theorem d2_56 : decode prog_140_method_1_code 56 = .ok (.return_, 1) := by decide +kernel
theorem pn_2 : plainName "com/example/fairgate/fairgate/processor/Order" = true := by first | (simp [plainName, overriddenIn]; done) | decide +kernel
theorem ef_rmOI (m : MethodId) (o : Addr) (sy : Addr) (qv : Int64) (io : Int32) : entryFrame m #[(.ref o), .null, .null, (.ref sy), .null, (.long qv), (.long (0 : Int64)), (.int io)] 10 = mkF m 0 #[.val (.ref o), .val .null, .val .null, .val (.ref sy), .val .null, .val (.long qv), .second, .val (.long (0 : Int64)), .second, .val (.int io)] [] := by first | (simp [entryFrame, mkF, argsToLocals, Value.category, maxLocals]; done) | rfl
set_option maxRecDepth 65536 in
set_option maxHeartbeats 40000000 in
theorem rmOI (l : Launch) (Z : State) (a0 : Array Value) (hw : ∀ d ∈ tables_1, d.before a0 Z = true) (ws : List Jvm.Cond) (o sy : Addr) (qv : Int64) (io : Int32) (hB : Heap) (zr mz pa za rmo lt mir : Addr) (mc pk zc lc : Cell) (h0 : Heap) (n0 : Nat) (Z0 : n0 ≤ h0.size) (Eb : Ext hB h0) (WD : OwnWd Z a0 hB zr mz pa za rmo lt mir mc pk zc lc) (hBn : hB.size ≤ n0) (hio : io = 0 ∨ io = 1) (Ex_o : Exa Z h0 o "com/example/fairgate/fairgate/processor/Order") (F_traded_o : Fld Z h0 o "com/example/fairgate/fairgate/processor/Order" "traded" "Ljava/math/BigInteger;" .null) (F_key_o : Fld Z h0 o "com/example/fairgate/fairgate/processor/Order" "key" "Lcom/example/fairgate/fairgate/processor/OrderKey;" .null) (F_edge_o : Fld Z h0 o "com/example/fairgate/fairgate/processor/Order" "edge" "Lcom/example/fairgate/fairgate/core/EntryPoint;" .null) (F_symbol_o : Fld Z h0 o "com/example/fairgate/fairgate/processor/Order" "symbol" "Ljava/lang/String;" .null) (F_side_o : Fld Z h0 o "com/example/fairgate/fairgate/processor/Order" "side" "Lcom/example/fairgate/fairgate/processor/Side;" .null) (F_qty_o : Fld Z h0 o "com/example/fairgate/fairgate/processor/Order" "qty" "J" (.long 0)) (F_price_o : Fld Z h0 o "com/example/fairgate/fairgate/processor/Order" "price" "J" (.long 0)) (F_immediateOrCancel_o : Fld Z h0 o "com/example/fairgate/fairgate/processor/Order" "immediateOrCancel" "Z" (.int 0)) (F_remaining_o : Fld Z h0 o "com/example/fairgate/fairgate/processor/Order" "remaining" "J" (.long 0)) (F_reserved_o : Fld Z h0 o "com/example/fairgate/fairgate/processor/Order" "reserved" "J" (.long 0)) (F_cancelled_o : Fld Z h0 o "com/example/fairgate/fairgate/processor/Order" "cancelled" "Z" (.int 0)) (g_o : n0 ≤ o) :
    MetFree l (⟨"com/example/fairgate/fairgate/processor/Order", "<init>", "(Lcom/example/fairgate/fairgate/processor/OrderKey;Lcom/example/fairgate/fairgate/core/EntryPoint;Ljava/lang/String;Lcom/example/fairgate/fairgate/processor/Side;JJZ)V"⟩ : MethodName) (head1 (Jvm.Cond.code (⟨"com/example/fairgate/fairgate/processor/Order", "<init>", "(Lcom/example/fairgate/fairgate/processor/OrderKey;Lcom/example/fairgate/fairgate/core/EntryPoint;Ljava/lang/String;Lcom/example/fairgate/fairgate/processor/Side;JJZ)V"⟩ : MethodName) prog_140_method_1_code (10 : Nat) (Option.none : Option Jvm.ClassFile.FieldType) :: ws) ({ frames := 1, cells := 0, slots := 0, locals := 12 } : Room)) (fun aZ UZ => aZ = #[(.ref o), .null, .null, (.ref sy), .null, (.long qv), (.long (0 : Int64)), (.int io)] ∧ Z.Warmed39 UZ.vm ∧ UZ.heap = h0) (fun _ _ _ _ _ => True) (fun _ UZ oZ VZ => ∃ vZ LZ, oZ = .returned vZ ∧ (QO Z o zr qv qv 0 0 h0 n0) vZ VZ.heap LZ ∧ FrameEnd UZ oZ VZ LZ ({ frames := 1, cells := 0, slots := 0, locals := 12 } : Room).cells ({ frames := 1, cells := 0, slots := 0, locals := 12 } : Room).slots) := by
  refine MetFree.of_bodySF (plainFor_of_name pn_2) hisR ?_
  intro p e s m args below meth c s₁ Bd hml0 hP hK
  obtain ⟨rfl, hZ, hh⟩ := hP
  have hx := Bd.exec
  have hby := Bd.bytes
  have hml : c.maxLocals = 10 := hml0
  have hown : s.vm.findClass "com/example/fairgate/fairgate/processor/Order" = some m.cls := findClass_of_methodNamed Bd.named
  have hnm := (name_of_methodNamed Bd.named Bd.method).1
  have X0 : Stand p l e ({ frames := 1, cells := 0, slots := 0, locals := 12 } : Room) s m #[(.ref o), .null, .null, (.ref sy), .null, (.long qv), (.long (0 : Int64)), (.int io)] below meth c s₁ [] 0 0 := Stand.of_body Bd
  have e0 : s₁.heap = h0 := by rw [← hh, Bd.state]; rfl
  have N0 := Fr.nil n0
  show OwnG p e below (OwnE s (QO Z o zr qv qv 0 0 h0 n0) ({ frames := 1, cells := 0, slots := 0, locals := 12 } : Room).cells ({ frames := 1, cells := 0, slots := 0, locals := 12 } : Room).slots) _
  refine own_by (S' := s₁.setTop (mkF m 0 #[.val (.ref o), .val .null, .val .null, .val (.ref sy), .val .null, .val (.long qv), .second, .val (.long (0 : Int64)), .second, .val (.int io)] [])) (fun tZ kZ => castTop (ef_rmOI m o sy qv io) kZ) ?_
  obtain ⟨wS, wE, wF, wM, wA, wAz, wP, wPA, wPz, wPe, wT, wTA, wTz, wTe, wH, wHF, wL, wLA, wLz, wMi⟩ := id WD
  refine own_by (S' := s₁.setTop (mkF m 1 #[.val (.ref o), .val .null, .val .null, .val (.ref sy), .val .null, .val (.long qv), .second, .val (.long (0 : Int64)), .second, .val (.int io)] [(.ref o)])) (fun tZ kZ => XS.aloadN X0.here hx rfl (hb hby d2_0) rfl rfl kZ) ?_
  obtain ⟨T1, X1, e1, st1⟩ := initO X0 hx hZ hown (hw _ (List.mem_of_getElem? (i := 19) rfl)) (hw _ (List.mem_of_getElem? (i := 20) rfl)) (hw _ (List.mem_of_getElem? (i := 21) rfl)) e0 (g := (mkF m 1 #[.val (.ref o), .val .null, .val .null, .val (.ref sy), .val .null, .val (.long qv), .second, .val (.long (0 : Int64)), .second, .val (.int io)] [(.ref o)])) rfl (by rw [hml]; rfl) rfl (hb hby d2_1) (by decide) (W := 0) (by show 2 * 0 + _ ≤ _; exact Nat.le_of_eq rfl) (by decide)
  refine own_by (S' := T1.setTop (mkF m 4 #[.val (.ref o), .val .null, .val .null, .val (.ref sy), .val .null, .val (.long qv), .second, .val (.long (0 : Int64)), .second, .val (.int io)] [])) st1 ?_
  refine own_by (S' := T1.setTop (mkF m 5 #[.val (.ref o), .val .null, .val .null, .val (.ref sy), .val .null, .val (.long qv), .second, .val (.long (0 : Int64)), .second, .val (.int io)] [(.ref o)])) (fun tZ kZ => XS.aloadN X1.here hx rfl (hb hby d2_4) rfl rfl kZ) ?_
  obtain ⟨T2, X2, e2, st2⟩ := getS2 X1 hx hZ hown (host := "") (Or.inl (hw _ (List.mem_of_getElem? (i := 22) rfl))) Via.refl e1 (wS.ext Eb) (g := (mkF m 5 #[.val (.ref o), .val .null, .val .null, .val (.ref sy), .val .null, .val (.long qv), .second, .val (.long (0 : Int64)), .second, .val (.int io)] [(.ref o)])) rfl (hb hby d2_5)
  refine own_by (S' := T2.setTop (mkF m 8 #[.val (.ref o), .val .null, .val .null, .val (.ref sy), .val .null, .val (.long qv), .second, .val (.long (0 : Int64)), .second, .val (.int io)] [(.ref zr), (.ref o)])) st2 ?_
  obtain ⟨T3, h3, X3, e3, W3, st3⟩ := putF X2 hx hZ hown (host := "") (Or.inl (hw _ (List.mem_of_getElem? (i := 24) rfl))) Via.refl e2 F_traded_o Ex_o (Or.inl (hw _ (List.mem_of_getElem? (i := 25) rfl))) (hw _ (List.mem_of_getElem? (i := 6) rfl)) (ty := (.object "java/math/BigInteger")) (by decide) rfl rfl (g := (mkF m 8 #[.val (.ref o), .val .null, .val .null, .val (.ref sy), .val .null, .val (.long qv), .second, .val (.long (0 : Int64)), .second, .val (.int io)] [(.ref zr), (.ref o)])) rfl rfl (hb hby d2_8)
  have N3 := Fr.snoc X3 N0 g_o
  have Ex_o_3 := Ex_o.wr W3
  have F_traded_o_3 := F_traded_o.same W3
  have F_key_o_3 := F_key_o.other W3 (Or.inr (slot_ne (Or.inr (hw _ (List.mem_of_getElem? (i := 27) rfl))) (Or.inl (hw _ (List.mem_of_getElem? (i := 25) rfl))) (by decide) (t := (.object "com/example/fairgate/fairgate/processor/OrderKey")) (t' := (.object "java/math/BigInteger")) (by decide) (by decide)))
  have F_edge_o_3 := F_edge_o.other W3 (Or.inr (slot_ne (Or.inr (hw _ (List.mem_of_getElem? (i := 29) rfl))) (Or.inl (hw _ (List.mem_of_getElem? (i := 25) rfl))) (by decide) (t := (.object "com/example/fairgate/fairgate/core/EntryPoint")) (t' := (.object "java/math/BigInteger")) (by decide) (by decide)))
  have F_symbol_o_3 := F_symbol_o.other W3 (Or.inr (slot_ne (Or.inr (hw _ (List.mem_of_getElem? (i := 31) rfl))) (Or.inl (hw _ (List.mem_of_getElem? (i := 25) rfl))) (by decide) (t := (.object "java/lang/String")) (t' := (.object "java/math/BigInteger")) (by decide) (by decide)))
  have F_side_o_3 := F_side_o.other W3 (Or.inr (slot_ne (Or.inr (hw _ (List.mem_of_getElem? (i := 33) rfl))) (Or.inl (hw _ (List.mem_of_getElem? (i := 25) rfl))) (by decide) (t := (.object "com/example/fairgate/fairgate/processor/Side")) (t' := (.object "java/math/BigInteger")) (by decide) (by decide)))
  have F_qty_o_3 := F_qty_o.other W3 (Or.inr (slot_ne (Or.inr (hw _ (List.mem_of_getElem? (i := 35) rfl))) (Or.inl (hw _ (List.mem_of_getElem? (i := 25) rfl))) (by decide) (t := .long) (t' := (.object "java/math/BigInteger")) (by decide) (by decide)))
  have F_price_o_3 := F_price_o.other W3 (Or.inr (slot_ne (Or.inr (hw _ (List.mem_of_getElem? (i := 37) rfl))) (Or.inl (hw _ (List.mem_of_getElem? (i := 25) rfl))) (by decide) (t := .long) (t' := (.object "java/math/BigInteger")) (by decide) (by decide)))
  have F_immediateOrCancel_o_3 := F_immediateOrCancel_o.other W3 (Or.inr (slot_ne (Or.inr (hw _ (List.mem_of_getElem? (i := 39) rfl))) (Or.inl (hw _ (List.mem_of_getElem? (i := 25) rfl))) (by decide) (t := .boolean) (t' := (.object "java/math/BigInteger")) (by decide) (by decide)))
  have F_remaining_o_3 := F_remaining_o.other W3 (Or.inr (slot_ne (Or.inl (hw _ (List.mem_of_getElem? (i := 41) rfl))) (Or.inl (hw _ (List.mem_of_getElem? (i := 25) rfl))) (by decide) (t := .long) (t' := (.object "java/math/BigInteger")) (by decide) (by decide)))
  have F_reserved_o_3 := F_reserved_o.other W3 (Or.inr (slot_ne (Or.inl (hw _ (List.mem_of_getElem? (i := 74) rfl))) (Or.inl (hw _ (List.mem_of_getElem? (i := 25) rfl))) (by decide) (t := .long) (t' := (.object "java/math/BigInteger")) (by decide) (by decide)))
  have F_cancelled_o_3 := F_cancelled_o.other W3 (Or.inr (slot_ne (Or.inl (hw _ (List.mem_of_getElem? (i := 72) rfl))) (Or.inl (hw _ (List.mem_of_getElem? (i := 25) rfl))) (by decide) (t := .boolean) (t' := (.object "java/math/BigInteger")) (by decide) (by decide)))
  have Zs3 : n0 ≤ h3.size := Nat.le_trans Z0 (Keep.of_wr W3).1
  have K3 := (Keep.refl h0 [o]).wr W3 (Or.inl (List.mem_of_getElem? (i := 0) rfl))
  refine own_by (S' := T3.setTop (mkF m 11 #[.val (.ref o), .val .null, .val .null, .val (.ref sy), .val .null, .val (.long qv), .second, .val (.long (0 : Int64)), .second, .val (.int io)] [])) st3 ?_
  refine own_by (S' := T3.setTop (mkF m 12 #[.val (.ref o), .val .null, .val .null, .val (.ref sy), .val .null, .val (.long qv), .second, .val (.long (0 : Int64)), .second, .val (.int io)] [(.ref o)])) (fun tZ kZ => XS.aloadN X3.here hx rfl (hb hby d2_11) rfl rfl kZ) ?_
  refine own_by (S' := T3.setTop (mkF m 13 #[.val (.ref o), .val .null, .val .null, .val (.ref sy), .val .null, .val (.long qv), .second, .val (.long (0 : Int64)), .second, .val (.int io)] [.null, (.ref o)])) (fun tZ kZ => XS.aloadN X3.here hx rfl (hb hby d2_12) rfl rfl kZ) ?_
  obtain ⟨T4, h4, X4, e4, W4, st4⟩ := putF X3 hx hZ hown (host := "") (Or.inl (hw _ (List.mem_of_getElem? (i := 26) rfl))) Via.refl e3 F_key_o_3 Ex_o_3 (Or.inr ⟨(hw _ (List.mem_of_getElem? (i := 27) rfl)), rfl, hnm⟩) (hw _ (List.mem_of_getElem? (i := 6) rfl)) (ty := (.object "com/example/fairgate/fairgate/processor/OrderKey")) (by decide) rfl rfl (g := (mkF m 13 #[.val (.ref o), .val .null, .val .null, .val (.ref sy), .val .null, .val (.long qv), .second, .val (.long (0 : Int64)), .second, .val (.int io)] [.null, (.ref o)])) rfl rfl (hb hby d2_13)
  have N4 := Fr.snoc X4 N3 g_o
  have Ex_o_4 := Ex_o_3.wr W4
  have F_traded_o_4 := F_traded_o_3.other W4 (Or.inr (slot_ne (Or.inl (hw _ (List.mem_of_getElem? (i := 25) rfl))) (Or.inr (hw _ (List.mem_of_getElem? (i := 27) rfl))) (by decide) (t := (.object "java/math/BigInteger")) (t' := (.object "com/example/fairgate/fairgate/processor/OrderKey")) (by decide) (by decide)))
  have F_key_o_4 := F_key_o_3.same W4
  have F_edge_o_4 := F_edge_o_3.other W4 (Or.inr (slot_ne (Or.inr (hw _ (List.mem_of_getElem? (i := 29) rfl))) (Or.inr (hw _ (List.mem_of_getElem? (i := 27) rfl))) (by decide) (t := (.object "com/example/fairgate/fairgate/core/EntryPoint")) (t' := (.object "com/example/fairgate/fairgate/processor/OrderKey")) (by decide) (by decide)))
  have F_symbol_o_4 := F_symbol_o_3.other W4 (Or.inr (slot_ne (Or.inr (hw _ (List.mem_of_getElem? (i := 31) rfl))) (Or.inr (hw _ (List.mem_of_getElem? (i := 27) rfl))) (by decide) (t := (.object "java/lang/String")) (t' := (.object "com/example/fairgate/fairgate/processor/OrderKey")) (by decide) (by decide)))
  have F_side_o_4 := F_side_o_3.other W4 (Or.inr (slot_ne (Or.inr (hw _ (List.mem_of_getElem? (i := 33) rfl))) (Or.inr (hw _ (List.mem_of_getElem? (i := 27) rfl))) (by decide) (t := (.object "com/example/fairgate/fairgate/processor/Side")) (t' := (.object "com/example/fairgate/fairgate/processor/OrderKey")) (by decide) (by decide)))
  have F_qty_o_4 := F_qty_o_3.other W4 (Or.inr (slot_ne (Or.inr (hw _ (List.mem_of_getElem? (i := 35) rfl))) (Or.inr (hw _ (List.mem_of_getElem? (i := 27) rfl))) (by decide) (t := .long) (t' := (.object "com/example/fairgate/fairgate/processor/OrderKey")) (by decide) (by decide)))
  have F_price_o_4 := F_price_o_3.other W4 (Or.inr (slot_ne (Or.inr (hw _ (List.mem_of_getElem? (i := 37) rfl))) (Or.inr (hw _ (List.mem_of_getElem? (i := 27) rfl))) (by decide) (t := .long) (t' := (.object "com/example/fairgate/fairgate/processor/OrderKey")) (by decide) (by decide)))
  have F_immediateOrCancel_o_4 := F_immediateOrCancel_o_3.other W4 (Or.inr (slot_ne (Or.inr (hw _ (List.mem_of_getElem? (i := 39) rfl))) (Or.inr (hw _ (List.mem_of_getElem? (i := 27) rfl))) (by decide) (t := .boolean) (t' := (.object "com/example/fairgate/fairgate/processor/OrderKey")) (by decide) (by decide)))
  have F_remaining_o_4 := F_remaining_o_3.other W4 (Or.inr (slot_ne (Or.inl (hw _ (List.mem_of_getElem? (i := 41) rfl))) (Or.inr (hw _ (List.mem_of_getElem? (i := 27) rfl))) (by decide) (t := .long) (t' := (.object "com/example/fairgate/fairgate/processor/OrderKey")) (by decide) (by decide)))
  have F_reserved_o_4 := F_reserved_o_3.other W4 (Or.inr (slot_ne (Or.inl (hw _ (List.mem_of_getElem? (i := 74) rfl))) (Or.inr (hw _ (List.mem_of_getElem? (i := 27) rfl))) (by decide) (t := .long) (t' := (.object "com/example/fairgate/fairgate/processor/OrderKey")) (by decide) (by decide)))
  have F_cancelled_o_4 := F_cancelled_o_3.other W4 (Or.inr (slot_ne (Or.inl (hw _ (List.mem_of_getElem? (i := 72) rfl))) (Or.inr (hw _ (List.mem_of_getElem? (i := 27) rfl))) (by decide) (t := .boolean) (t' := (.object "com/example/fairgate/fairgate/processor/OrderKey")) (by decide) (by decide)))
  have Zs4 : n0 ≤ h4.size := Nat.le_trans Zs3 (Keep.of_wr W4).1
  have K4 := K3.wr W4 (Or.inl (List.mem_of_getElem? (i := 0) rfl))
  refine own_by (S' := T4.setTop (mkF m 16 #[.val (.ref o), .val .null, .val .null, .val (.ref sy), .val .null, .val (.long qv), .second, .val (.long (0 : Int64)), .second, .val (.int io)] [])) st4 ?_
  refine own_by (S' := T4.setTop (mkF m 17 #[.val (.ref o), .val .null, .val .null, .val (.ref sy), .val .null, .val (.long qv), .second, .val (.long (0 : Int64)), .second, .val (.int io)] [(.ref o)])) (fun tZ kZ => XS.aloadN X4.here hx rfl (hb hby d2_16) rfl rfl kZ) ?_
  refine own_by (S' := T4.setTop (mkF m 18 #[.val (.ref o), .val .null, .val .null, .val (.ref sy), .val .null, .val (.long qv), .second, .val (.long (0 : Int64)), .second, .val (.int io)] [.null, (.ref o)])) (fun tZ kZ => XS.aloadN X4.here hx rfl (hb hby d2_17) rfl rfl kZ) ?_
  obtain ⟨T5, h5, X5, e5, W5, st5⟩ := putF X4 hx hZ hown (host := "") (Or.inl (hw _ (List.mem_of_getElem? (i := 28) rfl))) Via.refl e4 F_edge_o_4 Ex_o_4 (Or.inr ⟨(hw _ (List.mem_of_getElem? (i := 29) rfl)), rfl, hnm⟩) (hw _ (List.mem_of_getElem? (i := 6) rfl)) (ty := (.object "com/example/fairgate/fairgate/core/EntryPoint")) (by decide) rfl rfl (g := (mkF m 18 #[.val (.ref o), .val .null, .val .null, .val (.ref sy), .val .null, .val (.long qv), .second, .val (.long (0 : Int64)), .second, .val (.int io)] [.null, (.ref o)])) rfl rfl (hb hby d2_18)
  have N5 := Fr.snoc X5 N4 g_o
  have Ex_o_5 := Ex_o_4.wr W5
  have F_traded_o_5 := F_traded_o_4.other W5 (Or.inr (slot_ne (Or.inl (hw _ (List.mem_of_getElem? (i := 25) rfl))) (Or.inr (hw _ (List.mem_of_getElem? (i := 29) rfl))) (by decide) (t := (.object "java/math/BigInteger")) (t' := (.object "com/example/fairgate/fairgate/core/EntryPoint")) (by decide) (by decide)))
  have F_key_o_5 := F_key_o_4.other W5 (Or.inr (slot_ne (Or.inr (hw _ (List.mem_of_getElem? (i := 27) rfl))) (Or.inr (hw _ (List.mem_of_getElem? (i := 29) rfl))) (by decide) (t := (.object "com/example/fairgate/fairgate/processor/OrderKey")) (t' := (.object "com/example/fairgate/fairgate/core/EntryPoint")) (by decide) (by decide)))
  have F_edge_o_5 := F_edge_o_4.same W5
  have F_symbol_o_5 := F_symbol_o_4.other W5 (Or.inr (slot_ne (Or.inr (hw _ (List.mem_of_getElem? (i := 31) rfl))) (Or.inr (hw _ (List.mem_of_getElem? (i := 29) rfl))) (by decide) (t := (.object "java/lang/String")) (t' := (.object "com/example/fairgate/fairgate/core/EntryPoint")) (by decide) (by decide)))
  have F_side_o_5 := F_side_o_4.other W5 (Or.inr (slot_ne (Or.inr (hw _ (List.mem_of_getElem? (i := 33) rfl))) (Or.inr (hw _ (List.mem_of_getElem? (i := 29) rfl))) (by decide) (t := (.object "com/example/fairgate/fairgate/processor/Side")) (t' := (.object "com/example/fairgate/fairgate/core/EntryPoint")) (by decide) (by decide)))
  have F_qty_o_5 := F_qty_o_4.other W5 (Or.inr (slot_ne (Or.inr (hw _ (List.mem_of_getElem? (i := 35) rfl))) (Or.inr (hw _ (List.mem_of_getElem? (i := 29) rfl))) (by decide) (t := .long) (t' := (.object "com/example/fairgate/fairgate/core/EntryPoint")) (by decide) (by decide)))
  have F_price_o_5 := F_price_o_4.other W5 (Or.inr (slot_ne (Or.inr (hw _ (List.mem_of_getElem? (i := 37) rfl))) (Or.inr (hw _ (List.mem_of_getElem? (i := 29) rfl))) (by decide) (t := .long) (t' := (.object "com/example/fairgate/fairgate/core/EntryPoint")) (by decide) (by decide)))
  have F_immediateOrCancel_o_5 := F_immediateOrCancel_o_4.other W5 (Or.inr (slot_ne (Or.inr (hw _ (List.mem_of_getElem? (i := 39) rfl))) (Or.inr (hw _ (List.mem_of_getElem? (i := 29) rfl))) (by decide) (t := .boolean) (t' := (.object "com/example/fairgate/fairgate/core/EntryPoint")) (by decide) (by decide)))
  have F_remaining_o_5 := F_remaining_o_4.other W5 (Or.inr (slot_ne (Or.inl (hw _ (List.mem_of_getElem? (i := 41) rfl))) (Or.inr (hw _ (List.mem_of_getElem? (i := 29) rfl))) (by decide) (t := .long) (t' := (.object "com/example/fairgate/fairgate/core/EntryPoint")) (by decide) (by decide)))
  have F_reserved_o_5 := F_reserved_o_4.other W5 (Or.inr (slot_ne (Or.inl (hw _ (List.mem_of_getElem? (i := 74) rfl))) (Or.inr (hw _ (List.mem_of_getElem? (i := 29) rfl))) (by decide) (t := .long) (t' := (.object "com/example/fairgate/fairgate/core/EntryPoint")) (by decide) (by decide)))
  have F_cancelled_o_5 := F_cancelled_o_4.other W5 (Or.inr (slot_ne (Or.inl (hw _ (List.mem_of_getElem? (i := 72) rfl))) (Or.inr (hw _ (List.mem_of_getElem? (i := 29) rfl))) (by decide) (t := .boolean) (t' := (.object "com/example/fairgate/fairgate/core/EntryPoint")) (by decide) (by decide)))
  have Zs5 : n0 ≤ h5.size := Nat.le_trans Zs4 (Keep.of_wr W5).1
  have K5 := K4.wr W5 (Or.inl (List.mem_of_getElem? (i := 0) rfl))
  refine own_by (S' := T5.setTop (mkF m 21 #[.val (.ref o), .val .null, .val .null, .val (.ref sy), .val .null, .val (.long qv), .second, .val (.long (0 : Int64)), .second, .val (.int io)] [])) st5 ?_
  refine own_by (S' := T5.setTop (mkF m 22 #[.val (.ref o), .val .null, .val .null, .val (.ref sy), .val .null, .val (.long qv), .second, .val (.long (0 : Int64)), .second, .val (.int io)] [(.ref o)])) (fun tZ kZ => XS.aloadN X5.here hx rfl (hb hby d2_21) rfl rfl kZ) ?_
  refine own_by (S' := T5.setTop (mkF m 23 #[.val (.ref o), .val .null, .val .null, .val (.ref sy), .val .null, .val (.long qv), .second, .val (.long (0 : Int64)), .second, .val (.int io)] [(.ref sy), (.ref o)])) (fun tZ kZ => XS.aloadN X5.here hx rfl (hb hby d2_22) rfl rfl kZ) ?_
  obtain ⟨T6, h6, X6, e6, W6, st6⟩ := putF X5 hx hZ hown (host := "") (Or.inl (hw _ (List.mem_of_getElem? (i := 30) rfl))) Via.refl e5 F_symbol_o_5 Ex_o_5 (Or.inr ⟨(hw _ (List.mem_of_getElem? (i := 31) rfl)), rfl, hnm⟩) (hw _ (List.mem_of_getElem? (i := 6) rfl)) (ty := (.object "java/lang/String")) (by decide) rfl rfl (g := (mkF m 23 #[.val (.ref o), .val .null, .val .null, .val (.ref sy), .val .null, .val (.long qv), .second, .val (.long (0 : Int64)), .second, .val (.int io)] [(.ref sy), (.ref o)])) rfl rfl (hb hby d2_23)
  have N6 := Fr.snoc X6 N5 g_o
  have Ex_o_6 := Ex_o_5.wr W6
  have F_traded_o_6 := F_traded_o_5.other W6 (Or.inr (slot_ne (Or.inl (hw _ (List.mem_of_getElem? (i := 25) rfl))) (Or.inr (hw _ (List.mem_of_getElem? (i := 31) rfl))) (by decide) (t := (.object "java/math/BigInteger")) (t' := (.object "java/lang/String")) (by decide) (by decide)))
  have F_key_o_6 := F_key_o_5.other W6 (Or.inr (slot_ne (Or.inr (hw _ (List.mem_of_getElem? (i := 27) rfl))) (Or.inr (hw _ (List.mem_of_getElem? (i := 31) rfl))) (by decide) (t := (.object "com/example/fairgate/fairgate/processor/OrderKey")) (t' := (.object "java/lang/String")) (by decide) (by decide)))
  have F_edge_o_6 := F_edge_o_5.other W6 (Or.inr (slot_ne (Or.inr (hw _ (List.mem_of_getElem? (i := 29) rfl))) (Or.inr (hw _ (List.mem_of_getElem? (i := 31) rfl))) (by decide) (t := (.object "com/example/fairgate/fairgate/core/EntryPoint")) (t' := (.object "java/lang/String")) (by decide) (by decide)))
  have F_symbol_o_6 := F_symbol_o_5.same W6
  have F_side_o_6 := F_side_o_5.other W6 (Or.inr (slot_ne (Or.inr (hw _ (List.mem_of_getElem? (i := 33) rfl))) (Or.inr (hw _ (List.mem_of_getElem? (i := 31) rfl))) (by decide) (t := (.object "com/example/fairgate/fairgate/processor/Side")) (t' := (.object "java/lang/String")) (by decide) (by decide)))
  have F_qty_o_6 := F_qty_o_5.other W6 (Or.inr (slot_ne (Or.inr (hw _ (List.mem_of_getElem? (i := 35) rfl))) (Or.inr (hw _ (List.mem_of_getElem? (i := 31) rfl))) (by decide) (t := .long) (t' := (.object "java/lang/String")) (by decide) (by decide)))
  have F_price_o_6 := F_price_o_5.other W6 (Or.inr (slot_ne (Or.inr (hw _ (List.mem_of_getElem? (i := 37) rfl))) (Or.inr (hw _ (List.mem_of_getElem? (i := 31) rfl))) (by decide) (t := .long) (t' := (.object "java/lang/String")) (by decide) (by decide)))
  have F_immediateOrCancel_o_6 := F_immediateOrCancel_o_5.other W6 (Or.inr (slot_ne (Or.inr (hw _ (List.mem_of_getElem? (i := 39) rfl))) (Or.inr (hw _ (List.mem_of_getElem? (i := 31) rfl))) (by decide) (t := .boolean) (t' := (.object "java/lang/String")) (by decide) (by decide)))
  have F_remaining_o_6 := F_remaining_o_5.other W6 (Or.inr (slot_ne (Or.inl (hw _ (List.mem_of_getElem? (i := 41) rfl))) (Or.inr (hw _ (List.mem_of_getElem? (i := 31) rfl))) (by decide) (t := .long) (t' := (.object "java/lang/String")) (by decide) (by decide)))
  have F_reserved_o_6 := F_reserved_o_5.other W6 (Or.inr (slot_ne (Or.inl (hw _ (List.mem_of_getElem? (i := 74) rfl))) (Or.inr (hw _ (List.mem_of_getElem? (i := 31) rfl))) (by decide) (t := .long) (t' := (.object "java/lang/String")) (by decide) (by decide)))
  have F_cancelled_o_6 := F_cancelled_o_5.other W6 (Or.inr (slot_ne (Or.inl (hw _ (List.mem_of_getElem? (i := 72) rfl))) (Or.inr (hw _ (List.mem_of_getElem? (i := 31) rfl))) (by decide) (t := .boolean) (t' := (.object "java/lang/String")) (by decide) (by decide)))
  have Zs6 : n0 ≤ h6.size := Nat.le_trans Zs5 (Keep.of_wr W6).1
  have K6 := K5.wr W6 (Or.inl (List.mem_of_getElem? (i := 0) rfl))
  refine own_by (S' := T6.setTop (mkF m 26 #[.val (.ref o), .val .null, .val .null, .val (.ref sy), .val .null, .val (.long qv), .second, .val (.long (0 : Int64)), .second, .val (.int io)] [])) st6 ?_
  refine own_by (S' := T6.setTop (mkF m 27 #[.val (.ref o), .val .null, .val .null, .val (.ref sy), .val .null, .val (.long qv), .second, .val (.long (0 : Int64)), .second, .val (.int io)] [(.ref o)])) (fun tZ kZ => XS.aloadN X6.here hx rfl (hb hby d2_26) rfl rfl kZ) ?_
  refine own_by (S' := T6.setTop (mkF m 29 #[.val (.ref o), .val .null, .val .null, .val (.ref sy), .val .null, .val (.long qv), .second, .val (.long (0 : Int64)), .second, .val (.int io)] [.null, (.ref o)])) (fun tZ kZ => XS.aload X6.here hx rfl (hb hby d2_27) rfl rfl kZ) ?_
  obtain ⟨T7, h7, X7, e7, W7, st7⟩ := putF X6 hx hZ hown (host := "") (Or.inl (hw _ (List.mem_of_getElem? (i := 32) rfl))) Via.refl e6 F_side_o_6 Ex_o_6 (Or.inr ⟨(hw _ (List.mem_of_getElem? (i := 33) rfl)), rfl, hnm⟩) (hw _ (List.mem_of_getElem? (i := 6) rfl)) (ty := (.object "com/example/fairgate/fairgate/processor/Side")) (by decide) rfl rfl (g := (mkF m 29 #[.val (.ref o), .val .null, .val .null, .val (.ref sy), .val .null, .val (.long qv), .second, .val (.long (0 : Int64)), .second, .val (.int io)] [.null, (.ref o)])) rfl rfl (hb hby d2_29)
  have N7 := Fr.snoc X7 N6 g_o
  have Ex_o_7 := Ex_o_6.wr W7
  have F_traded_o_7 := F_traded_o_6.other W7 (Or.inr (slot_ne (Or.inl (hw _ (List.mem_of_getElem? (i := 25) rfl))) (Or.inr (hw _ (List.mem_of_getElem? (i := 33) rfl))) (by decide) (t := (.object "java/math/BigInteger")) (t' := (.object "com/example/fairgate/fairgate/processor/Side")) (by decide) (by decide)))
  have F_key_o_7 := F_key_o_6.other W7 (Or.inr (slot_ne (Or.inr (hw _ (List.mem_of_getElem? (i := 27) rfl))) (Or.inr (hw _ (List.mem_of_getElem? (i := 33) rfl))) (by decide) (t := (.object "com/example/fairgate/fairgate/processor/OrderKey")) (t' := (.object "com/example/fairgate/fairgate/processor/Side")) (by decide) (by decide)))
  have F_edge_o_7 := F_edge_o_6.other W7 (Or.inr (slot_ne (Or.inr (hw _ (List.mem_of_getElem? (i := 29) rfl))) (Or.inr (hw _ (List.mem_of_getElem? (i := 33) rfl))) (by decide) (t := (.object "com/example/fairgate/fairgate/core/EntryPoint")) (t' := (.object "com/example/fairgate/fairgate/processor/Side")) (by decide) (by decide)))
  have F_symbol_o_7 := F_symbol_o_6.other W7 (Or.inr (slot_ne (Or.inr (hw _ (List.mem_of_getElem? (i := 31) rfl))) (Or.inr (hw _ (List.mem_of_getElem? (i := 33) rfl))) (by decide) (t := (.object "java/lang/String")) (t' := (.object "com/example/fairgate/fairgate/processor/Side")) (by decide) (by decide)))
  have F_side_o_7 := F_side_o_6.same W7
  have F_qty_o_7 := F_qty_o_6.other W7 (Or.inr (slot_ne (Or.inr (hw _ (List.mem_of_getElem? (i := 35) rfl))) (Or.inr (hw _ (List.mem_of_getElem? (i := 33) rfl))) (by decide) (t := .long) (t' := (.object "com/example/fairgate/fairgate/processor/Side")) (by decide) (by decide)))
  have F_price_o_7 := F_price_o_6.other W7 (Or.inr (slot_ne (Or.inr (hw _ (List.mem_of_getElem? (i := 37) rfl))) (Or.inr (hw _ (List.mem_of_getElem? (i := 33) rfl))) (by decide) (t := .long) (t' := (.object "com/example/fairgate/fairgate/processor/Side")) (by decide) (by decide)))
  have F_immediateOrCancel_o_7 := F_immediateOrCancel_o_6.other W7 (Or.inr (slot_ne (Or.inr (hw _ (List.mem_of_getElem? (i := 39) rfl))) (Or.inr (hw _ (List.mem_of_getElem? (i := 33) rfl))) (by decide) (t := .boolean) (t' := (.object "com/example/fairgate/fairgate/processor/Side")) (by decide) (by decide)))
  have F_remaining_o_7 := F_remaining_o_6.other W7 (Or.inr (slot_ne (Or.inl (hw _ (List.mem_of_getElem? (i := 41) rfl))) (Or.inr (hw _ (List.mem_of_getElem? (i := 33) rfl))) (by decide) (t := .long) (t' := (.object "com/example/fairgate/fairgate/processor/Side")) (by decide) (by decide)))
  have F_reserved_o_7 := F_reserved_o_6.other W7 (Or.inr (slot_ne (Or.inl (hw _ (List.mem_of_getElem? (i := 74) rfl))) (Or.inr (hw _ (List.mem_of_getElem? (i := 33) rfl))) (by decide) (t := .long) (t' := (.object "com/example/fairgate/fairgate/processor/Side")) (by decide) (by decide)))
  have F_cancelled_o_7 := F_cancelled_o_6.other W7 (Or.inr (slot_ne (Or.inl (hw _ (List.mem_of_getElem? (i := 72) rfl))) (Or.inr (hw _ (List.mem_of_getElem? (i := 33) rfl))) (by decide) (t := .boolean) (t' := (.object "com/example/fairgate/fairgate/processor/Side")) (by decide) (by decide)))
  have Zs7 : n0 ≤ h7.size := Nat.le_trans Zs6 (Keep.of_wr W7).1
  have K7 := K6.wr W7 (Or.inl (List.mem_of_getElem? (i := 0) rfl))
  refine own_by (S' := T7.setTop (mkF m 32 #[.val (.ref o), .val .null, .val .null, .val (.ref sy), .val .null, .val (.long qv), .second, .val (.long (0 : Int64)), .second, .val (.int io)] [])) st7 ?_
  refine own_by (S' := T7.setTop (mkF m 33 #[.val (.ref o), .val .null, .val .null, .val (.ref sy), .val .null, .val (.long qv), .second, .val (.long (0 : Int64)), .second, .val (.int io)] [(.ref o)])) (fun tZ kZ => XS.aloadN X7.here hx rfl (hb hby d2_32) rfl rfl kZ) ?_
  refine own_by (S' := T7.setTop (mkF m 35 #[.val (.ref o), .val .null, .val .null, .val (.ref sy), .val .null, .val (.long qv), .second, .val (.long (0 : Int64)), .second, .val (.int io)] [(.long qv), (.ref o)])) (fun tZ kZ => XS.lload X7.here hx rfl (hb hby d2_33) rfl kZ) ?_
  obtain ⟨T8, h8, X8, e8, W8, st8⟩ := putF X7 hx hZ hown (host := "") (Or.inl (hw _ (List.mem_of_getElem? (i := 34) rfl))) Via.refl e7 F_qty_o_7 Ex_o_7 (Or.inr ⟨(hw _ (List.mem_of_getElem? (i := 35) rfl)), rfl, hnm⟩) (hw _ (List.mem_of_getElem? (i := 6) rfl)) (ty := .long) (by decide) rfl rfl (g := (mkF m 35 #[.val (.ref o), .val .null, .val .null, .val (.ref sy), .val .null, .val (.long qv), .second, .val (.long (0 : Int64)), .second, .val (.int io)] [(.long qv), (.ref o)])) rfl rfl (hb hby d2_35)
  have N8 := Fr.snoc X8 N7 g_o
  have Ex_o_8 := Ex_o_7.wr W8
  have F_traded_o_8 := F_traded_o_7.other W8 (Or.inr (slot_ne (Or.inl (hw _ (List.mem_of_getElem? (i := 25) rfl))) (Or.inr (hw _ (List.mem_of_getElem? (i := 35) rfl))) (by decide) (t := (.object "java/math/BigInteger")) (t' := .long) (by decide) (by decide)))
  have F_key_o_8 := F_key_o_7.other W8 (Or.inr (slot_ne (Or.inr (hw _ (List.mem_of_getElem? (i := 27) rfl))) (Or.inr (hw _ (List.mem_of_getElem? (i := 35) rfl))) (by decide) (t := (.object "com/example/fairgate/fairgate/processor/OrderKey")) (t' := .long) (by decide) (by decide)))
  have F_edge_o_8 := F_edge_o_7.other W8 (Or.inr (slot_ne (Or.inr (hw _ (List.mem_of_getElem? (i := 29) rfl))) (Or.inr (hw _ (List.mem_of_getElem? (i := 35) rfl))) (by decide) (t := (.object "com/example/fairgate/fairgate/core/EntryPoint")) (t' := .long) (by decide) (by decide)))
  have F_symbol_o_8 := F_symbol_o_7.other W8 (Or.inr (slot_ne (Or.inr (hw _ (List.mem_of_getElem? (i := 31) rfl))) (Or.inr (hw _ (List.mem_of_getElem? (i := 35) rfl))) (by decide) (t := (.object "java/lang/String")) (t' := .long) (by decide) (by decide)))
  have F_side_o_8 := F_side_o_7.other W8 (Or.inr (slot_ne (Or.inr (hw _ (List.mem_of_getElem? (i := 33) rfl))) (Or.inr (hw _ (List.mem_of_getElem? (i := 35) rfl))) (by decide) (t := (.object "com/example/fairgate/fairgate/processor/Side")) (t' := .long) (by decide) (by decide)))
  have F_qty_o_8 := F_qty_o_7.same W8
  have F_price_o_8 := F_price_o_7.other W8 (Or.inr (slot_ne (Or.inr (hw _ (List.mem_of_getElem? (i := 37) rfl))) (Or.inr (hw _ (List.mem_of_getElem? (i := 35) rfl))) (by decide) (t := .long) (t' := .long) (by decide) (by decide)))
  have F_immediateOrCancel_o_8 := F_immediateOrCancel_o_7.other W8 (Or.inr (slot_ne (Or.inr (hw _ (List.mem_of_getElem? (i := 39) rfl))) (Or.inr (hw _ (List.mem_of_getElem? (i := 35) rfl))) (by decide) (t := .boolean) (t' := .long) (by decide) (by decide)))
  have F_remaining_o_8 := F_remaining_o_7.other W8 (Or.inr (slot_ne (Or.inl (hw _ (List.mem_of_getElem? (i := 41) rfl))) (Or.inr (hw _ (List.mem_of_getElem? (i := 35) rfl))) (by decide) (t := .long) (t' := .long) (by decide) (by decide)))
  have F_reserved_o_8 := F_reserved_o_7.other W8 (Or.inr (slot_ne (Or.inl (hw _ (List.mem_of_getElem? (i := 74) rfl))) (Or.inr (hw _ (List.mem_of_getElem? (i := 35) rfl))) (by decide) (t := .long) (t' := .long) (by decide) (by decide)))
  have F_cancelled_o_8 := F_cancelled_o_7.other W8 (Or.inr (slot_ne (Or.inl (hw _ (List.mem_of_getElem? (i := 72) rfl))) (Or.inr (hw _ (List.mem_of_getElem? (i := 35) rfl))) (by decide) (t := .boolean) (t' := .long) (by decide) (by decide)))
  have Zs8 : n0 ≤ h8.size := Nat.le_trans Zs7 (Keep.of_wr W8).1
  have K8 := K7.wr W8 (Or.inl (List.mem_of_getElem? (i := 0) rfl))
  refine own_by (S' := T8.setTop (mkF m 38 #[.val (.ref o), .val .null, .val .null, .val (.ref sy), .val .null, .val (.long qv), .second, .val (.long (0 : Int64)), .second, .val (.int io)] [])) st8 ?_
  refine own_by (S' := T8.setTop (mkF m 39 #[.val (.ref o), .val .null, .val .null, .val (.ref sy), .val .null, .val (.long qv), .second, .val (.long (0 : Int64)), .second, .val (.int io)] [(.ref o)])) (fun tZ kZ => XS.aloadN X8.here hx rfl (hb hby d2_38) rfl rfl kZ) ?_
  refine own_by (S' := T8.setTop (mkF m 41 #[.val (.ref o), .val .null, .val .null, .val (.ref sy), .val .null, .val (.long qv), .second, .val (.long (0 : Int64)), .second, .val (.int io)] [(.long (0 : Int64)), (.ref o)])) (fun tZ kZ => XS.lload X8.here hx rfl (hb hby d2_39) rfl kZ) ?_
  obtain ⟨T9, h9, X9, e9, W9, st9⟩ := putF X8 hx hZ hown (host := "") (Or.inl (hw _ (List.mem_of_getElem? (i := 36) rfl))) Via.refl e8 F_price_o_8 Ex_o_8 (Or.inr ⟨(hw _ (List.mem_of_getElem? (i := 37) rfl)), rfl, hnm⟩) (hw _ (List.mem_of_getElem? (i := 6) rfl)) (ty := .long) (by decide) rfl rfl (g := (mkF m 41 #[.val (.ref o), .val .null, .val .null, .val (.ref sy), .val .null, .val (.long qv), .second, .val (.long (0 : Int64)), .second, .val (.int io)] [(.long (0 : Int64)), (.ref o)])) rfl rfl (hb hby d2_41)
  have N9 := Fr.snoc X9 N8 g_o
  have Ex_o_9 := Ex_o_8.wr W9
  have F_traded_o_9 := F_traded_o_8.other W9 (Or.inr (slot_ne (Or.inl (hw _ (List.mem_of_getElem? (i := 25) rfl))) (Or.inr (hw _ (List.mem_of_getElem? (i := 37) rfl))) (by decide) (t := (.object "java/math/BigInteger")) (t' := .long) (by decide) (by decide)))
  have F_key_o_9 := F_key_o_8.other W9 (Or.inr (slot_ne (Or.inr (hw _ (List.mem_of_getElem? (i := 27) rfl))) (Or.inr (hw _ (List.mem_of_getElem? (i := 37) rfl))) (by decide) (t := (.object "com/example/fairgate/fairgate/processor/OrderKey")) (t' := .long) (by decide) (by decide)))
  have F_edge_o_9 := F_edge_o_8.other W9 (Or.inr (slot_ne (Or.inr (hw _ (List.mem_of_getElem? (i := 29) rfl))) (Or.inr (hw _ (List.mem_of_getElem? (i := 37) rfl))) (by decide) (t := (.object "com/example/fairgate/fairgate/core/EntryPoint")) (t' := .long) (by decide) (by decide)))
  have F_symbol_o_9 := F_symbol_o_8.other W9 (Or.inr (slot_ne (Or.inr (hw _ (List.mem_of_getElem? (i := 31) rfl))) (Or.inr (hw _ (List.mem_of_getElem? (i := 37) rfl))) (by decide) (t := (.object "java/lang/String")) (t' := .long) (by decide) (by decide)))
  have F_side_o_9 := F_side_o_8.other W9 (Or.inr (slot_ne (Or.inr (hw _ (List.mem_of_getElem? (i := 33) rfl))) (Or.inr (hw _ (List.mem_of_getElem? (i := 37) rfl))) (by decide) (t := (.object "com/example/fairgate/fairgate/processor/Side")) (t' := .long) (by decide) (by decide)))
  have F_qty_o_9 := F_qty_o_8.other W9 (Or.inr (slot_ne (Or.inr (hw _ (List.mem_of_getElem? (i := 35) rfl))) (Or.inr (hw _ (List.mem_of_getElem? (i := 37) rfl))) (by decide) (t := .long) (t' := .long) (by decide) (by decide)))
  have F_price_o_9 := F_price_o_8.same W9
  have F_immediateOrCancel_o_9 := F_immediateOrCancel_o_8.other W9 (Or.inr (slot_ne (Or.inr (hw _ (List.mem_of_getElem? (i := 39) rfl))) (Or.inr (hw _ (List.mem_of_getElem? (i := 37) rfl))) (by decide) (t := .boolean) (t' := .long) (by decide) (by decide)))
  have F_remaining_o_9 := F_remaining_o_8.other W9 (Or.inr (slot_ne (Or.inl (hw _ (List.mem_of_getElem? (i := 41) rfl))) (Or.inr (hw _ (List.mem_of_getElem? (i := 37) rfl))) (by decide) (t := .long) (t' := .long) (by decide) (by decide)))
  have F_reserved_o_9 := F_reserved_o_8.other W9 (Or.inr (slot_ne (Or.inl (hw _ (List.mem_of_getElem? (i := 74) rfl))) (Or.inr (hw _ (List.mem_of_getElem? (i := 37) rfl))) (by decide) (t := .long) (t' := .long) (by decide) (by decide)))
  have F_cancelled_o_9 := F_cancelled_o_8.other W9 (Or.inr (slot_ne (Or.inl (hw _ (List.mem_of_getElem? (i := 72) rfl))) (Or.inr (hw _ (List.mem_of_getElem? (i := 37) rfl))) (by decide) (t := .boolean) (t' := .long) (by decide) (by decide)))
  have Zs9 : n0 ≤ h9.size := Nat.le_trans Zs8 (Keep.of_wr W9).1
  have K9 := K8.wr W9 (Or.inl (List.mem_of_getElem? (i := 0) rfl))
  refine own_by (S' := T9.setTop (mkF m 44 #[.val (.ref o), .val .null, .val .null, .val (.ref sy), .val .null, .val (.long qv), .second, .val (.long (0 : Int64)), .second, .val (.int io)] [])) st9 ?_
  refine own_by (S' := T9.setTop (mkF m 45 #[.val (.ref o), .val .null, .val .null, .val (.ref sy), .val .null, .val (.long qv), .second, .val (.long (0 : Int64)), .second, .val (.int io)] [(.ref o)])) (fun tZ kZ => XS.aloadN X9.here hx rfl (hb hby d2_44) rfl rfl kZ) ?_
  refine own_by (S' := T9.setTop (mkF m 47 #[.val (.ref o), .val .null, .val .null, .val (.ref sy), .val .null, .val (.long qv), .second, .val (.long (0 : Int64)), .second, .val (.int io)] [(.int io), (.ref o)])) (fun tZ kZ => XS.iload X9.here hx rfl (hb hby d2_45) rfl kZ) ?_
  obtain ⟨T10, h10, X10, e10, W10, st10⟩ := putFN X9 hx hZ hown (hw _ (List.mem_of_getElem? (i := 38) rfl)) Via.refl e9 F_immediateOrCancel_o_9 Ex_o_9 (Or.inr ⟨(hw _ (List.mem_of_getElem? (i := 39) rfl)), rfl, hnm⟩) (hw _ (List.mem_of_getElem? (i := 6) rfl)) (ty := .boolean) (v' := (.int io)) (by decide) (by rcases hio with rfl | rfl <;> rfl) (by rcases hio with rfl | rfl <;> rfl) (g := (mkF m 47 #[.val (.ref o), .val .null, .val .null, .val (.ref sy), .val .null, .val (.long qv), .second, .val (.long (0 : Int64)), .second, .val (.int io)] [(.int io), (.ref o)])) rfl rfl (hb hby d2_47)
  have N10 := Fr.snoc X10 N9 g_o
  have Ex_o_10 := Ex_o_9.wr W10
  have F_traded_o_10 := F_traded_o_9.other W10 (Or.inr (slot_ne (Or.inl (hw _ (List.mem_of_getElem? (i := 25) rfl))) (Or.inr (hw _ (List.mem_of_getElem? (i := 39) rfl))) (by decide) (t := (.object "java/math/BigInteger")) (t' := .boolean) (by decide) (by decide)))
  have F_key_o_10 := F_key_o_9.other W10 (Or.inr (slot_ne (Or.inr (hw _ (List.mem_of_getElem? (i := 27) rfl))) (Or.inr (hw _ (List.mem_of_getElem? (i := 39) rfl))) (by decide) (t := (.object "com/example/fairgate/fairgate/processor/OrderKey")) (t' := .boolean) (by decide) (by decide)))
  have F_edge_o_10 := F_edge_o_9.other W10 (Or.inr (slot_ne (Or.inr (hw _ (List.mem_of_getElem? (i := 29) rfl))) (Or.inr (hw _ (List.mem_of_getElem? (i := 39) rfl))) (by decide) (t := (.object "com/example/fairgate/fairgate/core/EntryPoint")) (t' := .boolean) (by decide) (by decide)))
  have F_symbol_o_10 := F_symbol_o_9.other W10 (Or.inr (slot_ne (Or.inr (hw _ (List.mem_of_getElem? (i := 31) rfl))) (Or.inr (hw _ (List.mem_of_getElem? (i := 39) rfl))) (by decide) (t := (.object "java/lang/String")) (t' := .boolean) (by decide) (by decide)))
  have F_side_o_10 := F_side_o_9.other W10 (Or.inr (slot_ne (Or.inr (hw _ (List.mem_of_getElem? (i := 33) rfl))) (Or.inr (hw _ (List.mem_of_getElem? (i := 39) rfl))) (by decide) (t := (.object "com/example/fairgate/fairgate/processor/Side")) (t' := .boolean) (by decide) (by decide)))
  have F_qty_o_10 := F_qty_o_9.other W10 (Or.inr (slot_ne (Or.inr (hw _ (List.mem_of_getElem? (i := 35) rfl))) (Or.inr (hw _ (List.mem_of_getElem? (i := 39) rfl))) (by decide) (t := .long) (t' := .boolean) (by decide) (by decide)))
  have F_price_o_10 := F_price_o_9.other W10 (Or.inr (slot_ne (Or.inr (hw _ (List.mem_of_getElem? (i := 37) rfl))) (Or.inr (hw _ (List.mem_of_getElem? (i := 39) rfl))) (by decide) (t := .long) (t' := .boolean) (by decide) (by decide)))
  have F_immediateOrCancel_o_10 := F_immediateOrCancel_o_9.same W10
  have F_remaining_o_10 := F_remaining_o_9.other W10 (Or.inr (slot_ne (Or.inl (hw _ (List.mem_of_getElem? (i := 41) rfl))) (Or.inr (hw _ (List.mem_of_getElem? (i := 39) rfl))) (by decide) (t := .long) (t' := .boolean) (by decide) (by decide)))
  have F_reserved_o_10 := F_reserved_o_9.other W10 (Or.inr (slot_ne (Or.inl (hw _ (List.mem_of_getElem? (i := 74) rfl))) (Or.inr (hw _ (List.mem_of_getElem? (i := 39) rfl))) (by decide) (t := .long) (t' := .boolean) (by decide) (by decide)))
  have F_cancelled_o_10 := F_cancelled_o_9.other W10 (Or.inr (slot_ne (Or.inl (hw _ (List.mem_of_getElem? (i := 72) rfl))) (Or.inr (hw _ (List.mem_of_getElem? (i := 39) rfl))) (by decide) (t := .boolean) (t' := .boolean) (by decide) (by decide)))
  have Zs10 : n0 ≤ h10.size := Nat.le_trans Zs9 (Keep.of_wr W10).1
  have K10 := K9.wr W10 (Or.inl (List.mem_of_getElem? (i := 0) rfl))
  refine own_by (S' := T10.setTop (mkF m 50 #[.val (.ref o), .val .null, .val .null, .val (.ref sy), .val .null, .val (.long qv), .second, .val (.long (0 : Int64)), .second, .val (.int io)] [])) st10 ?_
  refine own_by (S' := T10.setTop (mkF m 51 #[.val (.ref o), .val .null, .val .null, .val (.ref sy), .val .null, .val (.long qv), .second, .val (.long (0 : Int64)), .second, .val (.int io)] [(.ref o)])) (fun tZ kZ => XS.aloadN X10.here hx rfl (hb hby d2_50) rfl rfl kZ) ?_
  refine own_by (S' := T10.setTop (mkF m 53 #[.val (.ref o), .val .null, .val .null, .val (.ref sy), .val .null, .val (.long qv), .second, .val (.long (0 : Int64)), .second, .val (.int io)] [(.long qv), (.ref o)])) (fun tZ kZ => XS.lload X10.here hx rfl (hb hby d2_51) rfl kZ) ?_
  obtain ⟨T11, h11, X11, e11, W11, st11⟩ := putF X10 hx hZ hown (host := "") (Or.inl (hw _ (List.mem_of_getElem? (i := 40) rfl))) Via.refl e10 F_remaining_o_10 Ex_o_10 (Or.inl (hw _ (List.mem_of_getElem? (i := 41) rfl))) (hw _ (List.mem_of_getElem? (i := 6) rfl)) (ty := .long) (by decide) rfl rfl (g := (mkF m 53 #[.val (.ref o), .val .null, .val .null, .val (.ref sy), .val .null, .val (.long qv), .second, .val (.long (0 : Int64)), .second, .val (.int io)] [(.long qv), (.ref o)])) rfl rfl (hb hby d2_53)
  have N11 := Fr.snoc X11 N10 g_o
  have Ex_o_11 := Ex_o_10.wr W11
  have F_traded_o_11 := F_traded_o_10.other W11 (Or.inr (slot_ne (Or.inl (hw _ (List.mem_of_getElem? (i := 25) rfl))) (Or.inl (hw _ (List.mem_of_getElem? (i := 41) rfl))) (by decide) (t := (.object "java/math/BigInteger")) (t' := .long) (by decide) (by decide)))
  have F_key_o_11 := F_key_o_10.other W11 (Or.inr (slot_ne (Or.inr (hw _ (List.mem_of_getElem? (i := 27) rfl))) (Or.inl (hw _ (List.mem_of_getElem? (i := 41) rfl))) (by decide) (t := (.object "com/example/fairgate/fairgate/processor/OrderKey")) (t' := .long) (by decide) (by decide)))
  have F_edge_o_11 := F_edge_o_10.other W11 (Or.inr (slot_ne (Or.inr (hw _ (List.mem_of_getElem? (i := 29) rfl))) (Or.inl (hw _ (List.mem_of_getElem? (i := 41) rfl))) (by decide) (t := (.object "com/example/fairgate/fairgate/core/EntryPoint")) (t' := .long) (by decide) (by decide)))
  have F_symbol_o_11 := F_symbol_o_10.other W11 (Or.inr (slot_ne (Or.inr (hw _ (List.mem_of_getElem? (i := 31) rfl))) (Or.inl (hw _ (List.mem_of_getElem? (i := 41) rfl))) (by decide) (t := (.object "java/lang/String")) (t' := .long) (by decide) (by decide)))
  have F_side_o_11 := F_side_o_10.other W11 (Or.inr (slot_ne (Or.inr (hw _ (List.mem_of_getElem? (i := 33) rfl))) (Or.inl (hw _ (List.mem_of_getElem? (i := 41) rfl))) (by decide) (t := (.object "com/example/fairgate/fairgate/processor/Side")) (t' := .long) (by decide) (by decide)))
  have F_qty_o_11 := F_qty_o_10.other W11 (Or.inr (slot_ne (Or.inr (hw _ (List.mem_of_getElem? (i := 35) rfl))) (Or.inl (hw _ (List.mem_of_getElem? (i := 41) rfl))) (by decide) (t := .long) (t' := .long) (by decide) (by decide)))
  have F_price_o_11 := F_price_o_10.other W11 (Or.inr (slot_ne (Or.inr (hw _ (List.mem_of_getElem? (i := 37) rfl))) (Or.inl (hw _ (List.mem_of_getElem? (i := 41) rfl))) (by decide) (t := .long) (t' := .long) (by decide) (by decide)))
  have F_immediateOrCancel_o_11 := F_immediateOrCancel_o_10.other W11 (Or.inr (slot_ne (Or.inr (hw _ (List.mem_of_getElem? (i := 39) rfl))) (Or.inl (hw _ (List.mem_of_getElem? (i := 41) rfl))) (by decide) (t := .boolean) (t' := .long) (by decide) (by decide)))
  have F_remaining_o_11 := F_remaining_o_10.same W11
  have F_reserved_o_11 := F_reserved_o_10.other W11 (Or.inr (slot_ne (Or.inl (hw _ (List.mem_of_getElem? (i := 74) rfl))) (Or.inl (hw _ (List.mem_of_getElem? (i := 41) rfl))) (by decide) (t := .long) (t' := .long) (by decide) (by decide)))
  have F_cancelled_o_11 := F_cancelled_o_10.other W11 (Or.inr (slot_ne (Or.inl (hw _ (List.mem_of_getElem? (i := 72) rfl))) (Or.inl (hw _ (List.mem_of_getElem? (i := 41) rfl))) (by decide) (t := .boolean) (t' := .long) (by decide) (by decide)))
  have Zs11 : n0 ≤ h11.size := Nat.le_trans Zs10 (Keep.of_wr W11).1
  have K11 := K10.wr W11 (Or.inl (List.mem_of_getElem? (i := 0) rfl))
  refine own_by (S' := T11.setTop (mkF m 56 #[.val (.ref o), .val .null, .val .null, .val (.ref sy), .val .null, .val (.long qv), .second, .val (.long (0 : Int64)), .second, .val (.int io)] [])) st11 ?_
  exact own_ret0 X11 hx Bd.returns (hb hby d2_56) Bd.notSynchronized (by decide) (by decide) (show QO Z o zr qv qv 0 0 h0 n0 none T11.heap _ from by rw [e11]; exact ⟨rfl, N11, K11, ⟨Ex_o_11, F_qty_o_11, F_remaining_o_11, F_reserved_o_11, F_cancelled_o_11, F_traded_o_11, F_key_o_11, F_edge_o_11⟩⟩)
theorem d4_0 : decode prog_159_method_1_code 0 = .ok (.aload_n 0, 1) := by decide +kernel
theorem d4_1 : decode prog_159_method_1_code 1 = .ok (.invokespecial 1, 3) := by decide +kernel
theorem d4_4 : decode prog_159_method_1_code 4 = .ok (.aload_n 0, 1) := by decide +kernel
theorem d4_5 : decode prog_159_method_1_code 5 = .ok (.lload_n 1, 1) := by decide +kernel
theorem d4_6 : decode prog_159_method_1_code 6 = .ok (.putfield 7, 3) := by decide +kernel
theorem d4_9 : decode prog_159_method_1_code 9 = .ok (.aload_n 0, 1) := by decide +kernel
theorem d4_10 : decode prog_159_method_1_code 10 = .ok (.lload_n 3, 1) := by decide +kernel
theorem d4_11 : decode prog_159_method_1_code 11 = .ok (.putfield 13, 3) := by decide +kernel
theorem d4_14 : decode prog_159_method_1_code 14 = .ok (.aload_n 0, 1) := by decide +kernel
theorem d4_15 : decode prog_159_method_1_code 15 = .ok (.aload 5, 2) := by decide +kernel
theorem d4_17 : decode prog_159_method_1_code 17 = .ok (.putfield 16, 3) := by decide +kernel
theorem d4_20 : decode prog_159_method_1_code 20 = .ok (.aload_n 0, 1) := by decide +kernel
theorem d4_21 : decode prog_159_method_1_code 21 = .ok (.aload 6, 2) := by decide +kernel
theorem d4_23 : decode prog_159_method_1_code 23 = .ok (.putfield 20, 3) := by decide +kernel
theorem d4_26 : decode prog_159_method_1_code 26 = .ok (.aload_n 0, 1) := by decide +kernel
theorem d4_27 : decode prog_159_method_1_code 27 = .ok (.lload 7, 2) := by decide +kernel
theorem d4_29 : decode prog_159_method_1_code 29 = .ok (.putfield 23, 3) := by decide +kernel
theorem d4_32 : decode prog_159_method_1_code 32 = .ok (.aload_n 0, 1) := by decide +kernel
theorem d4_33 : decode prog_159_method_1_code 33 = .ok (.lload 9, 2) := by decide +kernel
theorem d4_35 : decode prog_159_method_1_code 35 = .ok (.putfield 26, 3) := by decide +kernel
theorem d4_38 : decode prog_159_method_1_code 38 = .ok (.return_, 1) := by decide +kernel
theorem pn_3 : plainName "com/example/fairgate/fairgate/processor/Trade" = true := by first | (simp [plainName, overriddenIn]; done) | decide +kernel
theorem ef_rmTI (m : MethodId) (u : Addr) (qv : Int64) : entryFrame m #[(.ref u), (.long (1 : Int64)), (.long (0 : Int64)), .null, .null, (.long (0 : Int64)), (.long qv)] 11 = mkF m 0 #[.val (.ref u), .val (.long (1 : Int64)), .second, .val (.long (0 : Int64)), .second, .val .null, .val .null, .val (.long (0 : Int64)), .second, .val (.long qv), .second] [] := by first | (simp [entryFrame, mkF, argsToLocals, Value.category, maxLocals]; done) | rfl
set_option maxRecDepth 65536 in
set_option maxHeartbeats 40000000 in
theorem rmTI (l : Launch) (Z : State) (a0 : Array Value) (hw : ∀ d ∈ tables_1, d.before a0 Z = true) (ws : List Jvm.Cond) (u : Addr) (qv : Int64) (h0 : Heap) (n0 : Nat) (Z0 : n0 ≤ h0.size) (Ex_u : Exa Z h0 u "com/example/fairgate/fairgate/processor/Trade") (F_number_u : Fld Z h0 u "com/example/fairgate/fairgate/processor/Trade" "number" "J" (.long 0)) (F_time_u : Fld Z h0 u "com/example/fairgate/fairgate/processor/Trade" "time" "J" (.long 0)) (F_buy_u : Fld Z h0 u "com/example/fairgate/fairgate/processor/Trade" "buy" "Lcom/example/fairgate/fairgate/processor/OrderKey;" .null) (F_sell_u : Fld Z h0 u "com/example/fairgate/fairgate/processor/Trade" "sell" "Lcom/example/fairgate/fairgate/processor/OrderKey;" .null) (F_price_u : Fld Z h0 u "com/example/fairgate/fairgate/processor/Trade" "price" "J" (.long 0)) (F_qty_u : Fld Z h0 u "com/example/fairgate/fairgate/processor/Trade" "qty" "J" (.long 0)) (g_u : n0 ≤ u) :
    MetFree l (⟨"com/example/fairgate/fairgate/processor/Trade", "<init>", "(JJLcom/example/fairgate/fairgate/processor/OrderKey;Lcom/example/fairgate/fairgate/processor/OrderKey;JJ)V"⟩ : MethodName) (head1 (Jvm.Cond.code (⟨"com/example/fairgate/fairgate/processor/Trade", "<init>", "(JJLcom/example/fairgate/fairgate/processor/OrderKey;Lcom/example/fairgate/fairgate/processor/OrderKey;JJ)V"⟩ : MethodName) prog_159_method_1_code (11 : Nat) (Option.none : Option Jvm.ClassFile.FieldType) :: ws) ({ frames := 2, cells := 0, slots := 0, locals := 24 } : Room)) (fun aZ UZ => aZ = #[(.ref u), (.long (1 : Int64)), (.long (0 : Int64)), .null, .null, (.long (0 : Int64)), (.long qv)] ∧ Z.Warmed39 UZ.vm ∧ UZ.heap = h0) (fun _ _ _ _ _ => True) (fun _ UZ oZ VZ => ∃ vZ LZ, oZ = .returned vZ ∧ (QT Z u qv h0 n0) vZ VZ.heap LZ ∧ FrameEnd UZ oZ VZ LZ ({ frames := 2, cells := 0, slots := 0, locals := 24 } : Room).cells ({ frames := 2, cells := 0, slots := 0, locals := 24 } : Room).slots) := by
  refine MetFree.of_bodySF (plainFor_of_name pn_3) hisR ?_
  intro p e s m args below meth c s₁ Bd hml0 hP hK
  obtain ⟨rfl, hZ, hh⟩ := hP
  have hx := Bd.exec
  have hby := Bd.bytes
  have hml : c.maxLocals = 11 := hml0
  have hown : s.vm.findClass "com/example/fairgate/fairgate/processor/Trade" = some m.cls := findClass_of_methodNamed Bd.named
  have hnm := (name_of_methodNamed Bd.named Bd.method).1
  have X0 : Stand p l e ({ frames := 2, cells := 0, slots := 0, locals := 24 } : Room) s m #[(.ref u), (.long (1 : Int64)), (.long (0 : Int64)), .null, .null, (.long (0 : Int64)), (.long qv)] below meth c s₁ [] 0 0 := Stand.of_body Bd
  have e0 : s₁.heap = h0 := by rw [← hh, Bd.state]; rfl
  have N0 := Fr.nil n0
  show OwnG p e below (OwnE s (QT Z u qv h0 n0) ({ frames := 2, cells := 0, slots := 0, locals := 24 } : Room).cells ({ frames := 2, cells := 0, slots := 0, locals := 24 } : Room).slots) _
  refine own_by (S' := s₁.setTop (mkF m 0 #[.val (.ref u), .val (.long (1 : Int64)), .second, .val (.long (0 : Int64)), .second, .val .null, .val .null, .val (.long (0 : Int64)), .second, .val (.long qv), .second] [])) (fun tZ kZ => castTop (ef_rmTI m u qv) kZ) ?_
  refine own_by (S' := s₁.setTop (mkF m 1 #[.val (.ref u), .val (.long (1 : Int64)), .second, .val (.long (0 : Int64)), .second, .val .null, .val .null, .val (.long (0 : Int64)), .second, .val (.long qv), .second] [(.ref u)])) (fun tZ kZ => XS.aloadN X0.here hx rfl (hb hby d4_0) rfl rfl kZ) ?_
  obtain ⟨_, _, ⟨T1, L1, k1, n1⟩, -, X1, ⟨Lc1, hQ1, l1, y1, z1⟩, st1⟩ := X0.specialBack hx (y := (⟨"java/lang/Record", "<init>", "()V"⟩ : MethodName)) rfl hown (mvT hZ (hw _ (List.mem_of_getElem? (i := 48) rfl))) (mvT hZ (hw _ (List.mem_of_getElem? (i := 49) rfl))) (mvT hZ (hw _ (List.mem_of_getElem? (i := 52) rfl))) (by decide) (backOf (W := 0) (rmRec l Z a0 hw [] u h0 n0 Z0) hZ (hw _ (List.mem_of_getElem? (i := 52) rfl)) (hw _ (List.mem_of_getElem? (i := 51) rfl)) (by decide) (by decide)) (g := (mkF m 1 #[.val (.ref u), .val (.long (1 : Int64)), .second, .val (.long (0 : Int64)), .second, .val .null, .val .null, .val (.long (0 : Int64)), .second, .val (.long qv), .second] [(.ref u)])) rfl (by rw [hml]; rfl) (Steps.refl _) (a := u) (argsL := []) (rest := []) (lenOf pd_0 rfl) rfl (by show 2 * 0 + _ ≤ _; exact Nat.le_of_eq rfl) (hb hby d4_1) (fun _ _ => ⟨rfl, e0, (by decide : 0 + 0 ≤ _), (by decide : 0 + 0 ≤ _)⟩)
  dsimp only [Pt.U, Pt.locs, Pt.cells, Pt.slots] at X1 l1 y1 z1 st1 hQ1
  subst l1 y1 z1
  obtain ⟨rfl, N1q, heq1⟩ := hQ1
  have N1 := Fr.app N0 N1q
  refine own_by (S' := T1.setTop (mkF m 4 #[.val (.ref u), .val (.long (1 : Int64)), .second, .val (.long (0 : Int64)), .second, .val .null, .val .null, .val (.long (0 : Int64)), .second, .val (.long qv), .second] [])) (fun tZ kZ => st1.trans kZ) ?_
  refine own_by (S' := T1.setTop (mkF m 5 #[.val (.ref u), .val (.long (1 : Int64)), .second, .val (.long (0 : Int64)), .second, .val .null, .val .null, .val (.long (0 : Int64)), .second, .val (.long qv), .second] [(.ref u)])) (fun tZ kZ => XS.aloadN X1.here hx rfl (hb hby d4_4) rfl rfl kZ) ?_
  refine own_by (S' := T1.setTop (mkF m 6 #[.val (.ref u), .val (.long (1 : Int64)), .second, .val (.long (0 : Int64)), .second, .val .null, .val .null, .val (.long (0 : Int64)), .second, .val (.long qv), .second] [(.long (1 : Int64)), (.ref u)])) (fun tZ kZ => XS.lloadN X1.here hx rfl (hb hby d4_5) rfl kZ) ?_
  obtain ⟨T2, h2, X2, e2, W2, st2⟩ := putF X1 hx hZ hown (host := "") (Or.inl (hw _ (List.mem_of_getElem? (i := 54) rfl))) Via.refl heq1 F_number_u Ex_u (Or.inr ⟨(hw _ (List.mem_of_getElem? (i := 55) rfl)), rfl, hnm⟩) (hw _ (List.mem_of_getElem? (i := 43) rfl)) (ty := .long) (by decide) rfl rfl (g := (mkF m 6 #[.val (.ref u), .val (.long (1 : Int64)), .second, .val (.long (0 : Int64)), .second, .val .null, .val .null, .val (.long (0 : Int64)), .second, .val (.long qv), .second] [(.long (1 : Int64)), (.ref u)])) rfl rfl (hb hby d4_6)
  have N2 := Fr.snoc X2 N1 g_u
  have Ex_u_2 := Ex_u.wr W2
  have F_number_u_2 := F_number_u.same W2
  have F_time_u_2 := F_time_u.other W2 (Or.inr (slot_ne (Or.inr (hw _ (List.mem_of_getElem? (i := 57) rfl))) (Or.inr (hw _ (List.mem_of_getElem? (i := 55) rfl))) (by decide) (t := .long) (t' := .long) (by decide) (by decide)))
  have F_buy_u_2 := F_buy_u.other W2 (Or.inr (slot_ne (Or.inr (hw _ (List.mem_of_getElem? (i := 59) rfl))) (Or.inr (hw _ (List.mem_of_getElem? (i := 55) rfl))) (by decide) (t := (.object "com/example/fairgate/fairgate/processor/OrderKey")) (t' := .long) (by decide) (by decide)))
  have F_sell_u_2 := F_sell_u.other W2 (Or.inr (slot_ne (Or.inr (hw _ (List.mem_of_getElem? (i := 61) rfl))) (Or.inr (hw _ (List.mem_of_getElem? (i := 55) rfl))) (by decide) (t := (.object "com/example/fairgate/fairgate/processor/OrderKey")) (t' := .long) (by decide) (by decide)))
  have F_price_u_2 := F_price_u.other W2 (Or.inr (slot_ne (Or.inr (hw _ (List.mem_of_getElem? (i := 63) rfl))) (Or.inr (hw _ (List.mem_of_getElem? (i := 55) rfl))) (by decide) (t := .long) (t' := .long) (by decide) (by decide)))
  have F_qty_u_2 := F_qty_u.other W2 (Or.inr (slot_ne (Or.inr (hw _ (List.mem_of_getElem? (i := 65) rfl))) (Or.inr (hw _ (List.mem_of_getElem? (i := 55) rfl))) (by decide) (t := .long) (t' := .long) (by decide) (by decide)))
  have Zs2 : n0 ≤ h2.size := Nat.le_trans Z0 (Keep.of_wr W2).1
  have K2 := (Keep.refl h0 [u]).wr W2 (Or.inl (List.mem_of_getElem? (i := 0) rfl))
  refine own_by (S' := T2.setTop (mkF m 9 #[.val (.ref u), .val (.long (1 : Int64)), .second, .val (.long (0 : Int64)), .second, .val .null, .val .null, .val (.long (0 : Int64)), .second, .val (.long qv), .second] [])) st2 ?_
  refine own_by (S' := T2.setTop (mkF m 10 #[.val (.ref u), .val (.long (1 : Int64)), .second, .val (.long (0 : Int64)), .second, .val .null, .val .null, .val (.long (0 : Int64)), .second, .val (.long qv), .second] [(.ref u)])) (fun tZ kZ => XS.aloadN X2.here hx rfl (hb hby d4_9) rfl rfl kZ) ?_
  refine own_by (S' := T2.setTop (mkF m 11 #[.val (.ref u), .val (.long (1 : Int64)), .second, .val (.long (0 : Int64)), .second, .val .null, .val .null, .val (.long (0 : Int64)), .second, .val (.long qv), .second] [(.long (0 : Int64)), (.ref u)])) (fun tZ kZ => XS.lloadN X2.here hx rfl (hb hby d4_10) rfl kZ) ?_
  obtain ⟨T3, h3, X3, e3, W3, st3⟩ := putF X2 hx hZ hown (host := "") (Or.inl (hw _ (List.mem_of_getElem? (i := 56) rfl))) Via.refl e2 F_time_u_2 Ex_u_2 (Or.inr ⟨(hw _ (List.mem_of_getElem? (i := 57) rfl)), rfl, hnm⟩) (hw _ (List.mem_of_getElem? (i := 43) rfl)) (ty := .long) (by decide) rfl rfl (g := (mkF m 11 #[.val (.ref u), .val (.long (1 : Int64)), .second, .val (.long (0 : Int64)), .second, .val .null, .val .null, .val (.long (0 : Int64)), .second, .val (.long qv), .second] [(.long (0 : Int64)), (.ref u)])) rfl rfl (hb hby d4_11)
  have N3 := Fr.snoc X3 N2 g_u
  have Ex_u_3 := Ex_u_2.wr W3
  have F_number_u_3 := F_number_u_2.other W3 (Or.inr (slot_ne (Or.inr (hw _ (List.mem_of_getElem? (i := 55) rfl))) (Or.inr (hw _ (List.mem_of_getElem? (i := 57) rfl))) (by decide) (t := .long) (t' := .long) (by decide) (by decide)))
  have F_time_u_3 := F_time_u_2.same W3
  have F_buy_u_3 := F_buy_u_2.other W3 (Or.inr (slot_ne (Or.inr (hw _ (List.mem_of_getElem? (i := 59) rfl))) (Or.inr (hw _ (List.mem_of_getElem? (i := 57) rfl))) (by decide) (t := (.object "com/example/fairgate/fairgate/processor/OrderKey")) (t' := .long) (by decide) (by decide)))
  have F_sell_u_3 := F_sell_u_2.other W3 (Or.inr (slot_ne (Or.inr (hw _ (List.mem_of_getElem? (i := 61) rfl))) (Or.inr (hw _ (List.mem_of_getElem? (i := 57) rfl))) (by decide) (t := (.object "com/example/fairgate/fairgate/processor/OrderKey")) (t' := .long) (by decide) (by decide)))
  have F_price_u_3 := F_price_u_2.other W3 (Or.inr (slot_ne (Or.inr (hw _ (List.mem_of_getElem? (i := 63) rfl))) (Or.inr (hw _ (List.mem_of_getElem? (i := 57) rfl))) (by decide) (t := .long) (t' := .long) (by decide) (by decide)))
  have F_qty_u_3 := F_qty_u_2.other W3 (Or.inr (slot_ne (Or.inr (hw _ (List.mem_of_getElem? (i := 65) rfl))) (Or.inr (hw _ (List.mem_of_getElem? (i := 57) rfl))) (by decide) (t := .long) (t' := .long) (by decide) (by decide)))
  have Zs3 : n0 ≤ h3.size := Nat.le_trans Zs2 (Keep.of_wr W3).1
  have K3 := K2.wr W3 (Or.inl (List.mem_of_getElem? (i := 0) rfl))
  refine own_by (S' := T3.setTop (mkF m 14 #[.val (.ref u), .val (.long (1 : Int64)), .second, .val (.long (0 : Int64)), .second, .val .null, .val .null, .val (.long (0 : Int64)), .second, .val (.long qv), .second] [])) st3 ?_
  refine own_by (S' := T3.setTop (mkF m 15 #[.val (.ref u), .val (.long (1 : Int64)), .second, .val (.long (0 : Int64)), .second, .val .null, .val .null, .val (.long (0 : Int64)), .second, .val (.long qv), .second] [(.ref u)])) (fun tZ kZ => XS.aloadN X3.here hx rfl (hb hby d4_14) rfl rfl kZ) ?_
  refine own_by (S' := T3.setTop (mkF m 17 #[.val (.ref u), .val (.long (1 : Int64)), .second, .val (.long (0 : Int64)), .second, .val .null, .val .null, .val (.long (0 : Int64)), .second, .val (.long qv), .second] [.null, (.ref u)])) (fun tZ kZ => XS.aload X3.here hx rfl (hb hby d4_15) rfl rfl kZ) ?_
  obtain ⟨T4, h4, X4, e4, W4, st4⟩ := putF X3 hx hZ hown (host := "") (Or.inl (hw _ (List.mem_of_getElem? (i := 58) rfl))) Via.refl e3 F_buy_u_3 Ex_u_3 (Or.inr ⟨(hw _ (List.mem_of_getElem? (i := 59) rfl)), rfl, hnm⟩) (hw _ (List.mem_of_getElem? (i := 43) rfl)) (ty := (.object "com/example/fairgate/fairgate/processor/OrderKey")) (by decide) rfl rfl (g := (mkF m 17 #[.val (.ref u), .val (.long (1 : Int64)), .second, .val (.long (0 : Int64)), .second, .val .null, .val .null, .val (.long (0 : Int64)), .second, .val (.long qv), .second] [.null, (.ref u)])) rfl rfl (hb hby d4_17)
  have N4 := Fr.snoc X4 N3 g_u
  have Ex_u_4 := Ex_u_3.wr W4
  have F_number_u_4 := F_number_u_3.other W4 (Or.inr (slot_ne (Or.inr (hw _ (List.mem_of_getElem? (i := 55) rfl))) (Or.inr (hw _ (List.mem_of_getElem? (i := 59) rfl))) (by decide) (t := .long) (t' := (.object "com/example/fairgate/fairgate/processor/OrderKey")) (by decide) (by decide)))
  have F_time_u_4 := F_time_u_3.other W4 (Or.inr (slot_ne (Or.inr (hw _ (List.mem_of_getElem? (i := 57) rfl))) (Or.inr (hw _ (List.mem_of_getElem? (i := 59) rfl))) (by decide) (t := .long) (t' := (.object "com/example/fairgate/fairgate/processor/OrderKey")) (by decide) (by decide)))
  have F_buy_u_4 := F_buy_u_3.same W4
  have F_sell_u_4 := F_sell_u_3.other W4 (Or.inr (slot_ne (Or.inr (hw _ (List.mem_of_getElem? (i := 61) rfl))) (Or.inr (hw _ (List.mem_of_getElem? (i := 59) rfl))) (by decide) (t := (.object "com/example/fairgate/fairgate/processor/OrderKey")) (t' := (.object "com/example/fairgate/fairgate/processor/OrderKey")) (by decide) (by decide)))
  have F_price_u_4 := F_price_u_3.other W4 (Or.inr (slot_ne (Or.inr (hw _ (List.mem_of_getElem? (i := 63) rfl))) (Or.inr (hw _ (List.mem_of_getElem? (i := 59) rfl))) (by decide) (t := .long) (t' := (.object "com/example/fairgate/fairgate/processor/OrderKey")) (by decide) (by decide)))
  have F_qty_u_4 := F_qty_u_3.other W4 (Or.inr (slot_ne (Or.inr (hw _ (List.mem_of_getElem? (i := 65) rfl))) (Or.inr (hw _ (List.mem_of_getElem? (i := 59) rfl))) (by decide) (t := .long) (t' := (.object "com/example/fairgate/fairgate/processor/OrderKey")) (by decide) (by decide)))
  have Zs4 : n0 ≤ h4.size := Nat.le_trans Zs3 (Keep.of_wr W4).1
  have K4 := K3.wr W4 (Or.inl (List.mem_of_getElem? (i := 0) rfl))
  refine own_by (S' := T4.setTop (mkF m 20 #[.val (.ref u), .val (.long (1 : Int64)), .second, .val (.long (0 : Int64)), .second, .val .null, .val .null, .val (.long (0 : Int64)), .second, .val (.long qv), .second] [])) st4 ?_
  refine own_by (S' := T4.setTop (mkF m 21 #[.val (.ref u), .val (.long (1 : Int64)), .second, .val (.long (0 : Int64)), .second, .val .null, .val .null, .val (.long (0 : Int64)), .second, .val (.long qv), .second] [(.ref u)])) (fun tZ kZ => XS.aloadN X4.here hx rfl (hb hby d4_20) rfl rfl kZ) ?_
  refine own_by (S' := T4.setTop (mkF m 23 #[.val (.ref u), .val (.long (1 : Int64)), .second, .val (.long (0 : Int64)), .second, .val .null, .val .null, .val (.long (0 : Int64)), .second, .val (.long qv), .second] [.null, (.ref u)])) (fun tZ kZ => XS.aload X4.here hx rfl (hb hby d4_21) rfl rfl kZ) ?_
  obtain ⟨T5, h5, X5, e5, W5, st5⟩ := putF X4 hx hZ hown (host := "") (Or.inl (hw _ (List.mem_of_getElem? (i := 60) rfl))) Via.refl e4 F_sell_u_4 Ex_u_4 (Or.inr ⟨(hw _ (List.mem_of_getElem? (i := 61) rfl)), rfl, hnm⟩) (hw _ (List.mem_of_getElem? (i := 43) rfl)) (ty := (.object "com/example/fairgate/fairgate/processor/OrderKey")) (by decide) rfl rfl (g := (mkF m 23 #[.val (.ref u), .val (.long (1 : Int64)), .second, .val (.long (0 : Int64)), .second, .val .null, .val .null, .val (.long (0 : Int64)), .second, .val (.long qv), .second] [.null, (.ref u)])) rfl rfl (hb hby d4_23)
  have N5 := Fr.snoc X5 N4 g_u
  have Ex_u_5 := Ex_u_4.wr W5
  have F_number_u_5 := F_number_u_4.other W5 (Or.inr (slot_ne (Or.inr (hw _ (List.mem_of_getElem? (i := 55) rfl))) (Or.inr (hw _ (List.mem_of_getElem? (i := 61) rfl))) (by decide) (t := .long) (t' := (.object "com/example/fairgate/fairgate/processor/OrderKey")) (by decide) (by decide)))
  have F_time_u_5 := F_time_u_4.other W5 (Or.inr (slot_ne (Or.inr (hw _ (List.mem_of_getElem? (i := 57) rfl))) (Or.inr (hw _ (List.mem_of_getElem? (i := 61) rfl))) (by decide) (t := .long) (t' := (.object "com/example/fairgate/fairgate/processor/OrderKey")) (by decide) (by decide)))
  have F_buy_u_5 := F_buy_u_4.other W5 (Or.inr (slot_ne (Or.inr (hw _ (List.mem_of_getElem? (i := 59) rfl))) (Or.inr (hw _ (List.mem_of_getElem? (i := 61) rfl))) (by decide) (t := (.object "com/example/fairgate/fairgate/processor/OrderKey")) (t' := (.object "com/example/fairgate/fairgate/processor/OrderKey")) (by decide) (by decide)))
  have F_sell_u_5 := F_sell_u_4.same W5
  have F_price_u_5 := F_price_u_4.other W5 (Or.inr (slot_ne (Or.inr (hw _ (List.mem_of_getElem? (i := 63) rfl))) (Or.inr (hw _ (List.mem_of_getElem? (i := 61) rfl))) (by decide) (t := .long) (t' := (.object "com/example/fairgate/fairgate/processor/OrderKey")) (by decide) (by decide)))
  have F_qty_u_5 := F_qty_u_4.other W5 (Or.inr (slot_ne (Or.inr (hw _ (List.mem_of_getElem? (i := 65) rfl))) (Or.inr (hw _ (List.mem_of_getElem? (i := 61) rfl))) (by decide) (t := .long) (t' := (.object "com/example/fairgate/fairgate/processor/OrderKey")) (by decide) (by decide)))
  have Zs5 : n0 ≤ h5.size := Nat.le_trans Zs4 (Keep.of_wr W5).1
  have K5 := K4.wr W5 (Or.inl (List.mem_of_getElem? (i := 0) rfl))
  refine own_by (S' := T5.setTop (mkF m 26 #[.val (.ref u), .val (.long (1 : Int64)), .second, .val (.long (0 : Int64)), .second, .val .null, .val .null, .val (.long (0 : Int64)), .second, .val (.long qv), .second] [])) st5 ?_
  refine own_by (S' := T5.setTop (mkF m 27 #[.val (.ref u), .val (.long (1 : Int64)), .second, .val (.long (0 : Int64)), .second, .val .null, .val .null, .val (.long (0 : Int64)), .second, .val (.long qv), .second] [(.ref u)])) (fun tZ kZ => XS.aloadN X5.here hx rfl (hb hby d4_26) rfl rfl kZ) ?_
  refine own_by (S' := T5.setTop (mkF m 29 #[.val (.ref u), .val (.long (1 : Int64)), .second, .val (.long (0 : Int64)), .second, .val .null, .val .null, .val (.long (0 : Int64)), .second, .val (.long qv), .second] [(.long (0 : Int64)), (.ref u)])) (fun tZ kZ => XS.lload X5.here hx rfl (hb hby d4_27) rfl kZ) ?_
  obtain ⟨T6, h6, X6, e6, W6, st6⟩ := putF X5 hx hZ hown (host := "") (Or.inl (hw _ (List.mem_of_getElem? (i := 62) rfl))) Via.refl e5 F_price_u_5 Ex_u_5 (Or.inr ⟨(hw _ (List.mem_of_getElem? (i := 63) rfl)), rfl, hnm⟩) (hw _ (List.mem_of_getElem? (i := 43) rfl)) (ty := .long) (by decide) rfl rfl (g := (mkF m 29 #[.val (.ref u), .val (.long (1 : Int64)), .second, .val (.long (0 : Int64)), .second, .val .null, .val .null, .val (.long (0 : Int64)), .second, .val (.long qv), .second] [(.long (0 : Int64)), (.ref u)])) rfl rfl (hb hby d4_29)
  have N6 := Fr.snoc X6 N5 g_u
  have Ex_u_6 := Ex_u_5.wr W6
  have F_number_u_6 := F_number_u_5.other W6 (Or.inr (slot_ne (Or.inr (hw _ (List.mem_of_getElem? (i := 55) rfl))) (Or.inr (hw _ (List.mem_of_getElem? (i := 63) rfl))) (by decide) (t := .long) (t' := .long) (by decide) (by decide)))
  have F_time_u_6 := F_time_u_5.other W6 (Or.inr (slot_ne (Or.inr (hw _ (List.mem_of_getElem? (i := 57) rfl))) (Or.inr (hw _ (List.mem_of_getElem? (i := 63) rfl))) (by decide) (t := .long) (t' := .long) (by decide) (by decide)))
  have F_buy_u_6 := F_buy_u_5.other W6 (Or.inr (slot_ne (Or.inr (hw _ (List.mem_of_getElem? (i := 59) rfl))) (Or.inr (hw _ (List.mem_of_getElem? (i := 63) rfl))) (by decide) (t := (.object "com/example/fairgate/fairgate/processor/OrderKey")) (t' := .long) (by decide) (by decide)))
  have F_sell_u_6 := F_sell_u_5.other W6 (Or.inr (slot_ne (Or.inr (hw _ (List.mem_of_getElem? (i := 61) rfl))) (Or.inr (hw _ (List.mem_of_getElem? (i := 63) rfl))) (by decide) (t := (.object "com/example/fairgate/fairgate/processor/OrderKey")) (t' := .long) (by decide) (by decide)))
  have F_price_u_6 := F_price_u_5.same W6
  have F_qty_u_6 := F_qty_u_5.other W6 (Or.inr (slot_ne (Or.inr (hw _ (List.mem_of_getElem? (i := 65) rfl))) (Or.inr (hw _ (List.mem_of_getElem? (i := 63) rfl))) (by decide) (t := .long) (t' := .long) (by decide) (by decide)))
  have Zs6 : n0 ≤ h6.size := Nat.le_trans Zs5 (Keep.of_wr W6).1
  have K6 := K5.wr W6 (Or.inl (List.mem_of_getElem? (i := 0) rfl))
  refine own_by (S' := T6.setTop (mkF m 32 #[.val (.ref u), .val (.long (1 : Int64)), .second, .val (.long (0 : Int64)), .second, .val .null, .val .null, .val (.long (0 : Int64)), .second, .val (.long qv), .second] [])) st6 ?_
  refine own_by (S' := T6.setTop (mkF m 33 #[.val (.ref u), .val (.long (1 : Int64)), .second, .val (.long (0 : Int64)), .second, .val .null, .val .null, .val (.long (0 : Int64)), .second, .val (.long qv), .second] [(.ref u)])) (fun tZ kZ => XS.aloadN X6.here hx rfl (hb hby d4_32) rfl rfl kZ) ?_
  refine own_by (S' := T6.setTop (mkF m 35 #[.val (.ref u), .val (.long (1 : Int64)), .second, .val (.long (0 : Int64)), .second, .val .null, .val .null, .val (.long (0 : Int64)), .second, .val (.long qv), .second] [(.long qv), (.ref u)])) (fun tZ kZ => XS.lload X6.here hx rfl (hb hby d4_33) rfl kZ) ?_
  obtain ⟨T7, h7, X7, e7, W7, st7⟩ := putF X6 hx hZ hown (host := "") (Or.inl (hw _ (List.mem_of_getElem? (i := 64) rfl))) Via.refl e6 F_qty_u_6 Ex_u_6 (Or.inr ⟨(hw _ (List.mem_of_getElem? (i := 65) rfl)), rfl, hnm⟩) (hw _ (List.mem_of_getElem? (i := 43) rfl)) (ty := .long) (by decide) rfl rfl (g := (mkF m 35 #[.val (.ref u), .val (.long (1 : Int64)), .second, .val (.long (0 : Int64)), .second, .val .null, .val .null, .val (.long (0 : Int64)), .second, .val (.long qv), .second] [(.long qv), (.ref u)])) rfl rfl (hb hby d4_35)
  have N7 := Fr.snoc X7 N6 g_u
  have Ex_u_7 := Ex_u_6.wr W7
  have F_number_u_7 := F_number_u_6.other W7 (Or.inr (slot_ne (Or.inr (hw _ (List.mem_of_getElem? (i := 55) rfl))) (Or.inr (hw _ (List.mem_of_getElem? (i := 65) rfl))) (by decide) (t := .long) (t' := .long) (by decide) (by decide)))
  have F_time_u_7 := F_time_u_6.other W7 (Or.inr (slot_ne (Or.inr (hw _ (List.mem_of_getElem? (i := 57) rfl))) (Or.inr (hw _ (List.mem_of_getElem? (i := 65) rfl))) (by decide) (t := .long) (t' := .long) (by decide) (by decide)))
  have F_buy_u_7 := F_buy_u_6.other W7 (Or.inr (slot_ne (Or.inr (hw _ (List.mem_of_getElem? (i := 59) rfl))) (Or.inr (hw _ (List.mem_of_getElem? (i := 65) rfl))) (by decide) (t := (.object "com/example/fairgate/fairgate/processor/OrderKey")) (t' := .long) (by decide) (by decide)))
  have F_sell_u_7 := F_sell_u_6.other W7 (Or.inr (slot_ne (Or.inr (hw _ (List.mem_of_getElem? (i := 61) rfl))) (Or.inr (hw _ (List.mem_of_getElem? (i := 65) rfl))) (by decide) (t := (.object "com/example/fairgate/fairgate/processor/OrderKey")) (t' := .long) (by decide) (by decide)))
  have F_price_u_7 := F_price_u_6.other W7 (Or.inr (slot_ne (Or.inr (hw _ (List.mem_of_getElem? (i := 63) rfl))) (Or.inr (hw _ (List.mem_of_getElem? (i := 65) rfl))) (by decide) (t := .long) (t' := .long) (by decide) (by decide)))
  have F_qty_u_7 := F_qty_u_6.same W7
  have Zs7 : n0 ≤ h7.size := Nat.le_trans Zs6 (Keep.of_wr W7).1
  have K7 := K6.wr W7 (Or.inl (List.mem_of_getElem? (i := 0) rfl))
  refine own_by (S' := T7.setTop (mkF m 38 #[.val (.ref u), .val (.long (1 : Int64)), .second, .val (.long (0 : Int64)), .second, .val .null, .val .null, .val (.long (0 : Int64)), .second, .val (.long qv), .second] [])) st7 ?_
  exact own_ret0 X7 hx Bd.returns (hb hby d4_38) Bd.notSynchronized (by decide) (by decide) (show QT Z u qv h0 n0 none T7.heap _ from by rw [e7]; exact ⟨rfl, N7, K7, Ex_u_7, F_price_u_7, F_qty_u_7⟩)
theorem d6_0 : decode prog_140_method_7_code 0 = .ok (.aload_n 0, 1) := by decide +kernel
theorem d6_1 : decode prog_140_method_7_code 1 = .ok (.getfield 48, 3) := by decide +kernel
theorem d6_4 : decode prog_140_method_7_code 4 = .ok (.ifCond .eq 7, 3) := by decide +kernel
theorem d6_7 : decode prog_140_method_7_code 7 = .ok (.lconst 0, 1) := by decide +kernel
theorem d6_8 : decode prog_140_method_7_code 8 = .ok (.goto 12, 3) := by decide +kernel
theorem d6_11 : decode prog_140_method_7_code 11 = .ok (.aload_n 0, 1) := by decide +kernel
theorem d6_12 : decode prog_140_method_7_code 12 = .ok (.getfield 45, 3) := by decide +kernel
theorem d6_15 : decode prog_140_method_7_code 15 = .ok (.aload_n 0, 1) := by decide +kernel
theorem d6_16 : decode prog_140_method_7_code 16 = .ok (.getfield 51, 3) := by decide +kernel
theorem d6_19 : decode prog_140_method_7_code 19 = .ok (.lsub, 1) := by decide +kernel
theorem d6_20 : decode prog_140_method_7_code 20 = .ok (.lreturn, 1) := by decide +kernel
theorem ef_rmAv (m : MethodId) (o : Addr) : entryFrame m #[(.ref o)] 1 = mkF m 0 #[.val (.ref o)] [] := by first | (simp [entryFrame, mkF, argsToLocals, Value.category, maxLocals]; done) | rfl
set_option maxRecDepth 65536 in
set_option maxHeartbeats 40000000 in
theorem rmAv (l : Launch) (Z : State) (a0 : Array Value) (hw : ∀ d ∈ tables_1, d.before a0 Z = true) (ws : List Jvm.Cond) (o zr : Addr) (q rem res : Int64) (can : Int32) (h0 : Heap) (n0 : Nat) (Z0 : n0 ≤ h0.size) (OO : OwnO Z h0 o zr q rem res can) :
    MetFree l (⟨"com/example/fairgate/fairgate/processor/Order", "available", "()J"⟩ : MethodName) (head1 (Jvm.Cond.code (⟨"com/example/fairgate/fairgate/processor/Order", "available", "()J"⟩ : MethodName) prog_140_method_7_code (1 : Nat) (Option.some Jvm.ClassFile.FieldType.long) :: ws) ({ frames := 0, cells := 0, slots := 0, locals := 0 } : Room)) (fun aZ UZ => aZ = #[(.ref o)] ∧ Z.Warmed39 UZ.vm ∧ UZ.heap = h0) (fun _ _ _ _ _ => True) (fun _ UZ oZ VZ => ∃ vZ LZ, oZ = .returned vZ ∧ (QSame (some (.long (if can = 0 then rem - res else 0))) h0 n0) vZ VZ.heap LZ ∧ FrameEnd UZ oZ VZ LZ ({ frames := 0, cells := 0, slots := 0, locals := 0 } : Room).cells ({ frames := 0, cells := 0, slots := 0, locals := 0 } : Room).slots) := by
  refine MetFree.of_bodySF (plainFor_of_name pn_2) hisR ?_
  intro p e s m args below meth c s₁ Bd hml0 hP hK
  obtain ⟨rfl, hZ, hh⟩ := hP
  have hx := Bd.exec
  have hby := Bd.bytes
  have hml : c.maxLocals = 1 := hml0
  have hown : s.vm.findClass "com/example/fairgate/fairgate/processor/Order" = some m.cls := findClass_of_methodNamed Bd.named
  have hnm := (name_of_methodNamed Bd.named Bd.method).1
  have X0 : Stand p l e ({ frames := 0, cells := 0, slots := 0, locals := 0 } : Room) s m #[(.ref o)] below meth c s₁ [] 0 0 := Stand.of_body Bd
  have e0 : s₁.heap = h0 := by rw [← hh, Bd.state]; rfl
  have N0 := Fr.nil n0
  show OwnG p e below (OwnE s (QSame (some (.long (if can = 0 then rem - res else 0))) h0 n0) ({ frames := 0, cells := 0, slots := 0, locals := 0 } : Room).cells ({ frames := 0, cells := 0, slots := 0, locals := 0 } : Room).slots) _
  refine own_by (S' := s₁.setTop (mkF m 0 #[.val (.ref o)] [])) (fun tZ kZ => castTop (ef_rmAv m o) kZ) ?_
  obtain ⟨Ex_o, F_qty_o, F_remaining_o, F_reserved_o, F_cancelled_o, F_traded_o, F_key_o, F_edge_o⟩ := id OO
  refine own_by (S' := s₁.setTop (mkF m 1 #[.val (.ref o)] [(.ref o)])) (fun tZ kZ => XS.aloadN X0.here hx rfl (hb hby d6_0) rfl rfl kZ) ?_
  obtain ⟨T1, X1, e1, st1⟩ := getF X0 hx hZ hown (host := "") (Or.inl (hw _ (List.mem_of_getElem? (i := 71) rfl))) Via.refl e0 F_cancelled_o (g := (mkF m 1 #[.val (.ref o)] [(.ref o)])) rfl rfl (hb hby d6_1)
  refine own_by (S' := T1.setTop (mkF m 4 #[.val (.ref o)] [(.int can)])) st1 ?_
  by_cases hc : can = (0 : Int32)
  · refine own_by (S' := T1.setTop (mkF m 11 #[.val (.ref o)] [])) (fun tZ kZ => XS.ifYes X1.here hx rfl (pc0 := 4) (pc' := 11) rfl (hb hby d6_4) rfl ((if0 _ _).trans (teq hc).1) (by decide) (by decide) kZ) ?_
    refine own_by (S' := T1.setTop (mkF m 12 #[.val (.ref o)] [(.ref o)])) (fun tZ kZ => XS.aloadN X1.here hx rfl (hb hby d6_11) rfl rfl kZ) ?_
    obtain ⟨T2, X2, e2, st2⟩ := getF X1 hx hZ hown (host := "") (Or.inl (hw _ (List.mem_of_getElem? (i := 40) rfl))) Via.refl e1 F_remaining_o (g := (mkF m 12 #[.val (.ref o)] [(.ref o)])) rfl rfl (hb hby d6_12)
    refine own_by (S' := T2.setTop (mkF m 15 #[.val (.ref o)] [(.long rem)])) st2 ?_
    refine own_by (S' := T2.setTop (mkF m 16 #[.val (.ref o)] [(.ref o), (.long rem)])) (fun tZ kZ => XS.aloadN X2.here hx rfl (hb hby d6_15) rfl rfl kZ) ?_
    obtain ⟨T3, X3, e3, st3⟩ := getF X2 hx hZ hown (host := "") (Or.inl (hw _ (List.mem_of_getElem? (i := 73) rfl))) Via.refl e2 F_reserved_o (g := (mkF m 16 #[.val (.ref o)] [(.ref o), (.long rem)])) rfl rfl (hb hby d6_16)
    refine own_by (S' := T3.setTop (mkF m 19 #[.val (.ref o)] [(.long res), (.long rem)])) st3 ?_
    refine own_by (S' := T3.setTop (mkF m 20 #[.val (.ref o)] [(.long (rem - res))])) (fun tZ kZ => XS.lsub X3.here hx rfl (hb hby d6_19) rfl kZ) ?_
    exact own_retL X3 hx Bd.returns  (hb hby d6_20) Bd.notSynchronized (by decide) (by decide) ⟨by rw [if_pos hc], N0, e3⟩
  · refine own_by (S' := T1.setTop (mkF m 7 #[.val (.ref o)] [])) (fun tZ kZ => XS.ifNo X1.here hx rfl (hb hby d6_4) rfl ((if0 _ _).trans (feq hc).1) kZ) ?_
    refine own_by (S' := T1.setTop (mkF m 8 #[.val (.ref o)] [(.long (0 : Int64))])) (fun tZ kZ => XS.lconst X1.here hx rfl (hb hby d6_7) kZ) ?_
    refine own_by (S' := T1.setTop (mkF m 20 #[.val (.ref o)] [(.long (0 : Int64))])) (fun tZ kZ => XS.goto X1.here hx rfl (pc0 := 8) (pc' := 20) rfl (hb hby d6_8) (by decide) (by decide) kZ) ?_
    exact own_retL X1 hx Bd.returns  (hb hby d6_20) Bd.notSynchronized (by decide) (by decide) ⟨by rw [if_neg hc], N0, e1⟩
theorem d7_0 : decode prog_140_method_8_code 0 = .ok (.aload_n 0, 1) := by decide +kernel
theorem d7_1 : decode prog_140_method_8_code 1 = .ok (.dup, 1) := by decide +kernel
theorem d7_2 : decode prog_140_method_8_code 2 = .ok (.getfield 51, 3) := by decide +kernel
theorem d7_5 : decode prog_140_method_8_code 5 = .ok (.lload_n 1, 1) := by decide +kernel
theorem d7_6 : decode prog_140_method_8_code 6 = .ok (.ladd, 1) := by decide +kernel
theorem d7_7 : decode prog_140_method_8_code 7 = .ok (.putfield 51, 3) := by decide +kernel
theorem d7_10 : decode prog_140_method_8_code 10 = .ok (.return_, 1) := by decide +kernel
theorem ef_rmRs (m : MethodId) (o : Addr) (y : Int64) : entryFrame m #[(.ref o), (.long y)] 3 = mkF m 0 #[.val (.ref o), .val (.long y), .second] [] := by first | (simp [entryFrame, mkF, argsToLocals, Value.category, maxLocals]; done) | rfl
set_option maxRecDepth 65536 in
set_option maxHeartbeats 40000000 in
theorem rmRs (l : Launch) (Z : State) (a0 : Array Value) (hw : ∀ d ∈ tables_1, d.before a0 Z = true) (ws : List Jvm.Cond) (o zr : Addr) (q rem res : Int64) (can : Int32) (y : Int64) (h0 : Heap) (n0 : Nat) (Z0 : n0 ≤ h0.size) (OO : OwnO Z h0 o zr q rem res can) (g_o : n0 ≤ o) :
    MetFree l (⟨"com/example/fairgate/fairgate/processor/Order", "reserve", "(J)V"⟩ : MethodName) (head1 (Jvm.Cond.code (⟨"com/example/fairgate/fairgate/processor/Order", "reserve", "(J)V"⟩ : MethodName) prog_140_method_8_code (3 : Nat) (Option.none : Option Jvm.ClassFile.FieldType) :: ws) ({ frames := 0, cells := 0, slots := 0, locals := 0 } : Room)) (fun aZ UZ => aZ = #[(.ref o), (.long y)] ∧ Z.Warmed39 UZ.vm ∧ UZ.heap = h0) (fun _ _ _ _ _ => True) (fun _ UZ oZ VZ => ∃ vZ LZ, oZ = .returned vZ ∧ (QO Z o zr q rem (res + y) can h0 n0) vZ VZ.heap LZ ∧ FrameEnd UZ oZ VZ LZ ({ frames := 0, cells := 0, slots := 0, locals := 0 } : Room).cells ({ frames := 0, cells := 0, slots := 0, locals := 0 } : Room).slots) := by
  refine MetFree.of_bodySF (plainFor_of_name pn_2) hisR ?_
  intro p e s m args below meth c s₁ Bd hml0 hP hK
  obtain ⟨rfl, hZ, hh⟩ := hP
  have hx := Bd.exec
  have hby := Bd.bytes
  have hml : c.maxLocals = 3 := hml0
  have hown : s.vm.findClass "com/example/fairgate/fairgate/processor/Order" = some m.cls := findClass_of_methodNamed Bd.named
  have hnm := (name_of_methodNamed Bd.named Bd.method).1
  have X0 : Stand p l e ({ frames := 0, cells := 0, slots := 0, locals := 0 } : Room) s m #[(.ref o), (.long y)] below meth c s₁ [] 0 0 := Stand.of_body Bd
  have e0 : s₁.heap = h0 := by rw [← hh, Bd.state]; rfl
  have N0 := Fr.nil n0
  show OwnG p e below (OwnE s (QO Z o zr q rem (res + y) can h0 n0) ({ frames := 0, cells := 0, slots := 0, locals := 0 } : Room).cells ({ frames := 0, cells := 0, slots := 0, locals := 0 } : Room).slots) _
  refine own_by (S' := s₁.setTop (mkF m 0 #[.val (.ref o), .val (.long y), .second] [])) (fun tZ kZ => castTop (ef_rmRs m o y) kZ) ?_
  obtain ⟨Ex_o, F_qty_o, F_remaining_o, F_reserved_o, F_cancelled_o, F_traded_o, F_key_o, F_edge_o⟩ := id OO
  refine own_by (S' := s₁.setTop (mkF m 1 #[.val (.ref o), .val (.long y), .second] [(.ref o)])) (fun tZ kZ => XS.aloadN X0.here hx rfl (hb hby d7_0) rfl rfl kZ) ?_
  refine own_by (S' := s₁.setTop (mkF m 2 #[.val (.ref o), .val (.long y), .second] [(.ref o), (.ref o)])) (fun tZ kZ => XS.dup X0.here hx rfl (hb hby d7_1) rfl rfl kZ) ?_
  obtain ⟨T1, X1, e1, st1⟩ := getF X0 hx hZ hown (host := "") (Or.inl (hw _ (List.mem_of_getElem? (i := 73) rfl))) Via.refl e0 F_reserved_o (g := (mkF m 2 #[.val (.ref o), .val (.long y), .second] [(.ref o), (.ref o)])) rfl rfl (hb hby d7_2)
  refine own_by (S' := T1.setTop (mkF m 5 #[.val (.ref o), .val (.long y), .second] [(.long res), (.ref o)])) st1 ?_
  refine own_by (S' := T1.setTop (mkF m 6 #[.val (.ref o), .val (.long y), .second] [(.long y), (.long res), (.ref o)])) (fun tZ kZ => XS.lloadN X1.here hx rfl (hb hby d7_5) rfl kZ) ?_
  refine own_by (S' := T1.setTop (mkF m 7 #[.val (.ref o), .val (.long y), .second] [(.long (res + y)), (.ref o)])) (fun tZ kZ => XS.ladd X1.here hx rfl (hb hby d7_6) rfl kZ) ?_
  obtain ⟨T2, h2, X2, e2, W2, st2⟩ := putF X1 hx hZ hown (host := "") (Or.inl (hw _ (List.mem_of_getElem? (i := 73) rfl))) Via.refl e1 F_reserved_o Ex_o (Or.inl (hw _ (List.mem_of_getElem? (i := 74) rfl))) (hw _ (List.mem_of_getElem? (i := 6) rfl)) (ty := .long) (by decide) rfl rfl (g := (mkF m 7 #[.val (.ref o), .val (.long y), .second] [(.long (res + y)), (.ref o)])) rfl rfl (hb hby d7_7)
  have N2 := Fr.snoc X2 N0 g_o
  have Ex_o_2 := Ex_o.wr W2
  have F_traded_o_2 := F_traded_o.other W2 (Or.inr (slot_ne (Or.inl (hw _ (List.mem_of_getElem? (i := 25) rfl))) (Or.inl (hw _ (List.mem_of_getElem? (i := 74) rfl))) (by decide) (t := (.object "java/math/BigInteger")) (t' := .long) (by decide) (by decide)))
  have F_key_o_2 := F_key_o.other W2 (Or.inr (slot_ne (Or.inr (hw _ (List.mem_of_getElem? (i := 27) rfl))) (Or.inl (hw _ (List.mem_of_getElem? (i := 74) rfl))) (by decide) (t := (.object "com/example/fairgate/fairgate/processor/OrderKey")) (t' := .long) (by decide) (by decide)))
  have F_edge_o_2 := F_edge_o.other W2 (Or.inr (slot_ne (Or.inr (hw _ (List.mem_of_getElem? (i := 29) rfl))) (Or.inl (hw _ (List.mem_of_getElem? (i := 74) rfl))) (by decide) (t := (.object "com/example/fairgate/fairgate/core/EntryPoint")) (t' := .long) (by decide) (by decide)))
  have F_qty_o_2 := F_qty_o.other W2 (Or.inr (slot_ne (Or.inr (hw _ (List.mem_of_getElem? (i := 35) rfl))) (Or.inl (hw _ (List.mem_of_getElem? (i := 74) rfl))) (by decide) (t := .long) (t' := .long) (by decide) (by decide)))
  have F_remaining_o_2 := F_remaining_o.other W2 (Or.inr (slot_ne (Or.inl (hw _ (List.mem_of_getElem? (i := 41) rfl))) (Or.inl (hw _ (List.mem_of_getElem? (i := 74) rfl))) (by decide) (t := .long) (t' := .long) (by decide) (by decide)))
  have F_reserved_o_2 := F_reserved_o.same W2
  have F_cancelled_o_2 := F_cancelled_o.other W2 (Or.inr (slot_ne (Or.inl (hw _ (List.mem_of_getElem? (i := 72) rfl))) (Or.inl (hw _ (List.mem_of_getElem? (i := 74) rfl))) (by decide) (t := .boolean) (t' := .long) (by decide) (by decide)))
  have Zs2 : n0 ≤ h2.size := Nat.le_trans Z0 (Keep.of_wr W2).1
  have K2 := (Keep.refl h0 [o]).wr W2 (Or.inl (List.mem_of_getElem? (i := 0) rfl))
  refine own_by (S' := T2.setTop (mkF m 10 #[.val (.ref o), .val (.long y), .second] [])) st2 ?_
  exact own_ret0 X2 hx Bd.returns (hb hby d7_10) Bd.notSynchronized (by decide) (by decide) (show QO Z o zr q rem (res + y) can h0 n0 none T2.heap _ from by rw [e2]; exact ⟨rfl, N2, K2, ⟨Ex_o_2, F_qty_o_2, F_remaining_o_2, F_reserved_o_2, F_cancelled_o_2, F_traded_o_2, F_key_o_2, F_edge_o_2⟩⟩)
theorem d31_0 : decode prog_140_method_9_code 0 = .ok (.aload_n 0, 1) := by decide +kernel
theorem d31_1 : decode prog_140_method_9_code 1 = .ok (.dup, 1) := by decide +kernel
theorem d31_2 : decode prog_140_method_9_code 2 = .ok (.getfield 51, 3) := by decide +kernel
theorem d31_5 : decode prog_140_method_9_code 5 = .ok (.lload_n 1, 1) := by decide +kernel
theorem d31_6 : decode prog_140_method_9_code 6 = .ok (.lsub, 1) := by decide +kernel
theorem d31_7 : decode prog_140_method_9_code 7 = .ok (.putfield 51, 3) := by decide +kernel
theorem d31_10 : decode prog_140_method_9_code 10 = .ok (.return_, 1) := by decide +kernel
theorem ef_rmFr (m : MethodId) (o : Addr) (y : Int64) : entryFrame m #[(.ref o), (.long y)] 3 = mkF m 0 #[.val (.ref o), .val (.long y), .second] [] := by first | (simp [entryFrame, mkF, argsToLocals, Value.category, maxLocals]; done) | rfl
set_option maxRecDepth 65536 in
set_option maxHeartbeats 40000000 in
theorem rmFr (l : Launch) (Z : State) (a0 : Array Value) (hw : ∀ d ∈ tables_1, d.before a0 Z = true) (ws : List Jvm.Cond) (o zr : Addr) (q rem res : Int64) (can : Int32) (y : Int64) (h0 : Heap) (n0 : Nat) (Z0 : n0 ≤ h0.size) (OO : OwnO Z h0 o zr q rem res can) (g_o : n0 ≤ o) :
    MetFree l (⟨"com/example/fairgate/fairgate/processor/Order", "free", "(J)V"⟩ : MethodName) (head1 (Jvm.Cond.code (⟨"com/example/fairgate/fairgate/processor/Order", "free", "(J)V"⟩ : MethodName) prog_140_method_9_code (3 : Nat) (Option.none : Option Jvm.ClassFile.FieldType) :: ws) ({ frames := 0, cells := 0, slots := 0, locals := 0 } : Room)) (fun aZ UZ => aZ = #[(.ref o), (.long y)] ∧ Z.Warmed39 UZ.vm ∧ UZ.heap = h0) (fun _ _ _ _ _ => True) (fun _ UZ oZ VZ => ∃ vZ LZ, oZ = .returned vZ ∧ (QO Z o zr q rem (res - y) can h0 n0) vZ VZ.heap LZ ∧ FrameEnd UZ oZ VZ LZ ({ frames := 0, cells := 0, slots := 0, locals := 0 } : Room).cells ({ frames := 0, cells := 0, slots := 0, locals := 0 } : Room).slots) := by
  refine MetFree.of_bodySF (plainFor_of_name pn_2) hisR ?_
  intro p e s m args below meth c s₁ Bd hml0 hP hK
  obtain ⟨rfl, hZ, hh⟩ := hP
  have hx := Bd.exec
  have hby := Bd.bytes
  have hml : c.maxLocals = 3 := hml0
  have hown : s.vm.findClass "com/example/fairgate/fairgate/processor/Order" = some m.cls := findClass_of_methodNamed Bd.named
  have hnm := (name_of_methodNamed Bd.named Bd.method).1
  have X0 : Stand p l e ({ frames := 0, cells := 0, slots := 0, locals := 0 } : Room) s m #[(.ref o), (.long y)] below meth c s₁ [] 0 0 := Stand.of_body Bd
  have e0 : s₁.heap = h0 := by rw [← hh, Bd.state]; rfl
  have N0 := Fr.nil n0
  show OwnG p e below (OwnE s (QO Z o zr q rem (res - y) can h0 n0) ({ frames := 0, cells := 0, slots := 0, locals := 0 } : Room).cells ({ frames := 0, cells := 0, slots := 0, locals := 0 } : Room).slots) _
  refine own_by (S' := s₁.setTop (mkF m 0 #[.val (.ref o), .val (.long y), .second] [])) (fun tZ kZ => castTop (ef_rmFr m o y) kZ) ?_
  obtain ⟨Ex_o, F_qty_o, F_remaining_o, F_reserved_o, F_cancelled_o, F_traded_o, F_key_o, F_edge_o⟩ := id OO
  refine own_by (S' := s₁.setTop (mkF m 1 #[.val (.ref o), .val (.long y), .second] [(.ref o)])) (fun tZ kZ => XS.aloadN X0.here hx rfl (hb hby d31_0) rfl rfl kZ) ?_
  refine own_by (S' := s₁.setTop (mkF m 2 #[.val (.ref o), .val (.long y), .second] [(.ref o), (.ref o)])) (fun tZ kZ => XS.dup X0.here hx rfl (hb hby d31_1) rfl rfl kZ) ?_
  obtain ⟨T1, X1, e1, st1⟩ := getF X0 hx hZ hown (host := "") (Or.inl (hw _ (List.mem_of_getElem? (i := 73) rfl))) Via.refl e0 F_reserved_o (g := (mkF m 2 #[.val (.ref o), .val (.long y), .second] [(.ref o), (.ref o)])) rfl rfl (hb hby d31_2)
  refine own_by (S' := T1.setTop (mkF m 5 #[.val (.ref o), .val (.long y), .second] [(.long res), (.ref o)])) st1 ?_
  refine own_by (S' := T1.setTop (mkF m 6 #[.val (.ref o), .val (.long y), .second] [(.long y), (.long res), (.ref o)])) (fun tZ kZ => XS.lloadN X1.here hx rfl (hb hby d31_5) rfl kZ) ?_
  refine own_by (S' := T1.setTop (mkF m 7 #[.val (.ref o), .val (.long y), .second] [(.long (res - y)), (.ref o)])) (fun tZ kZ => XS.lsub X1.here hx rfl (hb hby d31_6) rfl kZ) ?_
  obtain ⟨T2, h2, X2, e2, W2, st2⟩ := putF X1 hx hZ hown (host := "") (Or.inl (hw _ (List.mem_of_getElem? (i := 73) rfl))) Via.refl e1 F_reserved_o Ex_o (Or.inl (hw _ (List.mem_of_getElem? (i := 74) rfl))) (hw _ (List.mem_of_getElem? (i := 6) rfl)) (ty := .long) (by decide) rfl rfl (g := (mkF m 7 #[.val (.ref o), .val (.long y), .second] [(.long (res - y)), (.ref o)])) rfl rfl (hb hby d31_7)
  have N2 := Fr.snoc X2 N0 g_o
  have Ex_o_2 := Ex_o.wr W2
  have F_traded_o_2 := F_traded_o.other W2 (Or.inr (slot_ne (Or.inl (hw _ (List.mem_of_getElem? (i := 25) rfl))) (Or.inl (hw _ (List.mem_of_getElem? (i := 74) rfl))) (by decide) (t := (.object "java/math/BigInteger")) (t' := .long) (by decide) (by decide)))
  have F_key_o_2 := F_key_o.other W2 (Or.inr (slot_ne (Or.inr (hw _ (List.mem_of_getElem? (i := 27) rfl))) (Or.inl (hw _ (List.mem_of_getElem? (i := 74) rfl))) (by decide) (t := (.object "com/example/fairgate/fairgate/processor/OrderKey")) (t' := .long) (by decide) (by decide)))
  have F_edge_o_2 := F_edge_o.other W2 (Or.inr (slot_ne (Or.inr (hw _ (List.mem_of_getElem? (i := 29) rfl))) (Or.inl (hw _ (List.mem_of_getElem? (i := 74) rfl))) (by decide) (t := (.object "com/example/fairgate/fairgate/core/EntryPoint")) (t' := .long) (by decide) (by decide)))
  have F_qty_o_2 := F_qty_o.other W2 (Or.inr (slot_ne (Or.inr (hw _ (List.mem_of_getElem? (i := 35) rfl))) (Or.inl (hw _ (List.mem_of_getElem? (i := 74) rfl))) (by decide) (t := .long) (t' := .long) (by decide) (by decide)))
  have F_remaining_o_2 := F_remaining_o.other W2 (Or.inr (slot_ne (Or.inl (hw _ (List.mem_of_getElem? (i := 41) rfl))) (Or.inl (hw _ (List.mem_of_getElem? (i := 74) rfl))) (by decide) (t := .long) (t' := .long) (by decide) (by decide)))
  have F_reserved_o_2 := F_reserved_o.same W2
  have F_cancelled_o_2 := F_cancelled_o.other W2 (Or.inr (slot_ne (Or.inl (hw _ (List.mem_of_getElem? (i := 72) rfl))) (Or.inl (hw _ (List.mem_of_getElem? (i := 74) rfl))) (by decide) (t := .boolean) (t' := .long) (by decide) (by decide)))
  have Zs2 : n0 ≤ h2.size := Nat.le_trans Z0 (Keep.of_wr W2).1
  have K2 := (Keep.refl h0 [o]).wr W2 (Or.inl (List.mem_of_getElem? (i := 0) rfl))
  refine own_by (S' := T2.setTop (mkF m 10 #[.val (.ref o), .val (.long y), .second] [])) st2 ?_
  exact own_ret0 X2 hx Bd.returns (hb hby d31_10) Bd.notSynchronized (by decide) (by decide) (show QO Z o zr q rem (res - y) can h0 n0 none T2.heap _ from by rw [e2]; exact ⟨rfl, N2, K2, ⟨Ex_o_2, F_qty_o_2, F_remaining_o_2, F_reserved_o_2, F_cancelled_o_2, F_traded_o_2, F_key_o_2, F_edge_o_2⟩⟩)
theorem d32_0 : decode prog_140_method_15_code 0 = .ok (.aload_n 0, 1) := by decide +kernel
theorem d32_1 : decode prog_140_method_15_code 1 = .ok (.iconst 1, 1) := by decide +kernel
theorem d32_2 : decode prog_140_method_15_code 2 = .ok (.putfield 48, 3) := by decide +kernel
theorem d32_5 : decode prog_140_method_15_code 5 = .ok (.return_, 1) := by decide +kernel
theorem ef_rmCn (m : MethodId) (o : Addr) : entryFrame m #[(.ref o)] 1 = mkF m 0 #[.val (.ref o)] [] := by first | (simp [entryFrame, mkF, argsToLocals, Value.category, maxLocals]; done) | rfl
set_option maxRecDepth 65536 in
set_option maxHeartbeats 40000000 in
theorem rmCn (l : Launch) (Z : State) (a0 : Array Value) (hw : ∀ d ∈ tables_1, d.before a0 Z = true) (ws : List Jvm.Cond) (o zr : Addr) (q rem res : Int64) (can : Int32) (h0 : Heap) (n0 : Nat) (Z0 : n0 ≤ h0.size) (OO : OwnO Z h0 o zr q rem res can) (g_o : n0 ≤ o) :
    MetFree l (⟨"com/example/fairgate/fairgate/processor/Order", "cancel", "()V"⟩ : MethodName) (head1 (Jvm.Cond.code (⟨"com/example/fairgate/fairgate/processor/Order", "cancel", "()V"⟩ : MethodName) prog_140_method_15_code (1 : Nat) (Option.none : Option Jvm.ClassFile.FieldType) :: ws) ({ frames := 0, cells := 0, slots := 0, locals := 0 } : Room)) (fun aZ UZ => aZ = #[(.ref o)] ∧ Z.Warmed39 UZ.vm ∧ UZ.heap = h0) (fun _ _ _ _ _ => True) (fun _ UZ oZ VZ => ∃ vZ LZ, oZ = .returned vZ ∧ (QO Z o zr q rem res 1 h0 n0) vZ VZ.heap LZ ∧ FrameEnd UZ oZ VZ LZ ({ frames := 0, cells := 0, slots := 0, locals := 0 } : Room).cells ({ frames := 0, cells := 0, slots := 0, locals := 0 } : Room).slots) := by
  refine MetFree.of_bodySF (plainFor_of_name pn_2) hisR ?_
  intro p e s m args below meth c s₁ Bd hml0 hP hK
  obtain ⟨rfl, hZ, hh⟩ := hP
  have hx := Bd.exec
  have hby := Bd.bytes
  have hml : c.maxLocals = 1 := hml0
  have hown : s.vm.findClass "com/example/fairgate/fairgate/processor/Order" = some m.cls := findClass_of_methodNamed Bd.named
  have hnm := (name_of_methodNamed Bd.named Bd.method).1
  have X0 : Stand p l e ({ frames := 0, cells := 0, slots := 0, locals := 0 } : Room) s m #[(.ref o)] below meth c s₁ [] 0 0 := Stand.of_body Bd
  have e0 : s₁.heap = h0 := by rw [← hh, Bd.state]; rfl
  have N0 := Fr.nil n0
  show OwnG p e below (OwnE s (QO Z o zr q rem res 1 h0 n0) ({ frames := 0, cells := 0, slots := 0, locals := 0 } : Room).cells ({ frames := 0, cells := 0, slots := 0, locals := 0 } : Room).slots) _
  refine own_by (S' := s₁.setTop (mkF m 0 #[.val (.ref o)] [])) (fun tZ kZ => castTop (ef_rmCn m o) kZ) ?_
  obtain ⟨Ex_o, F_qty_o, F_remaining_o, F_reserved_o, F_cancelled_o, F_traded_o, F_key_o, F_edge_o⟩ := id OO
  refine own_by (S' := s₁.setTop (mkF m 1 #[.val (.ref o)] [(.ref o)])) (fun tZ kZ => XS.aloadN X0.here hx rfl (hb hby d32_0) rfl rfl kZ) ?_
  refine own_by (S' := s₁.setTop (mkF m 2 #[.val (.ref o)] [(.int (1 : Int32)), (.ref o)])) (fun tZ kZ => XS.iconst X0.here hx rfl (hb hby d32_1) kZ) ?_
  obtain ⟨T1, h1, X1, e1, W1, st1⟩ := putFN X0 hx hZ hown (hw _ (List.mem_of_getElem? (i := 71) rfl)) Via.refl e0 F_cancelled_o Ex_o (Or.inl (hw _ (List.mem_of_getElem? (i := 72) rfl))) (hw _ (List.mem_of_getElem? (i := 6) rfl)) (ty := .boolean) (v' := (.int (1 : Int32))) (by decide) rfl rfl (g := (mkF m 2 #[.val (.ref o)] [(.int (1 : Int32)), (.ref o)])) rfl rfl (hb hby d32_2)
  have N1 := Fr.snoc X1 N0 g_o
  have Ex_o_1 := Ex_o.wr W1
  have F_traded_o_1 := F_traded_o.other W1 (Or.inr (slot_ne (Or.inl (hw _ (List.mem_of_getElem? (i := 25) rfl))) (Or.inl (hw _ (List.mem_of_getElem? (i := 72) rfl))) (by decide) (t := (.object "java/math/BigInteger")) (t' := .boolean) (by decide) (by decide)))
  have F_key_o_1 := F_key_o.other W1 (Or.inr (slot_ne (Or.inr (hw _ (List.mem_of_getElem? (i := 27) rfl))) (Or.inl (hw _ (List.mem_of_getElem? (i := 72) rfl))) (by decide) (t := (.object "com/example/fairgate/fairgate/processor/OrderKey")) (t' := .boolean) (by decide) (by decide)))
  have F_edge_o_1 := F_edge_o.other W1 (Or.inr (slot_ne (Or.inr (hw _ (List.mem_of_getElem? (i := 29) rfl))) (Or.inl (hw _ (List.mem_of_getElem? (i := 72) rfl))) (by decide) (t := (.object "com/example/fairgate/fairgate/core/EntryPoint")) (t' := .boolean) (by decide) (by decide)))
  have F_qty_o_1 := F_qty_o.other W1 (Or.inr (slot_ne (Or.inr (hw _ (List.mem_of_getElem? (i := 35) rfl))) (Or.inl (hw _ (List.mem_of_getElem? (i := 72) rfl))) (by decide) (t := .long) (t' := .boolean) (by decide) (by decide)))
  have F_remaining_o_1 := F_remaining_o.other W1 (Or.inr (slot_ne (Or.inl (hw _ (List.mem_of_getElem? (i := 41) rfl))) (Or.inl (hw _ (List.mem_of_getElem? (i := 72) rfl))) (by decide) (t := .long) (t' := .boolean) (by decide) (by decide)))
  have F_reserved_o_1 := F_reserved_o.other W1 (Or.inr (slot_ne (Or.inl (hw _ (List.mem_of_getElem? (i := 74) rfl))) (Or.inl (hw _ (List.mem_of_getElem? (i := 72) rfl))) (by decide) (t := .long) (t' := .boolean) (by decide) (by decide)))
  have F_cancelled_o_1 := F_cancelled_o.same W1
  have Zs1 : n0 ≤ h1.size := Nat.le_trans Z0 (Keep.of_wr W1).1
  have K1 := (Keep.refl h0 [o]).wr W1 (Or.inl (List.mem_of_getElem? (i := 0) rfl))
  refine own_by (S' := T1.setTop (mkF m 5 #[.val (.ref o)] [])) st1 ?_
  exact own_ret0 X1 hx Bd.returns (hb hby d32_5) Bd.notSynchronized (by decide) (by decide) (show QO Z o zr q rem res 1 h0 n0 none T1.heap _ from by rw [e1]; exact ⟨rfl, N1, K1, ⟨Ex_o_1, F_qty_o_1, F_remaining_o_1, F_reserved_o_1, F_cancelled_o_1, F_traded_o_1, F_key_o_1, F_edge_o_1⟩⟩)
theorem d9_0 : decode prog_159_method_10_code 0 = .ok (.aload_n 0, 1) := by decide +kernel
theorem d9_1 : decode prog_159_method_10_code 1 = .ok (.getfield 26, 3) := by decide +kernel
theorem d9_4 : decode prog_159_method_10_code 4 = .ok (.lreturn, 1) := by decide +kernel
theorem ef_rmTq (m : MethodId) (u : Addr) : entryFrame m #[(.ref u)] 1 = mkF m 0 #[.val (.ref u)] [] := by first | (simp [entryFrame, mkF, argsToLocals, Value.category, maxLocals]; done) | rfl
set_option maxRecDepth 65536 in
set_option maxHeartbeats 40000000 in
theorem rmTq (l : Launch) (Z : State) (a0 : Array Value) (hw : ∀ d ∈ tables_1, d.before a0 Z = true) (ws : List Jvm.Cond) (u : Addr) (q : Int64) (h0 : Heap) (n0 : Nat) (Z0 : n0 ≤ h0.size) (OT : OwnT Z h0 u q) :
    MetFree l (⟨"com/example/fairgate/fairgate/processor/Trade", "qty", "()J"⟩ : MethodName) (head1 (Jvm.Cond.code (⟨"com/example/fairgate/fairgate/processor/Trade", "qty", "()J"⟩ : MethodName) prog_159_method_10_code (1 : Nat) (Option.some Jvm.ClassFile.FieldType.long) :: ws) ({ frames := 0, cells := 0, slots := 0, locals := 0 } : Room)) (fun aZ UZ => aZ = #[(.ref u)] ∧ Z.Warmed39 UZ.vm ∧ UZ.heap = h0) (fun _ _ _ _ _ => True) (fun _ UZ oZ VZ => ∃ vZ LZ, oZ = .returned vZ ∧ (QSame (some (.long q)) h0 n0) vZ VZ.heap LZ ∧ FrameEnd UZ oZ VZ LZ ({ frames := 0, cells := 0, slots := 0, locals := 0 } : Room).cells ({ frames := 0, cells := 0, slots := 0, locals := 0 } : Room).slots) := by
  refine MetFree.of_bodySF (plainFor_of_name pn_3) hisR ?_
  intro p e s m args below meth c s₁ Bd hml0 hP hK
  obtain ⟨rfl, hZ, hh⟩ := hP
  have hx := Bd.exec
  have hby := Bd.bytes
  have hml : c.maxLocals = 1 := hml0
  have hown : s.vm.findClass "com/example/fairgate/fairgate/processor/Trade" = some m.cls := findClass_of_methodNamed Bd.named
  have hnm := (name_of_methodNamed Bd.named Bd.method).1
  have X0 : Stand p l e ({ frames := 0, cells := 0, slots := 0, locals := 0 } : Room) s m #[(.ref u)] below meth c s₁ [] 0 0 := Stand.of_body Bd
  have e0 : s₁.heap = h0 := by rw [← hh, Bd.state]; rfl
  have N0 := Fr.nil n0
  show OwnG p e below (OwnE s (QSame (some (.long q)) h0 n0) ({ frames := 0, cells := 0, slots := 0, locals := 0 } : Room).cells ({ frames := 0, cells := 0, slots := 0, locals := 0 } : Room).slots) _
  refine own_by (S' := s₁.setTop (mkF m 0 #[.val (.ref u)] [])) (fun tZ kZ => castTop (ef_rmTq m u) kZ) ?_
  refine own_by (S' := s₁.setTop (mkF m 1 #[.val (.ref u)] [(.ref u)])) (fun tZ kZ => XS.aloadN X0.here hx rfl (hb hby d9_0) rfl rfl kZ) ?_
  obtain ⟨T1, X1, e1, st1⟩ := getF X0 hx hZ hown (host := "") (Or.inl (hw _ (List.mem_of_getElem? (i := 64) rfl))) Via.refl e0 OT.2.2 (g := (mkF m 1 #[.val (.ref u)] [(.ref u)])) rfl rfl (hb hby d9_1)
  refine own_by (S' := T1.setTop (mkF m 4 #[.val (.ref u)] [(.long q)])) st1 ?_
  exact own_retL X1 hx Bd.returns  (hb hby d9_4) Bd.notSynchronized (by decide) (by decide) ⟨rfl, N0, e1⟩
theorem d10_0 : decode prog_159_method_9_code 0 = .ok (.aload_n 0, 1) := by decide +kernel
theorem d10_1 : decode prog_159_method_9_code 1 = .ok (.getfield 23, 3) := by decide +kernel
theorem d10_4 : decode prog_159_method_9_code 4 = .ok (.lreturn, 1) := by decide +kernel
theorem ef_rmTp (m : MethodId) (u : Addr) : entryFrame m #[(.ref u)] 1 = mkF m 0 #[.val (.ref u)] [] := by first | (simp [entryFrame, mkF, argsToLocals, Value.category, maxLocals]; done) | rfl
set_option maxRecDepth 65536 in
set_option maxHeartbeats 40000000 in
theorem rmTp (l : Launch) (Z : State) (a0 : Array Value) (hw : ∀ d ∈ tables_1, d.before a0 Z = true) (ws : List Jvm.Cond) (u : Addr) (q : Int64) (h0 : Heap) (n0 : Nat) (Z0 : n0 ≤ h0.size) (OT : OwnT Z h0 u q) :
    MetFree l (⟨"com/example/fairgate/fairgate/processor/Trade", "price", "()J"⟩ : MethodName) (head1 (Jvm.Cond.code (⟨"com/example/fairgate/fairgate/processor/Trade", "price", "()J"⟩ : MethodName) prog_159_method_9_code (1 : Nat) (Option.some Jvm.ClassFile.FieldType.long) :: ws) ({ frames := 0, cells := 0, slots := 0, locals := 0 } : Room)) (fun aZ UZ => aZ = #[(.ref u)] ∧ Z.Warmed39 UZ.vm ∧ UZ.heap = h0) (fun _ _ _ _ _ => True) (fun _ UZ oZ VZ => ∃ vZ LZ, oZ = .returned vZ ∧ (QSame (some (.long (0 : Int64))) h0 n0) vZ VZ.heap LZ ∧ FrameEnd UZ oZ VZ LZ ({ frames := 0, cells := 0, slots := 0, locals := 0 } : Room).cells ({ frames := 0, cells := 0, slots := 0, locals := 0 } : Room).slots) := by
  refine MetFree.of_bodySF (plainFor_of_name pn_3) hisR ?_
  intro p e s m args below meth c s₁ Bd hml0 hP hK
  obtain ⟨rfl, hZ, hh⟩ := hP
  have hx := Bd.exec
  have hby := Bd.bytes
  have hml : c.maxLocals = 1 := hml0
  have hown : s.vm.findClass "com/example/fairgate/fairgate/processor/Trade" = some m.cls := findClass_of_methodNamed Bd.named
  have hnm := (name_of_methodNamed Bd.named Bd.method).1
  have X0 : Stand p l e ({ frames := 0, cells := 0, slots := 0, locals := 0 } : Room) s m #[(.ref u)] below meth c s₁ [] 0 0 := Stand.of_body Bd
  have e0 : s₁.heap = h0 := by rw [← hh, Bd.state]; rfl
  have N0 := Fr.nil n0
  show OwnG p e below (OwnE s (QSame (some (.long (0 : Int64))) h0 n0) ({ frames := 0, cells := 0, slots := 0, locals := 0 } : Room).cells ({ frames := 0, cells := 0, slots := 0, locals := 0 } : Room).slots) _
  refine own_by (S' := s₁.setTop (mkF m 0 #[.val (.ref u)] [])) (fun tZ kZ => castTop (ef_rmTp m u) kZ) ?_
  refine own_by (S' := s₁.setTop (mkF m 1 #[.val (.ref u)] [(.ref u)])) (fun tZ kZ => XS.aloadN X0.here hx rfl (hb hby d10_0) rfl rfl kZ) ?_
  obtain ⟨T1, X1, e1, st1⟩ := getF X0 hx hZ hown (host := "") (Or.inl (hw _ (List.mem_of_getElem? (i := 62) rfl))) Via.refl e0 OT.2.1 (g := (mkF m 1 #[.val (.ref u)] [(.ref u)])) rfl rfl (hb hby d10_1)
  refine own_by (S' := T1.setTop (mkF m 4 #[.val (.ref u)] [(.long (0 : Int64))])) st1 ?_
  exact own_retL X1 hx Bd.returns  (hb hby d10_4) Bd.notSynchronized (by decide) (by decide) ⟨rfl, N0, e1⟩
theorem d15_0 : decode prog_140_method_20_code 0 = .ok (.aload_n 0, 1) := by decide +kernel
theorem d15_1 : decode prog_140_method_20_code 1 = .ok (.getfield 34, 3) := by decide +kernel
theorem d15_4 : decode prog_140_method_20_code 4 = .ok (.aload_n 0, 1) := by decide +kernel
theorem d15_5 : decode prog_140_method_20_code 5 = .ok (.getfield 45, 3) := by decide +kernel
theorem d15_8 : decode prog_140_method_20_code 8 = .ok (.lsub, 1) := by decide +kernel
theorem d15_9 : decode prog_140_method_20_code 9 = .ok (.lreturn, 1) := by decide +kernel
theorem ef_rmCum (m : MethodId) (o : Addr) : entryFrame m #[(.ref o)] 1 = mkF m 0 #[.val (.ref o)] [] := by first | (simp [entryFrame, mkF, argsToLocals, Value.category, maxLocals]; done) | rfl
set_option maxRecDepth 65536 in
set_option maxHeartbeats 40000000 in
theorem rmCum (l : Launch) (Z : State) (a0 : Array Value) (hw : ∀ d ∈ tables_1, d.before a0 Z = true) (ws : List Jvm.Cond) (o zr : Addr) (q rem res : Int64) (can : Int32) (h0 : Heap) (n0 : Nat) (Z0 : n0 ≤ h0.size) (OO : OwnO Z h0 o zr q rem res can) :
    MetFree l (⟨"com/example/fairgate/fairgate/processor/Order", "cumQty", "()J"⟩ : MethodName) (head1 (Jvm.Cond.code (⟨"com/example/fairgate/fairgate/processor/Order", "cumQty", "()J"⟩ : MethodName) prog_140_method_20_code (1 : Nat) (Option.some Jvm.ClassFile.FieldType.long) :: ws) ({ frames := 0, cells := 0, slots := 0, locals := 0 } : Room)) (fun aZ UZ => aZ = #[(.ref o)] ∧ Z.Warmed39 UZ.vm ∧ UZ.heap = h0) (fun _ _ _ _ _ => True) (fun _ UZ oZ VZ => ∃ vZ LZ, oZ = .returned vZ ∧ (QSame (some (.long (q - rem))) h0 n0) vZ VZ.heap LZ ∧ FrameEnd UZ oZ VZ LZ ({ frames := 0, cells := 0, slots := 0, locals := 0 } : Room).cells ({ frames := 0, cells := 0, slots := 0, locals := 0 } : Room).slots) := by
  refine MetFree.of_bodySF (plainFor_of_name pn_2) hisR ?_
  intro p e s m args below meth c s₁ Bd hml0 hP hK
  obtain ⟨rfl, hZ, hh⟩ := hP
  have hx := Bd.exec
  have hby := Bd.bytes
  have hml : c.maxLocals = 1 := hml0
  have hown : s.vm.findClass "com/example/fairgate/fairgate/processor/Order" = some m.cls := findClass_of_methodNamed Bd.named
  have hnm := (name_of_methodNamed Bd.named Bd.method).1
  have X0 : Stand p l e ({ frames := 0, cells := 0, slots := 0, locals := 0 } : Room) s m #[(.ref o)] below meth c s₁ [] 0 0 := Stand.of_body Bd
  have e0 : s₁.heap = h0 := by rw [← hh, Bd.state]; rfl
  have N0 := Fr.nil n0
  show OwnG p e below (OwnE s (QSame (some (.long (q - rem))) h0 n0) ({ frames := 0, cells := 0, slots := 0, locals := 0 } : Room).cells ({ frames := 0, cells := 0, slots := 0, locals := 0 } : Room).slots) _
  refine own_by (S' := s₁.setTop (mkF m 0 #[.val (.ref o)] [])) (fun tZ kZ => castTop (ef_rmCum m o) kZ) ?_
  obtain ⟨Ex_o, F_qty_o, F_remaining_o, F_reserved_o, F_cancelled_o, F_traded_o, F_key_o, F_edge_o⟩ := id OO
  refine own_by (S' := s₁.setTop (mkF m 1 #[.val (.ref o)] [(.ref o)])) (fun tZ kZ => XS.aloadN X0.here hx rfl (hb hby d15_0) rfl rfl kZ) ?_
  obtain ⟨T1, X1, e1, st1⟩ := getF X0 hx hZ hown (host := "") (Or.inl (hw _ (List.mem_of_getElem? (i := 34) rfl))) Via.refl e0 F_qty_o (g := (mkF m 1 #[.val (.ref o)] [(.ref o)])) rfl rfl (hb hby d15_1)
  refine own_by (S' := T1.setTop (mkF m 4 #[.val (.ref o)] [(.long q)])) st1 ?_
  refine own_by (S' := T1.setTop (mkF m 5 #[.val (.ref o)] [(.ref o), (.long q)])) (fun tZ kZ => XS.aloadN X1.here hx rfl (hb hby d15_4) rfl rfl kZ) ?_
  obtain ⟨T2, X2, e2, st2⟩ := getF X1 hx hZ hown (host := "") (Or.inl (hw _ (List.mem_of_getElem? (i := 40) rfl))) Via.refl e1 F_remaining_o (g := (mkF m 5 #[.val (.ref o)] [(.ref o), (.long q)])) rfl rfl (hb hby d15_5)
  refine own_by (S' := T2.setTop (mkF m 8 #[.val (.ref o)] [(.long rem), (.long q)])) st2 ?_
  refine own_by (S' := T2.setTop (mkF m 9 #[.val (.ref o)] [(.long (q - rem))])) (fun tZ kZ => XS.lsub X2.here hx rfl (hb hby d15_8) rfl kZ) ?_
  exact own_retL X2 hx Bd.returns  (hb hby d15_9) Bd.notSynchronized (by decide) (by decide) ⟨rfl, N0, e2⟩
theorem d11_0 : decode jdk_2097_method_29_code 0 = .ok (.lload_n 0, 1) := by decide +kernel
theorem d11_1 : decode jdk_2097_method_29_code 1 = .ok (.lconst 0, 1) := by decide +kernel
theorem d11_2 : decode jdk_2097_method_29_code 2 = .ok (.lcmp, 1) := by decide +kernel
theorem d11_3 : decode jdk_2097_method_29_code 3 = .ok (.ifCond .ne 7, 3) := by decide +kernel
theorem d11_6 : decode jdk_2097_method_29_code 6 = .ok (.getstatic 22, 3) := by decide +kernel
theorem d11_9 : decode jdk_2097_method_29_code 9 = .ok (.areturn, 1) := by decide +kernel
theorem d11_10 : decode jdk_2097_method_29_code 10 = .ok (.lload_n 0, 1) := by decide +kernel
theorem d11_11 : decode jdk_2097_method_29_code 11 = .ok (.lconst 0, 1) := by decide +kernel
theorem d11_12 : decode jdk_2097_method_29_code 12 = .ok (.lcmp, 1) := by decide +kernel
theorem d11_13 : decode jdk_2097_method_29_code 13 = .ok (.ifCond .le 18, 3) := by decide +kernel
theorem d11_16 : decode jdk_2097_method_29_code 16 = .ok (.lload_n 0, 1) := by decide +kernel
theorem d11_17 : decode jdk_2097_method_29_code 17 = .ok (.ldc2_w 345, 3) := by decide +kernel
theorem d11_20 : decode jdk_2097_method_29_code 20 = .ok (.lcmp, 1) := by decide +kernel
theorem d11_21 : decode jdk_2097_method_29_code 21 = .ok (.ifCond .gt 10, 3) := by decide +kernel
theorem d11_24 : decode jdk_2097_method_29_code 24 = .ok (.getstatic 347, 3) := by decide +kernel
theorem d11_27 : decode jdk_2097_method_29_code 27 = .ok (.lload_n 0, 1) := by decide +kernel
theorem d11_28 : decode jdk_2097_method_29_code 28 = .ok (.l2i, 1) := by decide +kernel
theorem d11_29 : decode jdk_2097_method_29_code 29 = .ok (.aaload, 1) := by decide +kernel
theorem d11_30 : decode jdk_2097_method_29_code 30 = .ok (.areturn, 1) := by decide +kernel
theorem d11_31 : decode jdk_2097_method_29_code 31 = .ok (.lload_n 0, 1) := by decide +kernel
theorem d11_32 : decode jdk_2097_method_29_code 32 = .ok (.lconst 0, 1) := by decide +kernel
theorem d11_33 : decode jdk_2097_method_29_code 33 = .ok (.lcmp, 1) := by decide +kernel
theorem d11_34 : decode jdk_2097_method_29_code 34 = .ok (.ifCond .ge 19, 3) := by decide +kernel
theorem d11_37 : decode jdk_2097_method_29_code 37 = .ok (.lload_n 0, 1) := by decide +kernel
theorem d11_38 : decode jdk_2097_method_29_code 38 = .ok (.ldc2_w 351, 3) := by decide +kernel
theorem d11_41 : decode jdk_2097_method_29_code 41 = .ok (.lcmp, 1) := by decide +kernel
theorem d11_42 : decode jdk_2097_method_29_code 42 = .ok (.ifCond .lt 11, 3) := by decide +kernel
theorem d11_45 : decode jdk_2097_method_29_code 45 = .ok (.getstatic 353, 3) := by decide +kernel
theorem d11_48 : decode jdk_2097_method_29_code 48 = .ok (.lload_n 0, 1) := by decide +kernel
theorem d11_49 : decode jdk_2097_method_29_code 49 = .ok (.lneg, 1) := by decide +kernel
theorem d11_50 : decode jdk_2097_method_29_code 50 = .ok (.l2i, 1) := by decide +kernel
theorem d11_51 : decode jdk_2097_method_29_code 51 = .ok (.aaload, 1) := by decide +kernel
theorem d11_52 : decode jdk_2097_method_29_code 52 = .ok (.areturn, 1) := by decide +kernel
theorem d11_53 : decode jdk_2097_method_29_code 53 = .ok (.new 23, 3) := by decide +kernel
theorem d11_56 : decode jdk_2097_method_29_code 56 = .ok (.dup, 1) := by decide +kernel
theorem d11_57 : decode jdk_2097_method_29_code 57 = .ok (.lload_n 0, 1) := by decide +kernel
theorem d11_58 : decode jdk_2097_method_29_code 58 = .ok (.invokespecial 356, 3) := by decide +kernel
theorem d11_61 : decode jdk_2097_method_29_code 61 = .ok (.areturn, 1) := by decide +kernel
theorem pn_4 : plainName "java/math/BigInteger" = true := by first | (simp [plainName, overriddenIn]; done) | decide +kernel
theorem ef_rmV0 (m : MethodId) : entryFrame m #[(.long (0 : Int64))] 2 = mkF m 0 #[.val (.long (0 : Int64)), .second] [] := by first | (simp [entryFrame, mkF, argsToLocals, Value.category, maxLocals]; done) | rfl
set_option maxRecDepth 65536 in
set_option maxHeartbeats 40000000 in
theorem rmV0 (l : Launch) (Z : State) (a0 : Array Value) (hw : ∀ d ∈ tables_1, d.before a0 Z = true) (ws : List Jvm.Cond) (hB : Heap) (zr mz pa za rmo lt mir : Addr) (mc pk zc lc : Cell) (h0 : Heap) (n0 : Nat) (Z0 : n0 ≤ h0.size) (Eb : Ext hB h0) (WD : OwnWd Z a0 hB zr mz pa za rmo lt mir mc pk zc lc) :
    MetFree l (⟨"java/math/BigInteger", "valueOf", "(J)Ljava/math/BigInteger;"⟩ : MethodName) (head1 (Jvm.Cond.code (⟨"java/math/BigInteger", "valueOf", "(J)Ljava/math/BigInteger;"⟩ : MethodName) jdk_2097_method_29_code (2 : Nat) (Option.some (Jvm.ClassFile.FieldType.object "java/math/BigInteger")) :: ws) ({ frames := 0, cells := 0, slots := 0, locals := 0 } : Room)) (fun aZ UZ => aZ = #[(.long (0 : Int64))] ∧ Z.Warmed39 UZ.vm ∧ UZ.heap = h0) (fun _ _ _ _ _ => True) (fun _ UZ oZ VZ => ∃ vZ LZ, oZ = .returned vZ ∧ (QSame (some (.ref zr)) h0 n0) vZ VZ.heap LZ ∧ FrameEnd UZ oZ VZ LZ ({ frames := 0, cells := 0, slots := 0, locals := 0 } : Room).cells ({ frames := 0, cells := 0, slots := 0, locals := 0 } : Room).slots) := by
  refine MetFree.of_bodySF (plainFor_of_name pn_4) hisR ?_
  intro p e s m args below meth c s₁ Bd hml0 hP hK
  obtain ⟨rfl, hZ, hh⟩ := hP
  have hx := Bd.exec
  have hby := Bd.bytes
  have hml : c.maxLocals = 2 := hml0
  have hown : s.vm.findClass "java/math/BigInteger" = some m.cls := findClass_of_methodNamed Bd.named
  have hnm := (name_of_methodNamed Bd.named Bd.method).1
  have X0 : Stand p l e ({ frames := 0, cells := 0, slots := 0, locals := 0 } : Room) s m #[(.long (0 : Int64))] below meth c s₁ [] 0 0 := Stand.of_body Bd
  have e0 : s₁.heap = h0 := by rw [← hh, Bd.state]; rfl
  have N0 := Fr.nil n0
  show OwnG p e below (OwnE s (QSame (some (.ref zr)) h0 n0) ({ frames := 0, cells := 0, slots := 0, locals := 0 } : Room).cells ({ frames := 0, cells := 0, slots := 0, locals := 0 } : Room).slots) _
  refine own_by (S' := s₁.setTop (mkF m 0 #[.val (.long (0 : Int64)), .second] [])) (fun tZ kZ => castTop (ef_rmV0 m) kZ) ?_
  obtain ⟨wS, wE, wF, wM, wA, wAz, wP, wPA, wPz, wPe, wT, wTA, wTz, wTe, wH, wHF, wL, wLA, wLz, wMi⟩ := id WD
  refine own_by (S' := s₁.setTop (mkF m 1 #[.val (.long (0 : Int64)), .second] [(.long (0 : Int64))])) (fun tZ kZ => XS.lloadN X0.here hx rfl (hb hby d11_0) rfl kZ) ?_
  refine own_by (S' := s₁.setTop (mkF m 2 #[.val (.long (0 : Int64)), .second] [(.long (0 : Int64)), (.long (0 : Int64))])) (fun tZ kZ => XS.lconst X0.here hx rfl (hb hby d11_1) kZ) ?_
  refine own_by (S' := s₁.setTop (mkF m 3 #[.val (.long (0 : Int64)), .second] [(.int (lcmpW (0 : Int64) (0 : Int64)))])) (fun tZ kZ => XS.lcmp X0.here hx rfl (hb hby d11_2) rfl kZ) ?_
  refine own_by (S' := s₁.setTop (mkF m 6 #[.val (.long (0 : Int64)), .second] [])) (fun tZ kZ => XS.ifNo X0.here hx rfl (hb hby d11_3) rfl ((if0 _ _).trans (teq ((lw_eq _ _).mpr rfl)).2) kZ) ?_
  obtain ⟨T1, X1, e1, st1⟩ := getS2 X0 hx hZ hown (host := "") (Or.inl (hw _ (List.mem_of_getElem? (i := 98) rfl))) Via.refl e0 (wS.ext Eb) (g := (mkF m 6 #[.val (.long (0 : Int64)), .second] [])) rfl (hb hby d11_6)
  refine own_by (S' := T1.setTop (mkF m 9 #[.val (.long (0 : Int64)), .second] [(.ref zr)])) st1 ?_
  exact own_retA X1 hx Bd.returns rfl rfl (hb hby d11_9) Bd.notSynchronized (by decide) (by decide) ⟨rfl, N0, e1⟩
theorem d33_0 : decode jdk_2097_method_30_code 0 = .ok (.aload_n 0, 1) := by decide +kernel
theorem d33_1 : decode jdk_2097_method_30_code 1 = .ok (.invokespecial 3, 3) := by decide +kernel
theorem d33_4 : decode jdk_2097_method_30_code 4 = .ok (.lload_n 1, 1) := by decide +kernel
theorem d33_5 : decode jdk_2097_method_30_code 5 = .ok (.lconst 0, 1) := by decide +kernel
theorem d33_6 : decode jdk_2097_method_30_code 6 = .ok (.lcmp, 1) := by decide +kernel
theorem d33_7 : decode jdk_2097_method_30_code 7 = .ok (.ifCond .ge 14, 3) := by decide +kernel
theorem d33_10 : decode jdk_2097_method_30_code 10 = .ok (.lload_n 1, 1) := by decide +kernel
theorem d33_11 : decode jdk_2097_method_30_code 11 = .ok (.lneg, 1) := by decide +kernel
theorem d33_12 : decode jdk_2097_method_30_code 12 = .ok (.lstore_n 1, 1) := by decide +kernel
theorem d33_13 : decode jdk_2097_method_30_code 13 = .ok (.aload_n 0, 1) := by decide +kernel
theorem d33_14 : decode jdk_2097_method_30_code 14 = .ok (.iconst (-1), 1) := by decide +kernel
theorem d33_15 : decode jdk_2097_method_30_code 15 = .ok (.putfield 32, 3) := by decide +kernel
theorem d33_18 : decode jdk_2097_method_30_code 18 = .ok (.goto 8, 3) := by decide +kernel
theorem d33_21 : decode jdk_2097_method_30_code 21 = .ok (.aload_n 0, 1) := by decide +kernel
theorem d33_22 : decode jdk_2097_method_30_code 22 = .ok (.iconst 1, 1) := by decide +kernel
theorem d33_23 : decode jdk_2097_method_30_code 23 = .ok (.putfield 32, 3) := by decide +kernel
theorem d33_26 : decode jdk_2097_method_30_code 26 = .ok (.lload_n 1, 1) := by decide +kernel
theorem d33_27 : decode jdk_2097_method_30_code 27 = .ok (.bipush 32, 2) := by decide +kernel
theorem d33_29 : decode jdk_2097_method_30_code 29 = .ok (.lushr, 1) := by decide +kernel
theorem d33_30 : decode jdk_2097_method_30_code 30 = .ok (.l2i, 1) := by decide +kernel
theorem d33_31 : decode jdk_2097_method_30_code 31 = .ok (.istore_n 3, 1) := by decide +kernel
theorem d33_32 : decode jdk_2097_method_30_code 32 = .ok (.iload_n 3, 1) := by decide +kernel
theorem d33_33 : decode jdk_2097_method_30_code 33 = .ok (.ifCond .ne 21, 3) := by decide +kernel
theorem d33_36 : decode jdk_2097_method_30_code 36 = .ok (.aload_n 0, 1) := by decide +kernel
theorem d33_37 : decode jdk_2097_method_30_code 37 = .ok (.iconst 1, 1) := by decide +kernel
theorem d33_38 : decode jdk_2097_method_30_code 38 = .ok (.newarray .int, 2) := by decide +kernel
theorem d33_40 : decode jdk_2097_method_30_code 40 = .ok (.putfield 28, 3) := by decide +kernel
theorem d33_43 : decode jdk_2097_method_30_code 43 = .ok (.aload_n 0, 1) := by decide +kernel
theorem d33_44 : decode jdk_2097_method_30_code 44 = .ok (.getfield 28, 3) := by decide +kernel
theorem d33_47 : decode jdk_2097_method_30_code 47 = .ok (.iconst 0, 1) := by decide +kernel
theorem d33_48 : decode jdk_2097_method_30_code 48 = .ok (.lload_n 1, 1) := by decide +kernel
theorem d33_49 : decode jdk_2097_method_30_code 49 = .ok (.l2i, 1) := by decide +kernel
theorem d33_50 : decode jdk_2097_method_30_code 50 = .ok (.iastore, 1) := by decide +kernel
theorem d33_51 : decode jdk_2097_method_30_code 51 = .ok (.goto 25, 3) := by decide +kernel
theorem d33_54 : decode jdk_2097_method_30_code 54 = .ok (.aload_n 0, 1) := by decide +kernel
theorem d33_55 : decode jdk_2097_method_30_code 55 = .ok (.iconst 2, 1) := by decide +kernel
theorem d33_56 : decode jdk_2097_method_30_code 56 = .ok (.newarray .int, 2) := by decide +kernel
theorem d33_58 : decode jdk_2097_method_30_code 58 = .ok (.putfield 28, 3) := by decide +kernel
theorem d33_61 : decode jdk_2097_method_30_code 61 = .ok (.aload_n 0, 1) := by decide +kernel
theorem d33_62 : decode jdk_2097_method_30_code 62 = .ok (.getfield 28, 3) := by decide +kernel
theorem d33_65 : decode jdk_2097_method_30_code 65 = .ok (.iconst 0, 1) := by decide +kernel
theorem d33_66 : decode jdk_2097_method_30_code 66 = .ok (.iload_n 3, 1) := by decide +kernel
theorem d33_67 : decode jdk_2097_method_30_code 67 = .ok (.iastore, 1) := by decide +kernel
theorem d33_68 : decode jdk_2097_method_30_code 68 = .ok (.aload_n 0, 1) := by decide +kernel
theorem d33_69 : decode jdk_2097_method_30_code 69 = .ok (.getfield 28, 3) := by decide +kernel
theorem d33_72 : decode jdk_2097_method_30_code 72 = .ok (.iconst 1, 1) := by decide +kernel
theorem d33_73 : decode jdk_2097_method_30_code 73 = .ok (.lload_n 1, 1) := by decide +kernel
theorem d33_74 : decode jdk_2097_method_30_code 74 = .ok (.l2i, 1) := by decide +kernel
theorem d33_75 : decode jdk_2097_method_30_code 75 = .ok (.iastore, 1) := by decide +kernel
theorem d33_76 : decode jdk_2097_method_30_code 76 = .ok (.return_, 1) := by decide +kernel
theorem ef_rmBI (m : MethodId) (b : Addr) (v : Int64) : entryFrame m #[(.ref b), (.long v)] 4 = mkF m 0 #[.val (.ref b), .val (.long v), .second, .unset] [] := by first | (simp [entryFrame, mkF, argsToLocals, Value.category, maxLocals]; done) | rfl
set_option maxRecDepth 65536 in
set_option maxHeartbeats 40000000 in
theorem rmBI (l : Launch) (Z : State) (a0 : Array Value) (hw : ∀ d ∈ tables_1, d.before a0 Z = true) (ws : List Jvm.Cond) (b : Addr) (v : Int64) (h0 : Heap) (n0 : Nat) (Z0 : n0 ≤ h0.size) (hv : 0 ≤ v.toInt) (Ex_b : Exa Z h0 b "java/math/BigInteger") (F_signum_b : Fld Z h0 b "java/math/BigInteger" "signum" "I" (.int 0)) (F_mag_b : Fld Z h0 b "java/math/BigInteger" "mag" "[I" .null) (g_b : n0 ≤ b) :
    MetFree l (⟨"java/math/BigInteger", "<init>", "(J)V"⟩ : MethodName) (head1 (Jvm.Cond.code (⟨"java/math/BigInteger", "<init>", "(J)V"⟩ : MethodName) jdk_2097_method_30_code (4 : Nat) (Option.none : Option Jvm.ClassFile.FieldType) :: ws) ({ frames := 2, cells := 1, slots := 2, locals := 24 } : Room)) (fun aZ UZ => aZ = #[(.ref b), (.long v)] ∧ Z.Warmed39 UZ.vm ∧ UZ.heap = h0) (fun _ _ _ _ _ => True) (fun _ UZ oZ VZ => ∃ vZ LZ, oZ = .returned vZ ∧ (QBI Z b h0 n0) vZ VZ.heap LZ ∧ FrameEnd UZ oZ VZ LZ ({ frames := 2, cells := 1, slots := 2, locals := 24 } : Room).cells ({ frames := 2, cells := 1, slots := 2, locals := 24 } : Room).slots) := by
  refine MetFree.of_bodySF (plainFor_of_name pn_4) hisR ?_
  intro p e s m args below meth c s₁ Bd hml0 hP hK
  obtain ⟨rfl, hZ, hh⟩ := hP
  have hx := Bd.exec
  have hby := Bd.bytes
  have hml : c.maxLocals = 4 := hml0
  have hown : s.vm.findClass "java/math/BigInteger" = some m.cls := findClass_of_methodNamed Bd.named
  have hnm := (name_of_methodNamed Bd.named Bd.method).1
  have X0 : Stand p l e ({ frames := 2, cells := 1, slots := 2, locals := 24 } : Room) s m #[(.ref b), (.long v)] below meth c s₁ [] 0 0 := Stand.of_body Bd
  have e0 : s₁.heap = h0 := by rw [← hh, Bd.state]; rfl
  have N0 := Fr.nil n0
  show OwnG p e below (OwnE s (QBI Z b h0 n0) ({ frames := 2, cells := 1, slots := 2, locals := 24 } : Room).cells ({ frames := 2, cells := 1, slots := 2, locals := 24 } : Room).slots) _
  refine own_by (S' := s₁.setTop (mkF m 0 #[.val (.ref b), .val (.long v), .second, .unset] [])) (fun tZ kZ => castTop (ef_rmBI m b v) kZ) ?_
  refine own_by (S' := s₁.setTop (mkF m 1 #[.val (.ref b), .val (.long v), .second, .unset] [(.ref b)])) (fun tZ kZ => XS.aloadN X0.here hx rfl (hb hby d33_0) rfl rfl kZ) ?_
  obtain ⟨_, _, ⟨T1, L1, k1, n1⟩, -, X1, ⟨Lc1, hQ1, l1, y1, z1⟩, st1⟩ := X0.specialBack hx (y := (⟨"java/lang/Number", "<init>", "()V"⟩ : MethodName)) rfl hown (mvT hZ (hw _ (List.mem_of_getElem? (i := 235) rfl))) (mvT hZ (hw _ (List.mem_of_getElem? (i := 136) rfl))) (mvT hZ (hw _ (List.mem_of_getElem? (i := 140) rfl))) (by decide) (backOf (W := 0) (rmNum l Z a0 hw [] b h0 n0 Z0) hZ (hw _ (List.mem_of_getElem? (i := 140) rfl)) (hw _ (List.mem_of_getElem? (i := 139) rfl)) (by decide) (by decide)) (g := (mkF m 1 #[.val (.ref b), .val (.long v), .second, .unset] [(.ref b)])) rfl (by rw [hml]; rfl) (Steps.refl _) (a := b) (argsL := []) (rest := []) (lenOf pd_0 rfl) rfl (by show 2 * 0 + _ ≤ _; exact Nat.le_of_eq rfl) (hb hby d33_1) (fun _ _ => ⟨rfl, e0, (by decide : 0 + 0 ≤ _), (by decide : 0 + 0 ≤ _)⟩)
  dsimp only [Pt.U, Pt.locs, Pt.cells, Pt.slots] at X1 l1 y1 z1 st1 hQ1
  subst l1 y1 z1
  obtain ⟨rfl, N1q, heq1⟩ := hQ1
  have N1 := Fr.app N0 N1q
  refine own_by (S' := T1.setTop (mkF m 4 #[.val (.ref b), .val (.long v), .second, .unset] [])) (fun tZ kZ => st1.trans kZ) ?_
  refine own_by (S' := T1.setTop (mkF m 5 #[.val (.ref b), .val (.long v), .second, .unset] [(.long v)])) (fun tZ kZ => XS.lloadN X1.here hx rfl (hb hby d33_4) rfl kZ) ?_
  refine own_by (S' := T1.setTop (mkF m 6 #[.val (.ref b), .val (.long v), .second, .unset] [(.long (0 : Int64)), (.long v)])) (fun tZ kZ => XS.lconst X1.here hx rfl (hb hby d33_5) kZ) ?_
  refine own_by (S' := T1.setTop (mkF m 7 #[.val (.ref b), .val (.long v), .second, .unset] [(.int (lcmpW v (0 : Int64)))])) (fun tZ kZ => XS.lcmp X1.here hx rfl (hb hby d33_6) rfl kZ) ?_
  refine own_by (S' := T1.setTop (mkF m 21 #[.val (.ref b), .val (.long v), .second, .unset] [])) (fun tZ kZ => XS.ifYes X1.here hx rfl (pc0 := 7) (pc' := 21) rfl (hb hby d33_7) rfl ((if0 _ _).trans (flt (by rw [lw_lt, own_ltL, own_e0]; omega)).2.1) (by decide) (by decide) kZ) ?_
  refine own_by (S' := T1.setTop (mkF m 22 #[.val (.ref b), .val (.long v), .second, .unset] [(.ref b)])) (fun tZ kZ => XS.aloadN X1.here hx rfl (hb hby d33_21) rfl rfl kZ) ?_
  refine own_by (S' := T1.setTop (mkF m 23 #[.val (.ref b), .val (.long v), .second, .unset] [(.int (1 : Int32)), (.ref b)])) (fun tZ kZ => XS.iconst X1.here hx rfl (hb hby d33_22) kZ) ?_
  obtain ⟨T2, h2, X2, e2, W2, st2⟩ := putF X1 hx hZ hown (host := "") (Or.inl (hw _ (List.mem_of_getElem? (i := 111) rfl))) Via.refl heq1 F_signum_b Ex_b (Or.inr ⟨(hw _ (List.mem_of_getElem? (i := 112) rfl)), rfl, hnm⟩) (hw _ (List.mem_of_getElem? (i := 231) rfl)) (ty := .int) (by decide) rfl rfl (g := (mkF m 23 #[.val (.ref b), .val (.long v), .second, .unset] [(.int (1 : Int32)), (.ref b)])) rfl rfl (hb hby d33_23)
  have N2 := Fr.snoc X2 N1 g_b
  have Ex_b_2 := Ex_b.wr W2
  have F_signum_b_2 := F_signum_b.same W2
  have F_mag_b_2 := F_mag_b.other W2 (Or.inr (slot_ne (Or.inr (hw _ (List.mem_of_getElem? (i := 160) rfl))) (Or.inr (hw _ (List.mem_of_getElem? (i := 112) rfl))) (by decide) (t := (.array .int)) (t' := .int) (by decide) (by decide)))
  have Zs2 : n0 ≤ h2.size := Nat.le_trans Z0 (Keep.of_wr W2).1
  have K2 := (Keep.refl h0 [b]).wr W2 (Or.inl (List.mem_of_getElem? (i := 0) rfl))
  refine own_by (S' := T2.setTop (mkF m 26 #[.val (.ref b), .val (.long v), .second, .unset] [])) st2 ?_
  refine own_by (S' := T2.setTop (mkF m 27 #[.val (.ref b), .val (.long v), .second, .unset] [(.long v)])) (fun tZ kZ => XS.lloadN X2.here hx rfl (hb hby d33_26) rfl kZ) ?_
  refine own_by (S' := T2.setTop (mkF m 29 #[.val (.ref b), .val (.long v), .second, .unset] [(.int (32 : Int32)), (.long v)])) (fun tZ kZ => XS.bipush X2.here hx rfl (hb hby d33_27) kZ) ?_
  refine own_by (S' := T2.setTop (mkF m 30 #[.val (.ref b), .val (.long v), .second, .unset] [(.long ((v.toUInt64 >>> ((32 : Int32) &&& 0x3f).toInt64.toUInt64).toInt64))])) (fun tZ kZ => XS.lushr X2.here hx rfl (hb hby d33_29) rfl kZ) ?_
  refine own_by (S' := T2.setTop (mkF m 31 #[.val (.ref b), .val (.long v), .second, .unset] [(.int (((v.toUInt64 >>> ((32 : Int32) &&& 0x3f).toInt64.toUInt64).toInt64).toInt32))])) (fun tZ kZ => XS.l2i X2.here hx rfl (hb hby d33_30) rfl kZ) ?_
  obtain ⟨v31, hv31⟩ : ∃ z : Int32, z = (((v.toUInt64 >>> ((32 : Int32) &&& 0x3f).toInt64.toUInt64).toInt64).toInt32) := ⟨_, rfl⟩
  rw [← hv31]
  refine own_by (S' := T2.setTop (mkF m 32 #[.val (.ref b), .val (.long v), .second, .val (.int v31)] [])) (fun tZ kZ => XS.istoreN X2.here hx rfl (hb hby d33_31) rfl (l' := #[.val (.ref b), .val (.long v), .second, .val (.int v31)]) rfl kZ) ?_
  refine own_by (S' := T2.setTop (mkF m 33 #[.val (.ref b), .val (.long v), .second, .val (.int v31)] [(.int v31)])) (fun tZ kZ => XS.iloadN X2.here hx rfl (hb hby d33_32) rfl kZ) ?_
  by_cases hc : v31 = (0 : Int32)
  · refine own_by (S' := T2.setTop (mkF m 36 #[.val (.ref b), .val (.long v), .second, .val (.int v31)] [])) (fun tZ kZ => XS.ifNo X2.here hx rfl (hb hby d33_33) rfl ((if0 _ _).trans (teq hc).2) kZ) ?_
    refine own_by (S' := T2.setTop (mkF m 37 #[.val (.ref b), .val (.long v), .second, .val (.int v31)] [(.ref b)])) (fun tZ kZ => XS.aloadN X2.here hx rfl (hb hby d33_36) rfl rfl kZ) ?_
    refine own_by (S' := T2.setTop (mkF m 38 #[.val (.ref b), .val (.long v), .second, .val (.int v31)] [(.int (1 : Int32)), (.ref b)])) (fun tZ kZ => XS.iconst X2.here hx rfl (hb hby d33_37) kZ) ?_
    obtain ⟨T3, h3, k3, X3, e3, E3, A3, st3⟩ := newP X2 hx hZ (hw _ (List.mem_of_getElem? (i := 237) rfl)) e2 (g := (mkF m 38 #[.val (.ref b), .val (.long v), .second, .val (.int v31)] [(.int (1 : Int32)), (.ref b)])) rfl (hb hby d33_38) rfl (by decide) (cap := 1) (by decide) (by decide) (by decide) (by decide)
    obtain ⟨b3, g3⟩ : ∃ z, z = h2.size := ⟨_, rfl⟩
    rw [← g3] at A3 st3
    have ne_b_b3 : b ≠ b3 := Nat.ne_of_lt (Nat.lt_of_lt_of_le Ex_b_2.lt (Nat.le_of_eq g3.symm))
    have g_b3 : n0 ≤ b3 := Nat.le_trans Zs2 (Nat.le_of_eq g3.symm)
    have sz_b3 : h0.size ≤ b3 := Nat.le_trans K2.1 (Nat.le_of_eq g3.symm)
    have Ex_b_3 := Ex_b_2.ext E3
    have F_signum_b_3 := F_signum_b_2.ext E3
    have F_mag_b_3 := F_mag_b_2.ext E3
    have Zs3 : n0 ≤ h3.size := Nat.le_trans Zs2 E3.1
    have K3 := K2.ext E3
    have V_b3 := OwnA.new A3
    refine own_by (S' := T3.setTop (mkF m 40 #[.val (.ref b), .val (.long v), .second, .val (.int v31)] [(.ref b3), (.ref b)])) st3 ?_
    obtain ⟨T4, h4, X4, e4, W4, st4⟩ := putF X3 hx hZ hown (host := "") (Or.inl (hw _ (List.mem_of_getElem? (i := 238) rfl))) Via.refl e3 F_mag_b_3 Ex_b_3 (Or.inr ⟨(hw _ (List.mem_of_getElem? (i := 160) rfl)), rfl, hnm⟩) (hw _ (List.mem_of_getElem? (i := 231) rfl)) (ty := (.array .int)) (by decide) rfl rfl (g := (mkF m 40 #[.val (.ref b), .val (.long v), .second, .val (.int v31)] [(.ref b3), (.ref b)])) rfl rfl (hb hby d33_40)
    have N4 := Fr.snoc X4 N2 g_b
    have Ex_b_4 := Ex_b_3.wr W4
    have F_signum_b_4 := F_signum_b_3.other W4 (Or.inr (slot_ne (Or.inr (hw _ (List.mem_of_getElem? (i := 112) rfl))) (Or.inr (hw _ (List.mem_of_getElem? (i := 160) rfl))) (by decide) (t := .int) (t' := (.array .int)) (by decide) (by decide)))
    have F_mag_b_4 := F_mag_b_3.same W4
    have V_b3_4 := V_b3.other W4 (Ne.symm ne_b_b3)
    have Zs4 : n0 ≤ h4.size := Nat.le_trans Zs3 (Keep.of_wr W4).1
    have K4 := K3.wr W4 (Or.inl (List.mem_of_getElem? (i := 0) rfl))
    refine own_by (S' := T4.setTop (mkF m 43 #[.val (.ref b), .val (.long v), .second, .val (.int v31)] [])) st4 ?_
    refine own_by (S' := T4.setTop (mkF m 44 #[.val (.ref b), .val (.long v), .second, .val (.int v31)] [(.ref b)])) (fun tZ kZ => XS.aloadN X4.here hx rfl (hb hby d33_43) rfl rfl kZ) ?_
    obtain ⟨T5, X5, e5, st5⟩ := getF X4 hx hZ hown (host := "") (Or.inl (hw _ (List.mem_of_getElem? (i := 238) rfl))) Via.refl e4 F_mag_b_4 (g := (mkF m 44 #[.val (.ref b), .val (.long v), .second, .val (.int v31)] [(.ref b)])) rfl rfl (hb hby d33_44)
    refine own_by (S' := T5.setTop (mkF m 47 #[.val (.ref b), .val (.long v), .second, .val (.int v31)] [(.ref b3)])) st5 ?_
    refine own_by (S' := T5.setTop (mkF m 48 #[.val (.ref b), .val (.long v), .second, .val (.int v31)] [(.int (0 : Int32)), (.ref b3)])) (fun tZ kZ => XS.iconst X5.here hx rfl (hb hby d33_47) kZ) ?_
    refine own_by (S' := T5.setTop (mkF m 49 #[.val (.ref b), .val (.long v), .second, .val (.int v31)] [(.long v), (.int (0 : Int32)), (.ref b3)])) (fun tZ kZ => XS.lloadN X5.here hx rfl (hb hby d33_48) rfl kZ) ?_
    refine own_by (S' := T5.setTop (mkF m 50 #[.val (.ref b), .val (.long v), .second, .val (.int v31)] [(.int (v.toInt32)), (.int (0 : Int32)), (.ref b3)])) (fun tZ kZ => XS.l2i X5.here hx rfl (hb hby d33_49) rfl kZ) ?_
    obtain ⟨cc6, Ar6, hc6, hl6⟩ := id V_b3_4
    have hin6 := OwnA.inb (j := (0 : Int32)) hl6 (by decide) (Nat.le_of_ble_eq_true rfl)
    obtain ⟨T6, h6, X6, e6, W6, st6⟩ := stI X5 hx hZ e5 Ar6 (j := (0 : Int32)) hin6 (g := (mkF m 50 #[.val (.ref b), .val (.long v), .second, .val (.int v31)] [(.int (v.toInt32)), (.int (0 : Int32)), (.ref b3)])) rfl rfl (hb hby d33_50)
    have N6 := Fr.snoc X6 N4 g_b3
    have Ex_b_6 := Ex_b_4.wr W6
    have F_signum_b_6 := F_signum_b_4.other W6 (Or.inl ne_b_b3)
    have F_mag_b_6 := F_mag_b_4.other W6 (Or.inl ne_b_b3)
    have Zs6 : n0 ≤ h6.size := Nat.le_trans Zs4 (Keep.of_wr W6).1
    have K6 := K4.wr W6 (Or.inr sz_b3)
    have V_b3_w6 := V_b3_4.set W6
    refine own_by (S' := T6.setTop (mkF m 51 #[.val (.ref b), .val (.long v), .second, .val (.int v31)] [])) st6 ?_
    refine own_by (S' := T6.setTop (mkF m 76 #[.val (.ref b), .val (.long v), .second, .val (.int v31)] [])) (fun tZ kZ => XS.goto X6.here hx rfl (pc0 := 51) (pc' := 76) rfl (hb hby d33_51) (by decide) (by decide) kZ) ?_
    exact own_ret0 X6 hx Bd.returns (hb hby d33_76) Bd.notSynchronized (by decide) (by decide) (show QBI Z b h0 n0 none T6.heap _ from by rw [e6]; exact ⟨rfl, N6, K6, Ex_b_6, F_signum_b_6⟩)
  · refine own_by (S' := T2.setTop (mkF m 54 #[.val (.ref b), .val (.long v), .second, .val (.int v31)] [])) (fun tZ kZ => XS.ifYes X2.here hx rfl (pc0 := 33) (pc' := 54) rfl (hb hby d33_33) rfl ((if0 _ _).trans (feq hc).2) (by decide) (by decide) kZ) ?_
    refine own_by (S' := T2.setTop (mkF m 55 #[.val (.ref b), .val (.long v), .second, .val (.int v31)] [(.ref b)])) (fun tZ kZ => XS.aloadN X2.here hx rfl (hb hby d33_54) rfl rfl kZ) ?_
    refine own_by (S' := T2.setTop (mkF m 56 #[.val (.ref b), .val (.long v), .second, .val (.int v31)] [(.int (2 : Int32)), (.ref b)])) (fun tZ kZ => XS.iconst X2.here hx rfl (hb hby d33_55) kZ) ?_
    obtain ⟨T7, h7, k7, X7, e7, E7, A7, st7⟩ := newP X2 hx hZ (hw _ (List.mem_of_getElem? (i := 237) rfl)) e2 (g := (mkF m 56 #[.val (.ref b), .val (.long v), .second, .val (.int v31)] [(.int (2 : Int32)), (.ref b)])) rfl (hb hby d33_56) rfl (by decide) (cap := 2) (by decide) (by decide) (by decide) (by decide)
    obtain ⟨b7, g7⟩ : ∃ z, z = h2.size := ⟨_, rfl⟩
    rw [← g7] at A7 st7
    have ne_b_b7 : b ≠ b7 := Nat.ne_of_lt (Nat.lt_of_lt_of_le Ex_b_2.lt (Nat.le_of_eq g7.symm))
    have g_b7 : n0 ≤ b7 := Nat.le_trans Zs2 (Nat.le_of_eq g7.symm)
    have sz_b7 : h0.size ≤ b7 := Nat.le_trans K2.1 (Nat.le_of_eq g7.symm)
    have Ex_b_7 := Ex_b_2.ext E7
    have F_signum_b_7 := F_signum_b_2.ext E7
    have F_mag_b_7 := F_mag_b_2.ext E7
    have Zs7 : n0 ≤ h7.size := Nat.le_trans Zs2 E7.1
    have K7 := K2.ext E7
    have V_b7 := OwnA.new A7
    refine own_by (S' := T7.setTop (mkF m 58 #[.val (.ref b), .val (.long v), .second, .val (.int v31)] [(.ref b7), (.ref b)])) st7 ?_
    obtain ⟨T8, h8, X8, e8, W8, st8⟩ := putF X7 hx hZ hown (host := "") (Or.inl (hw _ (List.mem_of_getElem? (i := 238) rfl))) Via.refl e7 F_mag_b_7 Ex_b_7 (Or.inr ⟨(hw _ (List.mem_of_getElem? (i := 160) rfl)), rfl, hnm⟩) (hw _ (List.mem_of_getElem? (i := 231) rfl)) (ty := (.array .int)) (by decide) rfl rfl (g := (mkF m 58 #[.val (.ref b), .val (.long v), .second, .val (.int v31)] [(.ref b7), (.ref b)])) rfl rfl (hb hby d33_58)
    have N8 := Fr.snoc X8 N2 g_b
    have Ex_b_8 := Ex_b_7.wr W8
    have F_signum_b_8 := F_signum_b_7.other W8 (Or.inr (slot_ne (Or.inr (hw _ (List.mem_of_getElem? (i := 112) rfl))) (Or.inr (hw _ (List.mem_of_getElem? (i := 160) rfl))) (by decide) (t := .int) (t' := (.array .int)) (by decide) (by decide)))
    have F_mag_b_8 := F_mag_b_7.same W8
    have V_b7_8 := V_b7.other W8 (Ne.symm ne_b_b7)
    have Zs8 : n0 ≤ h8.size := Nat.le_trans Zs7 (Keep.of_wr W8).1
    have K8 := K7.wr W8 (Or.inl (List.mem_of_getElem? (i := 0) rfl))
    refine own_by (S' := T8.setTop (mkF m 61 #[.val (.ref b), .val (.long v), .second, .val (.int v31)] [])) st8 ?_
    refine own_by (S' := T8.setTop (mkF m 62 #[.val (.ref b), .val (.long v), .second, .val (.int v31)] [(.ref b)])) (fun tZ kZ => XS.aloadN X8.here hx rfl (hb hby d33_61) rfl rfl kZ) ?_
    obtain ⟨T9, X9, e9, st9⟩ := getF X8 hx hZ hown (host := "") (Or.inl (hw _ (List.mem_of_getElem? (i := 238) rfl))) Via.refl e8 F_mag_b_8 (g := (mkF m 62 #[.val (.ref b), .val (.long v), .second, .val (.int v31)] [(.ref b)])) rfl rfl (hb hby d33_62)
    refine own_by (S' := T9.setTop (mkF m 65 #[.val (.ref b), .val (.long v), .second, .val (.int v31)] [(.ref b7)])) st9 ?_
    refine own_by (S' := T9.setTop (mkF m 66 #[.val (.ref b), .val (.long v), .second, .val (.int v31)] [(.int (0 : Int32)), (.ref b7)])) (fun tZ kZ => XS.iconst X9.here hx rfl (hb hby d33_65) kZ) ?_
    refine own_by (S' := T9.setTop (mkF m 67 #[.val (.ref b), .val (.long v), .second, .val (.int v31)] [(.int v31), (.int (0 : Int32)), (.ref b7)])) (fun tZ kZ => XS.iloadN X9.here hx rfl (hb hby d33_66) rfl kZ) ?_
    obtain ⟨cc10, Ar10, hc10, hl10⟩ := id V_b7_8
    have hin10 := OwnA.inb (j := (0 : Int32)) hl10 (by decide) (Nat.le_of_ble_eq_true rfl)
    obtain ⟨T10, h10, X10, e10, W10, st10⟩ := stI X9 hx hZ e9 Ar10 (j := (0 : Int32)) hin10 (g := (mkF m 67 #[.val (.ref b), .val (.long v), .second, .val (.int v31)] [(.int v31), (.int (0 : Int32)), (.ref b7)])) rfl rfl (hb hby d33_67)
    have N10 := Fr.snoc X10 N8 g_b7
    have Ex_b_10 := Ex_b_8.wr W10
    have F_signum_b_10 := F_signum_b_8.other W10 (Or.inl ne_b_b7)
    have F_mag_b_10 := F_mag_b_8.other W10 (Or.inl ne_b_b7)
    have Zs10 : n0 ≤ h10.size := Nat.le_trans Zs8 (Keep.of_wr W10).1
    have K10 := K8.wr W10 (Or.inr sz_b7)
    have V_b7_w10 := V_b7_8.set W10
    refine own_by (S' := T10.setTop (mkF m 68 #[.val (.ref b), .val (.long v), .second, .val (.int v31)] [])) st10 ?_
    refine own_by (S' := T10.setTop (mkF m 69 #[.val (.ref b), .val (.long v), .second, .val (.int v31)] [(.ref b)])) (fun tZ kZ => XS.aloadN X10.here hx rfl (hb hby d33_68) rfl rfl kZ) ?_
    obtain ⟨T11, X11, e11, st11⟩ := getF X10 hx hZ hown (host := "") (Or.inl (hw _ (List.mem_of_getElem? (i := 238) rfl))) Via.refl e10 F_mag_b_10 (g := (mkF m 69 #[.val (.ref b), .val (.long v), .second, .val (.int v31)] [(.ref b)])) rfl rfl (hb hby d33_69)
    refine own_by (S' := T11.setTop (mkF m 72 #[.val (.ref b), .val (.long v), .second, .val (.int v31)] [(.ref b7)])) st11 ?_
    refine own_by (S' := T11.setTop (mkF m 73 #[.val (.ref b), .val (.long v), .second, .val (.int v31)] [(.int (1 : Int32)), (.ref b7)])) (fun tZ kZ => XS.iconst X11.here hx rfl (hb hby d33_72) kZ) ?_
    refine own_by (S' := T11.setTop (mkF m 74 #[.val (.ref b), .val (.long v), .second, .val (.int v31)] [(.long v), (.int (1 : Int32)), (.ref b7)])) (fun tZ kZ => XS.lloadN X11.here hx rfl (hb hby d33_73) rfl kZ) ?_
    refine own_by (S' := T11.setTop (mkF m 75 #[.val (.ref b), .val (.long v), .second, .val (.int v31)] [(.int (v.toInt32)), (.int (1 : Int32)), (.ref b7)])) (fun tZ kZ => XS.l2i X11.here hx rfl (hb hby d33_74) rfl kZ) ?_
    obtain ⟨cc12, Ar12, hc12, hl12⟩ := id V_b7_w10
    have hin12 := OwnA.inb (j := (1 : Int32)) hl12 (by decide) (Nat.le_of_ble_eq_true rfl)
    obtain ⟨T12, h12, X12, e12, W12, st12⟩ := stI X11 hx hZ e11 Ar12 (j := (1 : Int32)) hin12 (g := (mkF m 75 #[.val (.ref b), .val (.long v), .second, .val (.int v31)] [(.int (v.toInt32)), (.int (1 : Int32)), (.ref b7)])) rfl rfl (hb hby d33_75)
    have N12 := Fr.snoc X12 N10 g_b7
    have Ex_b_12 := Ex_b_10.wr W12
    have F_signum_b_12 := F_signum_b_10.other W12 (Or.inl ne_b_b7)
    have F_mag_b_12 := F_mag_b_10.other W12 (Or.inl ne_b_b7)
    have Zs12 : n0 ≤ h12.size := Nat.le_trans Zs10 (Keep.of_wr W12).1
    have K12 := K10.wr W12 (Or.inr sz_b7)
    have V_b7_w12 := V_b7_w10.set W12
    refine own_by (S' := T12.setTop (mkF m 76 #[.val (.ref b), .val (.long v), .second, .val (.int v31)] [])) st12 ?_
    exact own_ret0 X12 hx Bd.returns (hb hby d33_76) Bd.notSynchronized (by decide) (by decide) (show QBI Z b h0 n0 none T12.heap _ from by rw [e12]; exact ⟨rfl, N12, K12, Ex_b_12, F_signum_b_12⟩)
theorem ef_rmVo (m : MethodId) (v : Int64) : entryFrame m #[(.long v)] 2 = mkF m 0 #[.val (.long v), .second] [] := by first | (simp [entryFrame, mkF, argsToLocals, Value.category, maxLocals]; done) | rfl
set_option maxRecDepth 65536 in
set_option maxHeartbeats 40000000 in
theorem rmVo (l : Launch) (Z : State) (a0 : Array Value) (hw : ∀ d ∈ tables_1, d.before a0 Z = true) (ws : List Jvm.Cond) (v : Int64) (hB : Heap) (zr mz pa za rmo lt mir : Addr) (mc pk zc lc : Cell) (h0 : Heap) (n0 : Nat) (Z0 : n0 ≤ h0.size) (Eb : Ext hB h0) (WD : OwnWd Z a0 hB zr mz pa za rmo lt mir mc pk zc lc) (hv : 0 ≤ v.toInt) :
    MetFree l (⟨"java/math/BigInteger", "valueOf", "(J)Ljava/math/BigInteger;"⟩ : MethodName) (head1 (Jvm.Cond.code (⟨"java/math/BigInteger", "valueOf", "(J)Ljava/math/BigInteger;"⟩ : MethodName) jdk_2097_method_29_code (2 : Nat) (Option.some (Jvm.ClassFile.FieldType.object "java/math/BigInteger")) :: ws) ({ frames := 3, cells := 2, slots := 8, locals := 40 } : Room)) (fun aZ UZ => aZ = #[(.long v)] ∧ Z.Warmed39 UZ.vm ∧ UZ.heap = h0) (fun _ _ _ _ _ => True) (fun _ UZ oZ VZ => ∃ vZ LZ, oZ = .returned vZ ∧ (QVo Z h0 n0) vZ VZ.heap LZ ∧ FrameEnd UZ oZ VZ LZ ({ frames := 3, cells := 2, slots := 8, locals := 40 } : Room).cells ({ frames := 3, cells := 2, slots := 8, locals := 40 } : Room).slots) := by
  refine MetFree.of_bodySF (plainFor_of_name pn_4) hisR ?_
  intro p e s m args below meth c s₁ Bd hml0 hP hK
  obtain ⟨rfl, hZ, hh⟩ := hP
  have hx := Bd.exec
  have hby := Bd.bytes
  have hml : c.maxLocals = 2 := hml0
  have hown : s.vm.findClass "java/math/BigInteger" = some m.cls := findClass_of_methodNamed Bd.named
  have hnm := (name_of_methodNamed Bd.named Bd.method).1
  have X0 : Stand p l e ({ frames := 3, cells := 2, slots := 8, locals := 40 } : Room) s m #[(.long v)] below meth c s₁ [] 0 0 := Stand.of_body Bd
  have e0 : s₁.heap = h0 := by rw [← hh, Bd.state]; rfl
  have N0 := Fr.nil n0
  show OwnG p e below (OwnE s (QVo Z h0 n0) ({ frames := 3, cells := 2, slots := 8, locals := 40 } : Room).cells ({ frames := 3, cells := 2, slots := 8, locals := 40 } : Room).slots) _
  refine own_by (S' := s₁.setTop (mkF m 0 #[.val (.long v), .second] [])) (fun tZ kZ => castTop (ef_rmVo m v) kZ) ?_
  obtain ⟨wS, wE, wF, wM, wA, wAz, wP, wPA, wPz, wPe, wT, wTA, wTz, wTe, wH, wHF, wL, wLA, wLz, wMi⟩ := id WD
  refine own_by (S' := s₁.setTop (mkF m 1 #[.val (.long v), .second] [(.long v)])) (fun tZ kZ => XS.lloadN X0.here hx rfl (hb hby d11_0) rfl kZ) ?_
  refine own_by (S' := s₁.setTop (mkF m 2 #[.val (.long v), .second] [(.long (0 : Int64)), (.long v)])) (fun tZ kZ => XS.lconst X0.here hx rfl (hb hby d11_1) kZ) ?_
  refine own_by (S' := s₁.setTop (mkF m 3 #[.val (.long v), .second] [(.int (lcmpW v (0 : Int64)))])) (fun tZ kZ => XS.lcmp X0.here hx rfl (hb hby d11_2) rfl kZ) ?_
  by_cases h0v : (lcmpW v (0 : Int64)) = (0 : Int32)
  · refine own_by (S' := s₁.setTop (mkF m 6 #[.val (.long v), .second] [])) (fun tZ kZ => XS.ifNo X0.here hx rfl (hb hby d11_3) rfl ((if0 _ _).trans (teq h0v).2) kZ) ?_
    obtain ⟨T1, X1, e1, st1⟩ := getS2 X0 hx hZ hown (host := "") (Or.inl (hw _ (List.mem_of_getElem? (i := 98) rfl))) Via.refl e0 (wS.ext Eb) (g := (mkF m 6 #[.val (.long v), .second] [])) rfl (hb hby d11_6)
    refine own_by (S' := T1.setTop (mkF m 9 #[.val (.long v), .second] [(.ref zr)])) st1 ?_
    exact own_retA X1 hx Bd.returns rfl rfl (hb hby d11_9) Bd.notSynchronized (by decide) (by decide) ⟨zr, 0, rfl, N0, by rw [e1]; exact Keep.refl h0 [], by rw [e1]; exact (wE.ext Eb), by rw [e1]; exact (wF.ext Eb)⟩
  · refine own_by (S' := s₁.setTop (mkF m 10 #[.val (.long v), .second] [])) (fun tZ kZ => XS.ifYes X0.here hx rfl (pc0 := 3) (pc' := 10) rfl (hb hby d11_3) rfl ((if0 _ _).trans (feq h0v).2) (by decide) (by decide) kZ) ?_
    have hvp : 0 < v.toInt := by
      have q := mt (lw_eq v 0).mpr h0v
      have r : ¬ v.toInt = 0 := fun r => q (Int64.toInt_inj.mp (r.trans own_e0.symm))
      omega
    refine own_by (S' := s₁.setTop (mkF m 11 #[.val (.long v), .second] [(.long v)])) (fun tZ kZ => XS.lloadN X0.here hx rfl (hb hby d11_10) rfl kZ) ?_
    refine own_by (S' := s₁.setTop (mkF m 12 #[.val (.long v), .second] [(.long (0 : Int64)), (.long v)])) (fun tZ kZ => XS.lconst X0.here hx rfl (hb hby d11_11) kZ) ?_
    refine own_by (S' := s₁.setTop (mkF m 13 #[.val (.long v), .second] [(.int (lcmpW v (0 : Int64)))])) (fun tZ kZ => XS.lcmp X0.here hx rfl (hb hby d11_12) rfl kZ) ?_
    refine own_by (S' := s₁.setTop (mkF m 16 #[.val (.long v), .second] [])) (fun tZ kZ => XS.ifNo X0.here hx rfl (hb hby d11_13) rfl ((if0 _ _).trans (tlt (by rw [lw_gt, own_ltL, own_e0]; exact hvp)).2.2.2) kZ) ?_
    refine own_by (S' := s₁.setTop (mkF m 17 #[.val (.long v), .second] [(.long v)])) (fun tZ kZ => XS.lloadN X0.here hx rfl (hb hby d11_16) rfl kZ) ?_
    refine own_by (S' := s₁.setTop (mkF m 20 #[.val (.long v), .second] [(.long (16 : Int64)), (.long v)])) (fun tZ kZ => X0.ldc2Long hx hown (mvT hZ (hw _ (List.mem_of_getElem? (i := 99) rfl))) (g := (mkF m 17 #[.val (.long v), .second] [(.long v)])) rfl (hb hby d11_17) _ kZ) ?_
    refine own_by (S' := s₁.setTop (mkF m 21 #[.val (.long v), .second] [(.int (lcmpW v (16 : Int64)))])) (fun tZ kZ => XS.lcmp X0.here hx rfl (hb hby d11_20) rfl kZ) ?_
    by_cases h16 : (0 : Int32) < (lcmpW v (16 : Int64))
    · refine own_by (S' := s₁.setTop (mkF m 31 #[.val (.long v), .second] [])) (fun tZ kZ => XS.ifYes X0.here hx rfl (pc0 := 21) (pc' := 31) rfl (hb hby d11_21) rfl ((if0 _ _).trans (tlt h16).2.2.1) (by decide) (by decide) kZ) ?_
      refine own_by (S' := s₁.setTop (mkF m 32 #[.val (.long v), .second] [(.long v)])) (fun tZ kZ => XS.lloadN X0.here hx rfl (hb hby d11_31) rfl kZ) ?_
      refine own_by (S' := s₁.setTop (mkF m 33 #[.val (.long v), .second] [(.long (0 : Int64)), (.long v)])) (fun tZ kZ => XS.lconst X0.here hx rfl (hb hby d11_32) kZ) ?_
      refine own_by (S' := s₁.setTop (mkF m 34 #[.val (.long v), .second] [(.int (lcmpW v (0 : Int64)))])) (fun tZ kZ => XS.lcmp X0.here hx rfl (hb hby d11_33) rfl kZ) ?_
      refine own_by (S' := s₁.setTop (mkF m 53 #[.val (.long v), .second] [])) (fun tZ kZ => XS.ifYes X0.here hx rfl (pc0 := 34) (pc' := 53) rfl (hb hby d11_34) rfl ((if0 _ _).trans (flt (by rw [lw_lt, own_ltL, own_e0]; omega)).2.1) (by decide) (by decide) kZ) ?_
      obtain ⟨T3, h3, X3, e3, E3, A3, D3, -, st3⟩ := newO X0 hx hZ hown (hw _ (List.mem_of_getElem? (i := 230) rfl)) (hw _ (List.mem_of_getElem? (i := 231) rfl)) (hw _ (List.mem_of_getElem? (i := 23) rfl)) e0 (g := (mkF m 53 #[.val (.long v), .second] [])) rfl (hb hby d11_53) (by decide) (by decide)
      obtain ⟨b3, g3⟩ : ∃ z, z = h0.size := ⟨_, rfl⟩
      rw [← g3] at A3 D3 st3
      have g_b3 : n0 ≤ b3 := Nat.le_trans Z0 (Nat.le_of_eq g3.symm)
      have sz_b3 : h0.size ≤ b3 := Nat.le_trans (Keep.refl h0 []).1 (Nat.le_of_eq g3.symm)
      have Zs3 : n0 ≤ h3.size := Nat.le_trans Z0 E3.1
      have K3 := (Keep.refl h0 []).ext E3
      have Ex_b3 := A3
      have F_signum_b3 : Fld Z h3 b3 "java/math/BigInteger" "signum" "I" (.int (0 : Int32)) := D3 (Or.inr (hw _ (List.mem_of_getElem? (i := 112) rfl))) (ty := .int) (by decide)
      have F_mag_b3 : Fld Z h3 b3 "java/math/BigInteger" "mag" "[I" .null := D3 (Or.inr (hw _ (List.mem_of_getElem? (i := 160) rfl))) (ty := (.array .int)) (by decide)
      refine own_by (S' := T3.setTop (mkF m 56 #[.val (.long v), .second] [(.ref b3)])) st3 ?_
      refine own_by (S' := T3.setTop (mkF m 57 #[.val (.long v), .second] [(.ref b3), (.ref b3)])) (fun tZ kZ => XS.dup X3.here hx rfl (hb hby d11_56) rfl rfl kZ) ?_
      refine own_by (S' := T3.setTop (mkF m 58 #[.val (.long v), .second] [(.long v), (.ref b3), (.ref b3)])) (fun tZ kZ => XS.lloadN X3.here hx rfl (hb hby d11_57) rfl kZ) ?_
      obtain ⟨_, _, ⟨T4, L4, k4, n4⟩, -, X4, ⟨Lc4, hQ4, l4, y4, z4⟩, st4⟩ := X3.specialBack hx (y := (⟨"java/math/BigInteger", "<init>", "(J)V"⟩ : MethodName)) rfl hown (mvT hZ (hw _ (List.mem_of_getElem? (i := 232) rfl))) (mvT hZ (hw _ (List.mem_of_getElem? (i := 233) rfl))) (mvT hZ (hw _ (List.mem_of_getElem? (i := 234) rfl))) (by decide) (backOf (W := 1) (rmBI l Z a0 hw [] b3 v h3 n0 Zs3 hv Ex_b3 F_signum_b3 F_mag_b3 g_b3) hZ (hw _ (List.mem_of_getElem? (i := 234) rfl)) (hw _ (List.mem_of_getElem? (i := 23) rfl)) (by decide) (by decide)) (g := (mkF m 58 #[.val (.long v), .second] [(.long v), (.ref b3), (.ref b3)])) rfl (by rw [hml]; rfl) (Steps.refl _) (a := b3) (argsL := [(.long v)]) (rest := [(.ref b3)]) (lenOf pd_1 rfl) rfl (by show 2 * 0 + _ ≤ _; exact Nat.le_of_eq rfl) (hb hby d11_58) (fun _ _ => ⟨rfl, e3, (by decide : 1 + 1 ≤ _), (by decide : 6 + 2 ≤ _)⟩)
      dsimp only [Pt.U, Pt.locs, Pt.cells, Pt.slots] at X4 l4 y4 z4 st4 hQ4
      subst l4 y4 z4
      obtain ⟨rfl, N4q, Kc4, qe4, qf4⟩ := hQ4
      have N4 := Fr.app N0 N4q
      have Zs4 := Nat.le_trans Zs3 Kc4.1
      have K4 := K3.trans Kc4 (fun x hx => by
          simp only [List.mem_cons, List.not_mem_nil, or_false] at hx
          rcases hx with rfl
          · exact Or.inr sz_b3)
      have Ex_b3_4 := Ex_b3.keep Kc4
      refine own_by (S' := T4.setTop (mkF m 61 #[.val (.long v), .second] [(.ref b3)])) (fun tZ kZ => st4.trans kZ) ?_
      exact own_retA X4 hx Bd.returns rfl rfl (hb hby d11_61) Bd.notSynchronized (by decide) (by decide) ⟨b3, 1, rfl, N4, K4, qe4, qf4⟩
    · refine own_by (S' := s₁.setTop (mkF m 24 #[.val (.long v), .second] [])) (fun tZ kZ => XS.ifNo X0.here hx rfl (hb hby d11_21) rfl ((if0 _ _).trans (flt h16).2.2.1) kZ) ?_
      have hv16 : v.toInt ≤ 16 := by rw [lw_gt, own_ltL, own_e16] at h16; omega
      obtain ⟨T2, X2, e2, st2⟩ := getS2 X0 hx hZ hown (host := "") (Or.inl (hw _ (List.mem_of_getElem? (i := 100) rfl))) Via.refl e0 (wP.ext Eb) (g := (mkF m 24 #[.val (.long v), .second] [])) rfl (hb hby d11_24)
      refine own_by (S' := T2.setTop (mkF m 27 #[.val (.long v), .second] [(.ref pa)])) st2 ?_
      refine own_by (S' := T2.setTop (mkF m 28 #[.val (.long v), .second] [(.long v), (.ref pa)])) (fun tZ kZ => XS.lloadN X2.here hx rfl (hb hby d11_27) rfl kZ) ?_
      refine own_by (S' := T2.setTop (mkF m 29 #[.val (.long v), .second] [(.int (v.toInt32)), (.ref pa)])) (fun tZ kZ => XS.l2i X2.here hx rfl (hb hby d11_28) rfl kZ) ?_
      obtain ⟨r, sg, q1, q2, q3⟩ := wPe v.toInt.toNat (by omega) (by omega)
      obtain ⟨i1, i2⟩ := own_idx (n := 16) hv hv16 (by omega)
      have wPAe : Arr Z h0 pa pk (.object "java/math/BigInteger") := wPA.ext Eb
      refine own_by (S' := T2.setTop (mkF m 30 #[.val (.long v), .second] [(.ref r)])) (fun tZ kZ => X2.aaload hx (j := (v.toInt32)) (v := (.ref r)) (by rw [e2]; exact wPAe.1) (State.isArrayOf_alike hZ.alike wPAe.2.1) rfl wPAe.2.2 (own_inA (n := 16) hv hv16 (by omega) wPz (by decide)) (by rw [i2]; exact q1) (g := (mkF m 29 #[.val (.long v), .second] [(.int (v.toInt32)), (.ref pa)])) rfl rfl (hb hby d11_29) _ kZ) ?_
      exact own_retA X2 hx Bd.returns rfl rfl (hb hby d11_30) Bd.notSynchronized (by decide) (by decide) ⟨r, sg, rfl, N0, by rw [e2]; exact Keep.refl h0 [], by rw [e2]; exact q2.ext Eb, by rw [e2]; exact q3.ext Eb⟩
theorem d13_0 : decode jdk_2097_method_42_code 0 = .ok (.aload_n 1, 1) := by decide +kernel
theorem d13_1 : decode jdk_2097_method_42_code 1 = .ok (.getfield 32, 3) := by decide +kernel
theorem d13_4 : decode jdk_2097_method_42_code 4 = .ok (.ifCond .eq 10, 3) := by decide +kernel
theorem d13_7 : decode jdk_2097_method_42_code 7 = .ok (.aload_n 0, 1) := by decide +kernel
theorem d13_8 : decode jdk_2097_method_42_code 8 = .ok (.getfield 32, 3) := by decide +kernel
theorem d13_11 : decode jdk_2097_method_42_code 11 = .ok (.ifCond .ne 7, 3) := by decide +kernel
theorem d13_14 : decode jdk_2097_method_42_code 14 = .ok (.getstatic 22, 3) := by decide +kernel
theorem d13_17 : decode jdk_2097_method_42_code 17 = .ok (.areturn, 1) := by decide +kernel
theorem d13_18 : decode jdk_2097_method_42_code 18 = .ok (.aload_n 0, 1) := by decide +kernel
theorem d13_19 : decode jdk_2097_method_42_code 19 = .ok (.getfield 28, 3) := by decide +kernel
theorem d13_22 : decode jdk_2097_method_42_code 22 = .ok (.arraylength, 1) := by decide +kernel
theorem d13_23 : decode jdk_2097_method_42_code 23 = .ok (.istore 5, 2) := by decide +kernel
theorem d13_25 : decode jdk_2097_method_42_code 25 = .ok (.aload_n 1, 1) := by decide +kernel
theorem d13_26 : decode jdk_2097_method_42_code 26 = .ok (.aload_n 0, 1) := by decide +kernel
theorem d13_27 : decode jdk_2097_method_42_code 27 = .ok (.if_acmp .ne 19, 3) := by decide +kernel
theorem d13_30 : decode jdk_2097_method_42_code 30 = .ok (.iload 5, 2) := by decide +kernel
theorem d13_32 : decode jdk_2097_method_42_code 32 = .ok (.bipush 20, 2) := by decide +kernel
theorem d13_34 : decode jdk_2097_method_42_code 34 = .ok (.if_icmp .le 12, 3) := by decide +kernel
theorem d13_37 : decode jdk_2097_method_42_code 37 = .ok (.aload_n 0, 1) := by decide +kernel
theorem d13_38 : decode jdk_2097_method_42_code 38 = .ok (.iconst 1, 1) := by decide +kernel
theorem d13_39 : decode jdk_2097_method_42_code 39 = .ok (.iload_n 3, 1) := by decide +kernel
theorem d13_40 : decode jdk_2097_method_42_code 40 = .ok (.iload 4, 2) := by decide +kernel
theorem d13_42 : decode jdk_2097_method_42_code 42 = .ok (.invokevirtual 400, 3) := by decide +kernel
theorem d13_45 : decode jdk_2097_method_42_code 45 = .ok (.areturn, 1) := by decide +kernel
theorem d13_46 : decode jdk_2097_method_42_code 46 = .ok (.aload_n 1, 1) := by decide +kernel
theorem d13_47 : decode jdk_2097_method_42_code 47 = .ok (.getfield 28, 3) := by decide +kernel
theorem d13_50 : decode jdk_2097_method_42_code 50 = .ok (.arraylength, 1) := by decide +kernel
theorem d13_51 : decode jdk_2097_method_42_code 51 = .ok (.istore 6, 2) := by decide +kernel
theorem d13_53 : decode jdk_2097_method_42_code 53 = .ok (.iload 5, 2) := by decide +kernel
theorem d13_55 : decode jdk_2097_method_42_code 55 = .ok (.bipush 80, 2) := by decide +kernel
theorem d13_57 : decode jdk_2097_method_42_code 57 = .ok (.if_icmp .lt 10, 3) := by decide +kernel
theorem d13_60 : decode jdk_2097_method_42_code 60 = .ok (.iload 6, 2) := by decide +kernel
theorem d13_62 : decode jdk_2097_method_42_code 62 = .ok (.bipush 80, 2) := by decide +kernel
theorem d13_64 : decode jdk_2097_method_42_code 64 = .ok (.if_icmp .ge 108, 3) := by decide +kernel
theorem d13_67 : decode jdk_2097_method_42_code 67 = .ok (.aload_n 0, 1) := by decide +kernel
theorem d13_68 : decode jdk_2097_method_42_code 68 = .ok (.getfield 32, 3) := by decide +kernel
theorem d13_71 : decode jdk_2097_method_42_code 71 = .ok (.aload_n 1, 1) := by decide +kernel
theorem d13_72 : decode jdk_2097_method_42_code 72 = .ok (.getfield 32, 3) := by decide +kernel
theorem d13_75 : decode jdk_2097_method_42_code 75 = .ok (.if_icmp .ne 7, 3) := by decide +kernel
theorem d13_78 : decode jdk_2097_method_42_code 78 = .ok (.iconst 1, 1) := by decide +kernel
theorem d13_79 : decode jdk_2097_method_42_code 79 = .ok (.goto 4, 3) := by decide +kernel
theorem d13_82 : decode jdk_2097_method_42_code 82 = .ok (.iconst (-1), 1) := by decide +kernel
theorem d13_83 : decode jdk_2097_method_42_code 83 = .ok (.istore 7, 2) := by decide +kernel
theorem d13_85 : decode jdk_2097_method_42_code 85 = .ok (.aload_n 1, 1) := by decide +kernel
theorem d13_86 : decode jdk_2097_method_42_code 86 = .ok (.getfield 28, 3) := by decide +kernel
theorem d13_89 : decode jdk_2097_method_42_code 89 = .ok (.arraylength, 1) := by decide +kernel
theorem d13_90 : decode jdk_2097_method_42_code 90 = .ok (.iconst 1, 1) := by decide +kernel
theorem d13_91 : decode jdk_2097_method_42_code 91 = .ok (.if_icmp .ne 19, 3) := by decide +kernel
theorem d13_94 : decode jdk_2097_method_42_code 94 = .ok (.aload_n 0, 1) := by decide +kernel
theorem d13_95 : decode jdk_2097_method_42_code 95 = .ok (.getfield 28, 3) := by decide +kernel
theorem d13_98 : decode jdk_2097_method_42_code 98 = .ok (.aload_n 1, 1) := by decide +kernel
theorem d13_99 : decode jdk_2097_method_42_code 99 = .ok (.getfield 28, 3) := by decide +kernel
theorem d13_102 : decode jdk_2097_method_42_code 102 = .ok (.iconst 0, 1) := by decide +kernel
theorem d13_103 : decode jdk_2097_method_42_code 103 = .ok (.iaload, 1) := by decide +kernel
theorem d13_104 : decode jdk_2097_method_42_code 104 = .ok (.iload 7, 2) := by decide +kernel
theorem d13_106 : decode jdk_2097_method_42_code 106 = .ok (.invokestatic 403, 3) := by decide +kernel
theorem d13_109 : decode jdk_2097_method_42_code 109 = .ok (.areturn, 1) := by decide +kernel
theorem d13_110 : decode jdk_2097_method_42_code 110 = .ok (.aload_n 0, 1) := by decide +kernel
theorem d13_111 : decode jdk_2097_method_42_code 111 = .ok (.getfield 28, 3) := by decide +kernel
theorem d13_114 : decode jdk_2097_method_42_code 114 = .ok (.arraylength, 1) := by decide +kernel
theorem d13_115 : decode jdk_2097_method_42_code 115 = .ok (.iconst 1, 1) := by decide +kernel
theorem d13_116 : decode jdk_2097_method_42_code 116 = .ok (.if_icmp .ne 19, 3) := by decide +kernel
theorem d13_119 : decode jdk_2097_method_42_code 119 = .ok (.aload_n 1, 1) := by decide +kernel
theorem d13_120 : decode jdk_2097_method_42_code 120 = .ok (.getfield 28, 3) := by decide +kernel
theorem d13_123 : decode jdk_2097_method_42_code 123 = .ok (.aload_n 0, 1) := by decide +kernel
theorem d13_124 : decode jdk_2097_method_42_code 124 = .ok (.getfield 28, 3) := by decide +kernel
theorem d13_127 : decode jdk_2097_method_42_code 127 = .ok (.iconst 0, 1) := by decide +kernel
theorem d13_128 : decode jdk_2097_method_42_code 128 = .ok (.iaload, 1) := by decide +kernel
theorem d13_129 : decode jdk_2097_method_42_code 129 = .ok (.iload 7, 2) := by decide +kernel
theorem d13_131 : decode jdk_2097_method_42_code 131 = .ok (.invokestatic 403, 3) := by decide +kernel
theorem d13_134 : decode jdk_2097_method_42_code 134 = .ok (.areturn, 1) := by decide +kernel
theorem d13_135 : decode jdk_2097_method_42_code 135 = .ok (.aload_n 0, 1) := by decide +kernel
theorem d13_136 : decode jdk_2097_method_42_code 136 = .ok (.getfield 28, 3) := by decide +kernel
theorem d13_139 : decode jdk_2097_method_42_code 139 = .ok (.iload 5, 2) := by decide +kernel
theorem d13_141 : decode jdk_2097_method_42_code 141 = .ok (.aload_n 1, 1) := by decide +kernel
theorem d13_142 : decode jdk_2097_method_42_code 142 = .ok (.getfield 28, 3) := by decide +kernel
theorem d13_145 : decode jdk_2097_method_42_code 145 = .ok (.iload 6, 2) := by decide +kernel
theorem d13_147 : decode jdk_2097_method_42_code 147 = .ok (.aconst_null, 1) := by decide +kernel
theorem d13_148 : decode jdk_2097_method_42_code 148 = .ok (.invokestatic 407, 3) := by decide +kernel
theorem d13_151 : decode jdk_2097_method_42_code 151 = .ok (.astore 8, 2) := by decide +kernel
theorem d13_153 : decode jdk_2097_method_42_code 153 = .ok (.aload 8, 2) := by decide +kernel
theorem d13_155 : decode jdk_2097_method_42_code 155 = .ok (.invokestatic 53, 3) := by decide +kernel
theorem d13_158 : decode jdk_2097_method_42_code 158 = .ok (.astore 8, 2) := by decide +kernel
theorem d13_160 : decode jdk_2097_method_42_code 160 = .ok (.new 23, 3) := by decide +kernel
theorem d13_163 : decode jdk_2097_method_42_code 163 = .ok (.dup, 1) := by decide +kernel
theorem d13_164 : decode jdk_2097_method_42_code 164 = .ok (.aload 8, 2) := by decide +kernel
theorem d13_166 : decode jdk_2097_method_42_code 166 = .ok (.iload 7, 2) := by decide +kernel
theorem d13_168 : decode jdk_2097_method_42_code 168 = .ok (.invokespecial 175, 3) := by decide +kernel
theorem d13_171 : decode jdk_2097_method_42_code 171 = .ok (.areturn, 1) := by decide +kernel
theorem d13_172 : decode jdk_2097_method_42_code 172 = .ok (.iload 5, 2) := by decide +kernel
theorem d13_174 : decode jdk_2097_method_42_code 174 = .ok (.sipush 240, 3) := by decide +kernel
theorem d13_177 : decode jdk_2097_method_42_code 177 = .ok (.if_icmp .ge 17, 3) := by decide +kernel
theorem d13_180 : decode jdk_2097_method_42_code 180 = .ok (.iload 6, 2) := by decide +kernel
theorem d13_182 : decode jdk_2097_method_42_code 182 = .ok (.sipush 240, 3) := by decide +kernel
theorem d13_185 : decode jdk_2097_method_42_code 185 = .ok (.if_icmp .ge 9, 3) := by decide +kernel
theorem d13_188 : decode jdk_2097_method_42_code 188 = .ok (.aload_n 0, 1) := by decide +kernel
theorem d13_189 : decode jdk_2097_method_42_code 189 = .ok (.aload_n 1, 1) := by decide +kernel
theorem d13_190 : decode jdk_2097_method_42_code 190 = .ok (.invokestatic 411, 3) := by decide +kernel
theorem d13_193 : decode jdk_2097_method_42_code 193 = .ok (.areturn, 1) := by decide +kernel
theorem d13_194 : decode jdk_2097_method_42_code 194 = .ok (.iload_n 2, 1) := by decide +kernel
theorem d13_195 : decode jdk_2097_method_42_code 195 = .ok (.ifCond .ne 40, 3) := by decide +kernel
theorem d13_198 : decode jdk_2097_method_42_code 198 = .ok (.aload_n 0, 1) := by decide +kernel
theorem d13_199 : decode jdk_2097_method_42_code 199 = .ok (.getfield 28, 3) := by decide +kernel
theorem d13_202 : decode jdk_2097_method_42_code 202 = .ok (.aload_n 0, 1) := by decide +kernel
theorem d13_203 : decode jdk_2097_method_42_code 203 = .ok (.getfield 28, 3) := by decide +kernel
theorem d13_206 : decode jdk_2097_method_42_code 206 = .ok (.arraylength, 1) := by decide +kernel
theorem d13_207 : decode jdk_2097_method_42_code 207 = .ok (.invokestatic 414, 3) := by decide +kernel
theorem d13_210 : decode jdk_2097_method_42_code 210 = .ok (.i2l, 1) := by decide +kernel
theorem d13_211 : decode jdk_2097_method_42_code 211 = .ok (.aload_n 1, 1) := by decide +kernel
theorem d13_212 : decode jdk_2097_method_42_code 212 = .ok (.getfield 28, 3) := by decide +kernel
theorem d13_215 : decode jdk_2097_method_42_code 215 = .ok (.aload_n 1, 1) := by decide +kernel
theorem d13_216 : decode jdk_2097_method_42_code 216 = .ok (.getfield 28, 3) := by decide +kernel
theorem d13_219 : decode jdk_2097_method_42_code 219 = .ok (.arraylength, 1) := by decide +kernel
theorem d13_220 : decode jdk_2097_method_42_code 220 = .ok (.invokestatic 414, 3) := by decide +kernel
theorem d13_223 : decode jdk_2097_method_42_code 223 = .ok (.i2l, 1) := by decide +kernel
theorem d13_224 : decode jdk_2097_method_42_code 224 = .ok (.ladd, 1) := by decide +kernel
theorem d13_225 : decode jdk_2097_method_42_code 225 = .ok (.ldc2_w 417, 3) := by decide +kernel
theorem d13_228 : decode jdk_2097_method_42_code 228 = .ok (.lcmp, 1) := by decide +kernel
theorem d13_229 : decode jdk_2097_method_42_code 229 = .ok (.ifCond .le 6, 3) := by decide +kernel
theorem d13_232 : decode jdk_2097_method_42_code 232 = .ok (.invokestatic 101, 3) := by decide +kernel
theorem d13_235 : decode jdk_2097_method_42_code 235 = .ok (.aload_n 0, 1) := by decide +kernel
theorem d13_236 : decode jdk_2097_method_42_code 236 = .ok (.aload_n 1, 1) := by decide +kernel
theorem d13_237 : decode jdk_2097_method_42_code 237 = .ok (.iload_n 3, 1) := by decide +kernel
theorem d13_238 : decode jdk_2097_method_42_code 238 = .ok (.iload 4, 2) := by decide +kernel
theorem d13_240 : decode jdk_2097_method_42_code 240 = .ok (.invokestatic 419, 3) := by decide +kernel
theorem d13_243 : decode jdk_2097_method_42_code 243 = .ok (.areturn, 1) := by decide +kernel
theorem ef_rmM4 (m : MethodId) (zr : Addr) (y : Addr) : entryFrame m #[(.ref zr), (.ref y), (.int (0 : Int32)), (.int (0 : Int32)), (.int (0 : Int32))] 9 = mkF m 0 #[.val (.ref zr), .val (.ref y), .val (.int (0 : Int32)), .val (.int (0 : Int32)), .val (.int (0 : Int32)), .unset, .unset, .unset, .unset] [] := by first | (simp [entryFrame, mkF, argsToLocals, Value.category, maxLocals]; done) | rfl
set_option maxRecDepth 65536 in
set_option maxHeartbeats 40000000 in
theorem rmM4 (l : Launch) (Z : State) (a0 : Array Value) (hw : ∀ d ∈ tables_1, d.before a0 Z = true) (ws : List Jvm.Cond) (y : Addr) (sg : Int32) (hB : Heap) (zr mz pa za rmo lt mir : Addr) (mc pk zc lc : Cell) (h0 : Heap) (n0 : Nat) (Z0 : n0 ≤ h0.size) (Eb : Ext hB h0) (WD : OwnWd Z a0 hB zr mz pa za rmo lt mir mc pk zc lc) (Fy : Fld Z h0 y "java/math/BigInteger" "signum" "I" (.int sg)) :
    MetFree l (⟨"java/math/BigInteger", "multiply", "(Ljava/math/BigInteger;ZZI)Ljava/math/BigInteger;"⟩ : MethodName) (head1 (Jvm.Cond.code (⟨"java/math/BigInteger", "multiply", "(Ljava/math/BigInteger;ZZI)Ljava/math/BigInteger;"⟩ : MethodName) jdk_2097_method_42_code (9 : Nat) (Option.some (Jvm.ClassFile.FieldType.object "java/math/BigInteger")) :: ws) ({ frames := 0, cells := 0, slots := 0, locals := 0 } : Room)) (fun aZ UZ => aZ = #[(.ref zr), (.ref y), (.int (0 : Int32)), (.int (0 : Int32)), (.int (0 : Int32))] ∧ Z.Warmed39 UZ.vm ∧ UZ.heap = h0) (fun _ _ _ _ _ => True) (fun _ UZ oZ VZ => ∃ vZ LZ, oZ = .returned vZ ∧ (QSame (some (.ref zr)) h0 n0) vZ VZ.heap LZ ∧ FrameEnd UZ oZ VZ LZ ({ frames := 0, cells := 0, slots := 0, locals := 0 } : Room).cells ({ frames := 0, cells := 0, slots := 0, locals := 0 } : Room).slots) := by
  refine MetFree.of_bodySF (plainFor_of_name pn_4) hisR ?_
  intro p e s m args below meth c s₁ Bd hml0 hP hK
  obtain ⟨rfl, hZ, hh⟩ := hP
  have hx := Bd.exec
  have hby := Bd.bytes
  have hml : c.maxLocals = 9 := hml0
  have hown : s.vm.findClass "java/math/BigInteger" = some m.cls := findClass_of_methodNamed Bd.named
  have hnm := (name_of_methodNamed Bd.named Bd.method).1
  have X0 : Stand p l e ({ frames := 0, cells := 0, slots := 0, locals := 0 } : Room) s m #[(.ref zr), (.ref y), (.int (0 : Int32)), (.int (0 : Int32)), (.int (0 : Int32))] below meth c s₁ [] 0 0 := Stand.of_body Bd
  have e0 : s₁.heap = h0 := by rw [← hh, Bd.state]; rfl
  have N0 := Fr.nil n0
  show OwnG p e below (OwnE s (QSame (some (.ref zr)) h0 n0) ({ frames := 0, cells := 0, slots := 0, locals := 0 } : Room).cells ({ frames := 0, cells := 0, slots := 0, locals := 0 } : Room).slots) _
  refine own_by (S' := s₁.setTop (mkF m 0 #[.val (.ref zr), .val (.ref y), .val (.int (0 : Int32)), .val (.int (0 : Int32)), .val (.int (0 : Int32)), .unset, .unset, .unset, .unset] [])) (fun tZ kZ => castTop (ef_rmM4 m zr y) kZ) ?_
  obtain ⟨wS, wE, wF, wM, wA, wAz, wP, wPA, wPz, wPe, wT, wTA, wTz, wTe, wH, wHF, wL, wLA, wLz, wMi⟩ := id WD
  refine own_by (S' := s₁.setTop (mkF m 1 #[.val (.ref zr), .val (.ref y), .val (.int (0 : Int32)), .val (.int (0 : Int32)), .val (.int (0 : Int32)), .unset, .unset, .unset, .unset] [(.ref y)])) (fun tZ kZ => XS.aloadN X0.here hx rfl (hb hby d13_0) rfl rfl kZ) ?_
  obtain ⟨T1, X1, e1, st1⟩ := getF X0 hx hZ hown (host := "") (Or.inl (hw _ (List.mem_of_getElem? (i := 111) rfl))) Via.refl e0 Fy (g := (mkF m 1 #[.val (.ref zr), .val (.ref y), .val (.int (0 : Int32)), .val (.int (0 : Int32)), .val (.int (0 : Int32)), .unset, .unset, .unset, .unset] [(.ref y)])) rfl rfl (hb hby d13_1)
  refine own_by (S' := T1.setTop (mkF m 4 #[.val (.ref zr), .val (.ref y), .val (.int (0 : Int32)), .val (.int (0 : Int32)), .val (.int (0 : Int32)), .unset, .unset, .unset, .unset] [(.int sg)])) st1 ?_
  by_cases hc : sg = (0 : Int32)
  · refine own_by (S' := T1.setTop (mkF m 14 #[.val (.ref zr), .val (.ref y), .val (.int (0 : Int32)), .val (.int (0 : Int32)), .val (.int (0 : Int32)), .unset, .unset, .unset, .unset] [])) (fun tZ kZ => XS.ifYes X1.here hx rfl (pc0 := 4) (pc' := 14) rfl (hb hby d13_4) rfl ((if0 _ _).trans (teq hc).1) (by decide) (by decide) kZ) ?_
    obtain ⟨T2, X2, e2, st2⟩ := getS2 X1 hx hZ hown (host := "") (Or.inl (hw _ (List.mem_of_getElem? (i := 98) rfl))) Via.refl e1 (wS.ext Eb) (g := (mkF m 14 #[.val (.ref zr), .val (.ref y), .val (.int (0 : Int32)), .val (.int (0 : Int32)), .val (.int (0 : Int32)), .unset, .unset, .unset, .unset] [])) rfl (hb hby d13_14)
    refine own_by (S' := T2.setTop (mkF m 17 #[.val (.ref zr), .val (.ref y), .val (.int (0 : Int32)), .val (.int (0 : Int32)), .val (.int (0 : Int32)), .unset, .unset, .unset, .unset] [(.ref zr)])) st2 ?_
    exact own_retA X2 hx Bd.returns rfl rfl (hb hby d13_17) Bd.notSynchronized (by decide) (by decide) ⟨rfl, N0, e2⟩
  · refine own_by (S' := T1.setTop (mkF m 7 #[.val (.ref zr), .val (.ref y), .val (.int (0 : Int32)), .val (.int (0 : Int32)), .val (.int (0 : Int32)), .unset, .unset, .unset, .unset] [])) (fun tZ kZ => XS.ifNo X1.here hx rfl (hb hby d13_4) rfl ((if0 _ _).trans (feq hc).1) kZ) ?_
    refine own_by (S' := T1.setTop (mkF m 8 #[.val (.ref zr), .val (.ref y), .val (.int (0 : Int32)), .val (.int (0 : Int32)), .val (.int (0 : Int32)), .unset, .unset, .unset, .unset] [(.ref zr)])) (fun tZ kZ => XS.aloadN X1.here hx rfl (hb hby d13_7) rfl rfl kZ) ?_
    obtain ⟨T3, X3, e3, st3⟩ := getF X1 hx hZ hown (host := "") (Or.inl (hw _ (List.mem_of_getElem? (i := 111) rfl))) Via.refl e1 (wF.ext Eb) (g := (mkF m 8 #[.val (.ref zr), .val (.ref y), .val (.int (0 : Int32)), .val (.int (0 : Int32)), .val (.int (0 : Int32)), .unset, .unset, .unset, .unset] [(.ref zr)])) rfl rfl (hb hby d13_8)
    refine own_by (S' := T3.setTop (mkF m 11 #[.val (.ref zr), .val (.ref y), .val (.int (0 : Int32)), .val (.int (0 : Int32)), .val (.int (0 : Int32)), .unset, .unset, .unset, .unset] [(.int (0 : Int32))])) st3 ?_
    refine own_by (S' := T3.setTop (mkF m 14 #[.val (.ref zr), .val (.ref y), .val (.int (0 : Int32)), .val (.int (0 : Int32)), .val (.int (0 : Int32)), .unset, .unset, .unset, .unset] [])) (fun tZ kZ => XS.ifNo X3.here hx rfl (hb hby d13_11) rfl ((if0 _ _).trans (teq rfl).2) kZ) ?_
    obtain ⟨T4, X4, e4, st4⟩ := getS2 X3 hx hZ hown (host := "") (Or.inl (hw _ (List.mem_of_getElem? (i := 98) rfl))) Via.refl e3 (wS.ext Eb) (g := (mkF m 14 #[.val (.ref zr), .val (.ref y), .val (.int (0 : Int32)), .val (.int (0 : Int32)), .val (.int (0 : Int32)), .unset, .unset, .unset, .unset] [])) rfl (hb hby d13_14)
    refine own_by (S' := T4.setTop (mkF m 17 #[.val (.ref zr), .val (.ref y), .val (.int (0 : Int32)), .val (.int (0 : Int32)), .val (.int (0 : Int32)), .unset, .unset, .unset, .unset] [(.ref zr)])) st4 ?_
    exact own_retA X4 hx Bd.returns rfl rfl (hb hby d13_17) Bd.notSynchronized (by decide) (by decide) ⟨rfl, N0, e4⟩
theorem d12_0 : decode jdk_2097_method_40_code 0 = .ok (.aload_n 0, 1) := by decide +kernel
theorem d12_1 : decode jdk_2097_method_40_code 1 = .ok (.aload_n 1, 1) := by decide +kernel
theorem d12_2 : decode jdk_2097_method_40_code 2 = .ok (.iconst 0, 1) := by decide +kernel
theorem d12_3 : decode jdk_2097_method_40_code 3 = .ok (.iconst 0, 1) := by decide +kernel
theorem d12_4 : decode jdk_2097_method_40_code 4 = .ok (.iconst 0, 1) := by decide +kernel
theorem d12_5 : decode jdk_2097_method_40_code 5 = .ok (.invokevirtual 397, 3) := by decide +kernel
theorem d12_8 : decode jdk_2097_method_40_code 8 = .ok (.areturn, 1) := by decide +kernel
theorem ef_rmM1 (m : MethodId) (zr : Addr) (y : Addr) : entryFrame m #[(.ref zr), (.ref y)] 2 = mkF m 0 #[.val (.ref zr), .val (.ref y)] [] := by first | (simp [entryFrame, mkF, argsToLocals, Value.category, maxLocals]; done) | rfl
set_option maxRecDepth 65536 in
set_option maxHeartbeats 40000000 in
theorem rmM1 (l : Launch) (Z : State) (a0 : Array Value) (hw : ∀ d ∈ tables_1, d.before a0 Z = true) (ws : List Jvm.Cond) (y : Addr) (sg : Int32) (hB : Heap) (zr mz pa za rmo lt mir : Addr) (mc pk zc lc : Cell) (h0 : Heap) (n0 : Nat) (Z0 : n0 ≤ h0.size) (Eb : Ext hB h0) (WD : OwnWd Z a0 hB zr mz pa za rmo lt mir mc pk zc lc) (Fy : Fld Z h0 y "java/math/BigInteger" "signum" "I" (.int sg)) :
    MetFree l (⟨"java/math/BigInteger", "multiply", "(Ljava/math/BigInteger;)Ljava/math/BigInteger;"⟩ : MethodName) (head1 (Jvm.Cond.code (⟨"java/math/BigInteger", "multiply", "(Ljava/math/BigInteger;)Ljava/math/BigInteger;"⟩ : MethodName) jdk_2097_method_40_code (2 : Nat) (Option.some (Jvm.ClassFile.FieldType.object "java/math/BigInteger")) :: ws) ({ frames := 1, cells := 0, slots := 0, locals := 20 } : Room)) (fun aZ UZ => aZ = #[(.ref zr), (.ref y)] ∧ Z.Warmed39 UZ.vm ∧ UZ.heap = h0) (fun _ _ _ _ _ => True) (fun _ UZ oZ VZ => ∃ vZ LZ, oZ = .returned vZ ∧ (QSame (some (.ref zr)) h0 n0) vZ VZ.heap LZ ∧ FrameEnd UZ oZ VZ LZ ({ frames := 1, cells := 0, slots := 0, locals := 20 } : Room).cells ({ frames := 1, cells := 0, slots := 0, locals := 20 } : Room).slots) := by
  refine MetFree.of_bodySF (plainFor_of_name pn_4) hisR ?_
  intro p e s m args below meth c s₁ Bd hml0 hP hK
  obtain ⟨rfl, hZ, hh⟩ := hP
  have hx := Bd.exec
  have hby := Bd.bytes
  have hml : c.maxLocals = 2 := hml0
  have hown : s.vm.findClass "java/math/BigInteger" = some m.cls := findClass_of_methodNamed Bd.named
  have hnm := (name_of_methodNamed Bd.named Bd.method).1
  have X0 : Stand p l e ({ frames := 1, cells := 0, slots := 0, locals := 20 } : Room) s m #[(.ref zr), (.ref y)] below meth c s₁ [] 0 0 := Stand.of_body Bd
  have e0 : s₁.heap = h0 := by rw [← hh, Bd.state]; rfl
  have N0 := Fr.nil n0
  show OwnG p e below (OwnE s (QSame (some (.ref zr)) h0 n0) ({ frames := 1, cells := 0, slots := 0, locals := 20 } : Room).cells ({ frames := 1, cells := 0, slots := 0, locals := 20 } : Room).slots) _
  refine own_by (S' := s₁.setTop (mkF m 0 #[.val (.ref zr), .val (.ref y)] [])) (fun tZ kZ => castTop (ef_rmM1 m zr y) kZ) ?_
  obtain ⟨wS, wE, wF, wM, wA, wAz, wP, wPA, wPz, wPe, wT, wTA, wTz, wTe, wH, wHF, wL, wLA, wLz, wMi⟩ := id WD
  refine own_by (S' := s₁.setTop (mkF m 1 #[.val (.ref zr), .val (.ref y)] [(.ref zr)])) (fun tZ kZ => XS.aloadN X0.here hx rfl (hb hby d12_0) rfl rfl kZ) ?_
  refine own_by (S' := s₁.setTop (mkF m 2 #[.val (.ref zr), .val (.ref y)] [(.ref y), (.ref zr)])) (fun tZ kZ => XS.aloadN X0.here hx rfl (hb hby d12_1) rfl rfl kZ) ?_
  refine own_by (S' := s₁.setTop (mkF m 3 #[.val (.ref zr), .val (.ref y)] [(.int (0 : Int32)), (.ref y), (.ref zr)])) (fun tZ kZ => XS.iconst X0.here hx rfl (hb hby d12_2) kZ) ?_
  refine own_by (S' := s₁.setTop (mkF m 4 #[.val (.ref zr), .val (.ref y)] [(.int (0 : Int32)), (.int (0 : Int32)), (.ref y), (.ref zr)])) (fun tZ kZ => XS.iconst X0.here hx rfl (hb hby d12_3) kZ) ?_
  refine own_by (S' := s₁.setTop (mkF m 5 #[.val (.ref zr), .val (.ref y)] [(.int (0 : Int32)), (.int (0 : Int32)), (.int (0 : Int32)), (.ref y), (.ref zr)])) (fun tZ kZ => XS.iconst X0.here hx rfl (hb hby d12_4) kZ) ?_
  obtain ⟨cq1, q1, q1'⟩ := (wE.ext Eb).cell
  obtain ⟨_, _, ⟨T1, L1, k1, n1⟩, -, X1, ⟨Lc1, hQ1, l1, y1, z1⟩, st1⟩ := X0.privateBack hx (y := (⟨"java/math/BigInteger", "multiply", "(Ljava/math/BigInteger;ZZI)Ljava/math/BigInteger;"⟩ : MethodName)) hown (mvT hZ (hw _ (List.mem_of_getElem? (i := 106) rfl))) (mvT hZ (hw _ (List.mem_of_getElem? (i := 107) rfl))) (mvT hZ (hw _ (List.mem_of_getElem? (i := 109) rfl))) (Cond.privateMethod_at (mvP hZ (hw _ (List.mem_of_getElem? (i := 108) rfl)) (args := #[]))) (mvT hZ (hw _ (List.mem_of_getElem? (i := 110) rfl))) (by decide) (backOf (W := 0) (rmM4 l Z a0 hw [] y sg hB zr mz pa za rmo lt mir mc pk zc lc h0 n0 Z0 Eb WD Fy) hZ (hw _ (List.mem_of_getElem? (i := 110) rfl)) (hw _ (List.mem_of_getElem? (i := 23) rfl)) (by decide) (by decide)) (g := (mkF m 5 #[.val (.ref zr), .val (.ref y)] [(.int (0 : Int32)), (.int (0 : Int32)), (.int (0 : Int32)), (.ref y), (.ref zr)])) rfl (by rw [hml]; rfl) (Steps.refl _) (a := zr) (by rw [e0]; exact q1) q1' (argsL := [(.ref y), (.int (0 : Int32)), (.int (0 : Int32)), (.int (0 : Int32))]) (rest := []) (lenOf pd_2 rfl) rfl (by show 2 * 0 + _ ≤ _; exact Nat.le_of_eq rfl) (hb hby d12_5) (fun _ _ => ⟨rfl, e0, (by decide : 0 + 0 ≤ _), (by decide : 0 + 0 ≤ _)⟩)
  dsimp only [Pt.U, Pt.locs, Pt.cells, Pt.slots] at X1 l1 y1 z1 st1 hQ1
  subst l1 y1 z1
  obtain ⟨rfl, N1q, heq1⟩ := hQ1
  have N1 := Fr.app N0 N1q
  refine own_by (S' := T1.setTop (mkF m 8 #[.val (.ref zr), .val (.ref y)] [(.ref zr)])) (fun tZ kZ => st1.trans kZ) ?_
  exact own_retA X1 hx Bd.returns rfl rfl (hb hby d12_8) Bd.notSynchronized (by decide) (by decide) ⟨rfl, N1, heq1⟩
theorem d14_0 : decode jdk_2097_method_32_code 0 = .ok (.aload_n 1, 1) := by decide +kernel
theorem d14_1 : decode jdk_2097_method_32_code 1 = .ok (.getfield 32, 3) := by decide +kernel
theorem d14_4 : decode jdk_2097_method_32_code 4 = .ok (.ifCond .ne 5, 3) := by decide +kernel
theorem d14_7 : decode jdk_2097_method_32_code 7 = .ok (.aload_n 0, 1) := by decide +kernel
theorem d14_8 : decode jdk_2097_method_32_code 8 = .ok (.areturn, 1) := by decide +kernel
theorem d14_9 : decode jdk_2097_method_32_code 9 = .ok (.aload_n 0, 1) := by decide +kernel
theorem d14_10 : decode jdk_2097_method_32_code 10 = .ok (.getfield 32, 3) := by decide +kernel
theorem d14_13 : decode jdk_2097_method_32_code 13 = .ok (.ifCond .ne 5, 3) := by decide +kernel
theorem d14_16 : decode jdk_2097_method_32_code 16 = .ok (.aload_n 1, 1) := by decide +kernel
theorem d14_17 : decode jdk_2097_method_32_code 17 = .ok (.areturn, 1) := by decide +kernel
theorem d14_18 : decode jdk_2097_method_32_code 18 = .ok (.aload_n 1, 1) := by decide +kernel
theorem d14_19 : decode jdk_2097_method_32_code 19 = .ok (.getfield 32, 3) := by decide +kernel
theorem d14_22 : decode jdk_2097_method_32_code 22 = .ok (.aload_n 0, 1) := by decide +kernel
theorem d14_23 : decode jdk_2097_method_32_code 23 = .ok (.getfield 32, 3) := by decide +kernel
theorem d14_26 : decode jdk_2097_method_32_code 26 = .ok (.if_icmp .ne 26, 3) := by decide +kernel
theorem d14_29 : decode jdk_2097_method_32_code 29 = .ok (.new 23, 3) := by decide +kernel
theorem d14_32 : decode jdk_2097_method_32_code 32 = .ok (.dup, 1) := by decide +kernel
theorem d14_33 : decode jdk_2097_method_32_code 33 = .ok (.aload_n 0, 1) := by decide +kernel
theorem d14_34 : decode jdk_2097_method_32_code 34 = .ok (.getfield 28, 3) := by decide +kernel
theorem d14_37 : decode jdk_2097_method_32_code 37 = .ok (.aload_n 1, 1) := by decide +kernel
theorem d14_38 : decode jdk_2097_method_32_code 38 = .ok (.getfield 28, 3) := by decide +kernel
theorem d14_41 : decode jdk_2097_method_32_code 41 = .ok (.invokestatic 362, 3) := by decide +kernel
theorem d14_44 : decode jdk_2097_method_32_code 44 = .ok (.aload_n 0, 1) := by decide +kernel
theorem d14_45 : decode jdk_2097_method_32_code 45 = .ok (.getfield 32, 3) := by decide +kernel
theorem d14_48 : decode jdk_2097_method_32_code 48 = .ok (.invokespecial 175, 3) := by decide +kernel
theorem d14_51 : decode jdk_2097_method_32_code 51 = .ok (.areturn, 1) := by decide +kernel
theorem d14_52 : decode jdk_2097_method_32_code 52 = .ok (.aload_n 0, 1) := by decide +kernel
theorem d14_53 : decode jdk_2097_method_32_code 53 = .ok (.aload_n 1, 1) := by decide +kernel
theorem d14_54 : decode jdk_2097_method_32_code 54 = .ok (.invokevirtual 365, 3) := by decide +kernel
theorem d14_57 : decode jdk_2097_method_32_code 57 = .ok (.istore_n 2, 1) := by decide +kernel
theorem d14_58 : decode jdk_2097_method_32_code 58 = .ok (.iload_n 2, 1) := by decide +kernel
theorem d14_59 : decode jdk_2097_method_32_code 59 = .ok (.ifCond .ne 7, 3) := by decide +kernel
theorem d14_62 : decode jdk_2097_method_32_code 62 = .ok (.getstatic 22, 3) := by decide +kernel
theorem d14_65 : decode jdk_2097_method_32_code 65 = .ok (.areturn, 1) := by decide +kernel
theorem d14_66 : decode jdk_2097_method_32_code 66 = .ok (.iload_n 2, 1) := by decide +kernel
theorem d14_67 : decode jdk_2097_method_32_code 67 = .ok (.ifCond .le 17, 3) := by decide +kernel
theorem d14_70 : decode jdk_2097_method_32_code 70 = .ok (.aload_n 0, 1) := by decide +kernel
theorem d14_71 : decode jdk_2097_method_32_code 71 = .ok (.getfield 28, 3) := by decide +kernel
theorem d14_74 : decode jdk_2097_method_32_code 74 = .ok (.aload_n 1, 1) := by decide +kernel
theorem d14_75 : decode jdk_2097_method_32_code 75 = .ok (.getfield 28, 3) := by decide +kernel
theorem d14_78 : decode jdk_2097_method_32_code 78 = .ok (.invokestatic 368, 3) := by decide +kernel
theorem d14_81 : decode jdk_2097_method_32_code 81 = .ok (.goto 14, 3) := by decide +kernel
theorem d14_84 : decode jdk_2097_method_32_code 84 = .ok (.aload_n 1, 1) := by decide +kernel
theorem d14_85 : decode jdk_2097_method_32_code 85 = .ok (.getfield 28, 3) := by decide +kernel
theorem d14_88 : decode jdk_2097_method_32_code 88 = .ok (.aload_n 0, 1) := by decide +kernel
theorem d14_89 : decode jdk_2097_method_32_code 89 = .ok (.getfield 28, 3) := by decide +kernel
theorem d14_92 : decode jdk_2097_method_32_code 92 = .ok (.invokestatic 368, 3) := by decide +kernel
theorem d14_95 : decode jdk_2097_method_32_code 95 = .ok (.astore_n 3, 1) := by decide +kernel
theorem d14_96 : decode jdk_2097_method_32_code 96 = .ok (.aload_n 3, 1) := by decide +kernel
theorem d14_97 : decode jdk_2097_method_32_code 97 = .ok (.invokestatic 53, 3) := by decide +kernel
theorem d14_100 : decode jdk_2097_method_32_code 100 = .ok (.astore_n 3, 1) := by decide +kernel
theorem d14_101 : decode jdk_2097_method_32_code 101 = .ok (.new 23, 3) := by decide +kernel
theorem d14_104 : decode jdk_2097_method_32_code 104 = .ok (.dup, 1) := by decide +kernel
theorem d14_105 : decode jdk_2097_method_32_code 105 = .ok (.aload_n 3, 1) := by decide +kernel
theorem d14_106 : decode jdk_2097_method_32_code 106 = .ok (.iload_n 2, 1) := by decide +kernel
theorem d14_107 : decode jdk_2097_method_32_code 107 = .ok (.aload_n 0, 1) := by decide +kernel
theorem d14_108 : decode jdk_2097_method_32_code 108 = .ok (.getfield 32, 3) := by decide +kernel
theorem d14_111 : decode jdk_2097_method_32_code 111 = .ok (.if_icmp .ne 7, 3) := by decide +kernel
theorem d14_114 : decode jdk_2097_method_32_code 114 = .ok (.iconst 1, 1) := by decide +kernel
theorem d14_115 : decode jdk_2097_method_32_code 115 = .ok (.goto 4, 3) := by decide +kernel
theorem d14_118 : decode jdk_2097_method_32_code 118 = .ok (.iconst (-1), 1) := by decide +kernel
theorem d14_119 : decode jdk_2097_method_32_code 119 = .ok (.invokespecial 175, 3) := by decide +kernel
theorem d14_122 : decode jdk_2097_method_32_code 122 = .ok (.areturn, 1) := by decide +kernel
theorem ef_rmAdd (m : MethodId) (zr : Addr) : entryFrame m #[(.ref zr), (.ref zr)] 4 = mkF m 0 #[.val (.ref zr), .val (.ref zr), .unset, .unset] [] := by first | (simp [entryFrame, mkF, argsToLocals, Value.category, maxLocals]; done) | rfl
set_option maxRecDepth 65536 in
set_option maxHeartbeats 40000000 in
theorem rmAdd (l : Launch) (Z : State) (a0 : Array Value) (hw : ∀ d ∈ tables_1, d.before a0 Z = true) (ws : List Jvm.Cond) (hB : Heap) (zr mz pa za rmo lt mir : Addr) (mc pk zc lc : Cell) (h0 : Heap) (n0 : Nat) (Z0 : n0 ≤ h0.size) (Eb : Ext hB h0) (WD : OwnWd Z a0 hB zr mz pa za rmo lt mir mc pk zc lc) :
    MetFree l (⟨"java/math/BigInteger", "add", "(Ljava/math/BigInteger;)Ljava/math/BigInteger;"⟩ : MethodName) (head1 (Jvm.Cond.code (⟨"java/math/BigInteger", "add", "(Ljava/math/BigInteger;)Ljava/math/BigInteger;"⟩ : MethodName) jdk_2097_method_32_code (4 : Nat) (Option.some (Jvm.ClassFile.FieldType.object "java/math/BigInteger")) :: ws) ({ frames := 0, cells := 0, slots := 0, locals := 0 } : Room)) (fun aZ UZ => aZ = #[(.ref zr), (.ref zr)] ∧ Z.Warmed39 UZ.vm ∧ UZ.heap = h0) (fun _ _ _ _ _ => True) (fun _ UZ oZ VZ => ∃ vZ LZ, oZ = .returned vZ ∧ (QSame (some (.ref zr)) h0 n0) vZ VZ.heap LZ ∧ FrameEnd UZ oZ VZ LZ ({ frames := 0, cells := 0, slots := 0, locals := 0 } : Room).cells ({ frames := 0, cells := 0, slots := 0, locals := 0 } : Room).slots) := by
  refine MetFree.of_bodySF (plainFor_of_name pn_4) hisR ?_
  intro p e s m args below meth c s₁ Bd hml0 hP hK
  obtain ⟨rfl, hZ, hh⟩ := hP
  have hx := Bd.exec
  have hby := Bd.bytes
  have hml : c.maxLocals = 4 := hml0
  have hown : s.vm.findClass "java/math/BigInteger" = some m.cls := findClass_of_methodNamed Bd.named
  have hnm := (name_of_methodNamed Bd.named Bd.method).1
  have X0 : Stand p l e ({ frames := 0, cells := 0, slots := 0, locals := 0 } : Room) s m #[(.ref zr), (.ref zr)] below meth c s₁ [] 0 0 := Stand.of_body Bd
  have e0 : s₁.heap = h0 := by rw [← hh, Bd.state]; rfl
  have N0 := Fr.nil n0
  show OwnG p e below (OwnE s (QSame (some (.ref zr)) h0 n0) ({ frames := 0, cells := 0, slots := 0, locals := 0 } : Room).cells ({ frames := 0, cells := 0, slots := 0, locals := 0 } : Room).slots) _
  refine own_by (S' := s₁.setTop (mkF m 0 #[.val (.ref zr), .val (.ref zr), .unset, .unset] [])) (fun tZ kZ => castTop (ef_rmAdd m zr) kZ) ?_
  obtain ⟨wS, wE, wF, wM, wA, wAz, wP, wPA, wPz, wPe, wT, wTA, wTz, wTe, wH, wHF, wL, wLA, wLz, wMi⟩ := id WD
  refine own_by (S' := s₁.setTop (mkF m 1 #[.val (.ref zr), .val (.ref zr), .unset, .unset] [(.ref zr)])) (fun tZ kZ => XS.aloadN X0.here hx rfl (hb hby d14_0) rfl rfl kZ) ?_
  obtain ⟨T1, X1, e1, st1⟩ := getF X0 hx hZ hown (host := "") (Or.inl (hw _ (List.mem_of_getElem? (i := 111) rfl))) Via.refl e0 (wF.ext Eb) (g := (mkF m 1 #[.val (.ref zr), .val (.ref zr), .unset, .unset] [(.ref zr)])) rfl rfl (hb hby d14_1)
  refine own_by (S' := T1.setTop (mkF m 4 #[.val (.ref zr), .val (.ref zr), .unset, .unset] [(.int (0 : Int32))])) st1 ?_
  refine own_by (S' := T1.setTop (mkF m 7 #[.val (.ref zr), .val (.ref zr), .unset, .unset] [])) (fun tZ kZ => XS.ifNo X1.here hx rfl (hb hby d14_4) rfl ((if0 _ _).trans (teq rfl).2) kZ) ?_
  refine own_by (S' := T1.setTop (mkF m 8 #[.val (.ref zr), .val (.ref zr), .unset, .unset] [(.ref zr)])) (fun tZ kZ => XS.aloadN X1.here hx rfl (hb hby d14_7) rfl rfl kZ) ?_
  exact own_retA X1 hx Bd.returns rfl rfl (hb hby d14_8) Bd.notSynchronized (by decide) (by decide) ⟨rfl, N0, e1⟩
theorem d19_0 : decode jdk_17_method_11_code 0 = .ok (.aload_n 0, 1) := by decide +kernel
theorem d19_1 : decode jdk_17_method_11_code 1 = .ok (.invokevirtual 210, 3) := by decide +kernel
theorem d19_4 : decode jdk_17_method_11_code 4 = .ok (.ldc 9, 2) := by decide +kernel
theorem d19_6 : decode jdk_17_method_11_code 6 = .ok (.if_acmp .ne 7, 3) := by decide +kernel
theorem d19_9 : decode jdk_17_method_11_code 9 = .ok (.aload_n 0, 1) := by decide +kernel
theorem d19_10 : decode jdk_17_method_11_code 10 = .ok (.goto 20, 3) := by decide +kernel
theorem d19_13 : decode jdk_17_method_11_code 13 = .ok (.new 9, 3) := by decide +kernel
theorem d19_16 : decode jdk_17_method_11_code 16 = .ok (.dup, 1) := by decide +kernel
theorem d19_17 : decode jdk_17_method_11_code 17 = .ok (.aload_n 0, 1) := by decide +kernel
theorem d19_18 : decode jdk_17_method_11_code 18 = .ok (.invokevirtual 216, 3) := by decide +kernel
theorem d19_21 : decode jdk_17_method_11_code 21 = .ok (.invokevirtual 220, 3) := by decide +kernel
theorem d19_24 : decode jdk_17_method_11_code 24 = .ok (.checkcast 221, 3) := by decide +kernel
theorem d19_27 : decode jdk_17_method_11_code 27 = .ok (.invokespecial 226, 3) := by decide +kernel
theorem d19_30 : decode jdk_17_method_11_code 30 = .ok (.areturn, 1) := by decide +kernel
theorem pn_5 : plainName "java/math/BigDecimal" = true := by first | (simp [plainName, overriddenIn]; done) | decide +kernel
theorem ef_rmSt (m : MethodId) (zr : Addr) : entryFrame m #[(.ref zr)] 1 = mkF m 0 #[.val (.ref zr)] [] := by first | (simp [entryFrame, mkF, argsToLocals, Value.category, maxLocals]; done) | rfl
set_option maxRecDepth 65536 in
set_option maxHeartbeats 40000000 in
theorem rmSt (l : Launch) (Z : State) (a0 : Array Value) (hw : ∀ d ∈ tables_1, d.before a0 Z = true) (ws : List Jvm.Cond) (hB : Heap) (zr mz pa za rmo lt mir : Addr) (mc pk zc lc : Cell) (h0 : Heap) (n0 : Nat) (Z0 : n0 ≤ h0.size) (Eb : Ext hB h0) (WD : OwnWd Z a0 hB zr mz pa za rmo lt mir mc pk zc lc) :
    MetFree l (⟨"java/math/BigDecimal", "toStrictBigInteger", "(Ljava/math/BigInteger;)Ljava/math/BigInteger;"⟩ : MethodName) (head1 (Jvm.Cond.code (⟨"java/math/BigDecimal", "toStrictBigInteger", "(Ljava/math/BigInteger;)Ljava/math/BigInteger;"⟩ : MethodName) jdk_17_method_11_code (1 : Nat) (Option.some (Jvm.ClassFile.FieldType.object "java/math/BigInteger")) :: ws) ({ frames := 1, cells := 0, slots := 0, locals := 14 } : Room)) (fun aZ UZ => aZ = #[(.ref zr)] ∧ Z.Warmed39 UZ.vm ∧ UZ.heap = h0) (fun _ _ _ _ _ => True) (fun _ UZ oZ VZ => ∃ vZ LZ, oZ = .returned vZ ∧ (QSame (some (.ref zr)) h0 n0) vZ VZ.heap LZ ∧ FrameEnd UZ oZ VZ LZ ({ frames := 1, cells := 0, slots := 0, locals := 14 } : Room).cells ({ frames := 1, cells := 0, slots := 0, locals := 14 } : Room).slots) := by
  refine MetFree.of_bodySF (plainFor_of_name pn_5) hisR ?_
  intro p e s m args below meth c s₁ Bd hml0 hP hK
  obtain ⟨rfl, hZ, hh⟩ := hP
  have hx := Bd.exec
  have hby := Bd.bytes
  have hml : c.maxLocals = 1 := hml0
  have hown : s.vm.findClass "java/math/BigDecimal" = some m.cls := findClass_of_methodNamed Bd.named
  have hnm := (name_of_methodNamed Bd.named Bd.method).1
  have X0 : Stand p l e ({ frames := 1, cells := 0, slots := 0, locals := 14 } : Room) s m #[(.ref zr)] below meth c s₁ [] 0 0 := Stand.of_body Bd
  have e0 : s₁.heap = h0 := by rw [← hh, Bd.state]; rfl
  have N0 := Fr.nil n0
  show OwnG p e below (OwnE s (QSame (some (.ref zr)) h0 n0) ({ frames := 1, cells := 0, slots := 0, locals := 14 } : Room).cells ({ frames := 1, cells := 0, slots := 0, locals := 14 } : Room).slots) _
  refine own_by (S' := s₁.setTop (mkF m 0 #[.val (.ref zr)] [])) (fun tZ kZ => castTop (ef_rmSt m zr) kZ) ?_
  obtain ⟨wS, wE, wF, wM, wA, wAz, wP, wPA, wPz, wPe, wT, wTA, wTz, wTe, wH, wHF, wL, wLA, wLz, wMi⟩ := id WD
  refine own_by (S' := s₁.setTop (mkF m 1 #[.val (.ref zr)] [(.ref zr)])) (fun tZ kZ => XS.aloadN X0.here hx rfl (hb hby d19_0) rfl rfl kZ) ?_
  obtain ⟨T1, X1, e1, st1⟩ := own_gc X0 hx hZ hown (hw _ (List.mem_of_getElem? (i := 147) rfl)) (hw _ (List.mem_of_getElem? (i := 148) rfl)) (hw _ (List.mem_of_getElem? (i := 150) rfl)) (hw _ (List.mem_of_getElem? (i := 149) rfl)) (hw _ (List.mem_of_getElem? (i := 151) rfl)) e0 (wE.ext Eb) wMi (g := (mkF m 1 #[.val (.ref zr)] [(.ref zr)])) rfl (by rw [hml]; rfl) rfl (hb hby d19_1) (W := 0) (by show 2 * 0 + _ ≤ _; exact Nat.le_of_eq rfl) (by decide) (by decide)
  refine own_by (S' := T1.setTop (mkF m 4 #[.val (.ref zr)] [(.ref mir)])) st1 ?_
  obtain ⟨T2, X2, e2, st2⟩ := own_lm X1 hx hZ hown (hw _ (List.mem_of_getElem? (i := 153) rfl)) e1 wMi (g := (mkF m 4 #[.val (.ref zr)] [(.ref mir)])) rfl (hb hby d19_4)
  refine own_by (S' := T2.setTop (mkF m 6 #[.val (.ref zr)] [(.ref mir), (.ref mir)])) st2 ?_
  refine own_by (S' := T2.setTop (mkF m 9 #[.val (.ref zr)] [])) (fun tZ kZ => Jvm.RoadKit.acmp (g := (mkF m 6 #[.val (.ref zr)] [(.ref mir), (.ref mir)])) X2 hx rfl rfl rfl (pc0 := 6) (pc' := 9) (same := true) rfl (hb hby d19_6) rfl (decide_eq_true rfl) (by decide) (by decide) kZ) ?_
  refine own_by (S' := T2.setTop (mkF m 10 #[.val (.ref zr)] [(.ref zr)])) (fun tZ kZ => XS.aloadN X2.here hx rfl (hb hby d19_9) rfl rfl kZ) ?_
  refine own_by (S' := T2.setTop (mkF m 30 #[.val (.ref zr)] [(.ref zr)])) (fun tZ kZ => XS.goto X2.here hx rfl (pc0 := 10) (pc' := 30) rfl (hb hby d19_10) (by decide) (by decide) kZ) ?_
  exact own_retA X2 hx Bd.returns rfl rfl (hb hby d19_30) Bd.notSynchronized (by decide) (by decide) ⟨rfl, N0, e2⟩
theorem d20_0 : decode jdk_17_method_107_code 0 = .ok (.aload_n 0, 1) := by decide +kernel
theorem d20_1 : decode jdk_17_method_107_code 1 = .ok (.getfield 878, 3) := by decide +kernel
theorem d20_4 : decode jdk_17_method_107_code 4 = .ok (.astore_n 1, 1) := by decide +kernel
theorem d20_5 : decode jdk_17_method_107_code 5 = .ok (.aload_n 1, 1) := by decide +kernel
theorem d20_6 : decode jdk_17_method_107_code 6 = .ok (.arraylength, 1) := by decide +kernel
theorem d20_7 : decode jdk_17_method_107_code 7 = .ok (.istore_n 2, 1) := by decide +kernel
theorem d20_8 : decode jdk_17_method_107_code 8 = .ok (.iload_n 2, 1) := by decide +kernel
theorem d20_9 : decode jdk_17_method_107_code 9 = .ok (.ifCond .ne 5, 3) := by decide +kernel
theorem d20_12 : decode jdk_17_method_107_code 12 = .ok (.lconst 0, 1) := by decide +kernel
theorem d20_13 : decode jdk_17_method_107_code 13 = .ok (.lreturn, 1) := by decide +kernel
theorem d20_14 : decode jdk_17_method_107_code 14 = .ok (.aload_n 1, 1) := by decide +kernel
theorem d20_15 : decode jdk_17_method_107_code 15 = .ok (.iconst 0, 1) := by decide +kernel
theorem d20_16 : decode jdk_17_method_107_code 16 = .ok (.iaload, 1) := by decide +kernel
theorem d20_17 : decode jdk_17_method_107_code 17 = .ok (.istore_n 3, 1) := by decide +kernel
theorem d20_18 : decode jdk_17_method_107_code 18 = .ok (.iload_n 2, 1) := by decide +kernel
theorem d20_19 : decode jdk_17_method_107_code 19 = .ok (.iconst 2, 1) := by decide +kernel
theorem d20_20 : decode jdk_17_method_107_code 20 = .ok (.if_icmp .gt 12, 3) := by decide +kernel
theorem d20_23 : decode jdk_17_method_107_code 23 = .ok (.iload_n 2, 1) := by decide +kernel
theorem d20_24 : decode jdk_17_method_107_code 24 = .ok (.iconst 2, 1) := by decide +kernel
theorem d20_25 : decode jdk_17_method_107_code 25 = .ok (.if_icmp .ne 11, 3) := by decide +kernel
theorem d20_28 : decode jdk_17_method_107_code 28 = .ok (.iload_n 3, 1) := by decide +kernel
theorem d20_29 : decode jdk_17_method_107_code 29 = .ok (.ifCond .ge 7, 3) := by decide +kernel
theorem d20_32 : decode jdk_17_method_107_code 32 = .ok (.ldc2_w 125, 3) := by decide +kernel
theorem d20_35 : decode jdk_17_method_107_code 35 = .ok (.lreturn, 1) := by decide +kernel
theorem d20_36 : decode jdk_17_method_107_code 36 = .ok (.iload_n 2, 1) := by decide +kernel
theorem d20_37 : decode jdk_17_method_107_code 37 = .ok (.iconst 2, 1) := by decide +kernel
theorem d20_38 : decode jdk_17_method_107_code 38 = .ok (.if_icmp .ne 20, 3) := by decide +kernel
theorem d20_41 : decode jdk_17_method_107_code 41 = .ok (.aload_n 1, 1) := by decide +kernel
theorem d20_42 : decode jdk_17_method_107_code 42 = .ok (.iconst 1, 1) := by decide +kernel
theorem d20_43 : decode jdk_17_method_107_code 43 = .ok (.iaload, 1) := by decide +kernel
theorem d20_44 : decode jdk_17_method_107_code 44 = .ok (.i2l, 1) := by decide +kernel
theorem d20_45 : decode jdk_17_method_107_code 45 = .ok (.ldc2_w 636, 3) := by decide +kernel
theorem d20_48 : decode jdk_17_method_107_code 48 = .ok (.land, 1) := by decide +kernel
theorem d20_49 : decode jdk_17_method_107_code 49 = .ok (.iload_n 3, 1) := by decide +kernel
theorem d20_50 : decode jdk_17_method_107_code 50 = .ok (.i2l, 1) := by decide +kernel
theorem d20_51 : decode jdk_17_method_107_code 51 = .ok (.bipush 32, 2) := by decide +kernel
theorem d20_53 : decode jdk_17_method_107_code 53 = .ok (.lshl, 1) := by decide +kernel
theorem d20_54 : decode jdk_17_method_107_code 54 = .ok (.ladd, 1) := by decide +kernel
theorem d20_55 : decode jdk_17_method_107_code 55 = .ok (.goto 9, 3) := by decide +kernel
theorem d20_58 : decode jdk_17_method_107_code 58 = .ok (.iload_n 3, 1) := by decide +kernel
theorem d20_59 : decode jdk_17_method_107_code 59 = .ok (.i2l, 1) := by decide +kernel
theorem d20_60 : decode jdk_17_method_107_code 60 = .ok (.ldc2_w 636, 3) := by decide +kernel
theorem d20_63 : decode jdk_17_method_107_code 63 = .ok (.land, 1) := by decide +kernel
theorem d20_64 : decode jdk_17_method_107_code 64 = .ok (.lstore 4, 2) := by decide +kernel
theorem d20_66 : decode jdk_17_method_107_code 66 = .ok (.aload_n 0, 1) := by decide +kernel
theorem d20_67 : decode jdk_17_method_107_code 67 = .ok (.getfield 870, 3) := by decide +kernel
theorem d20_70 : decode jdk_17_method_107_code 70 = .ok (.ifCond .ge 9, 3) := by decide +kernel
theorem d20_73 : decode jdk_17_method_107_code 73 = .ok (.lload 4, 2) := by decide +kernel
theorem d20_75 : decode jdk_17_method_107_code 75 = .ok (.lneg, 1) := by decide +kernel
theorem d20_76 : decode jdk_17_method_107_code 76 = .ok (.goto 5, 3) := by decide +kernel
theorem d20_79 : decode jdk_17_method_107_code 79 = .ok (.lload 4, 2) := by decide +kernel
theorem d20_81 : decode jdk_17_method_107_code 81 = .ok (.lreturn, 1) := by decide +kernel
theorem ef_rmCv (m : MethodId) (zr : Addr) : entryFrame m #[(.ref zr)] 6 = mkF m 0 #[.val (.ref zr), .unset, .unset, .unset, .unset, .unset] [] := by first | (simp [entryFrame, mkF, argsToLocals, Value.category, maxLocals]; done) | rfl
set_option maxRecDepth 65536 in
set_option maxHeartbeats 40000000 in
theorem rmCv (l : Launch) (Z : State) (a0 : Array Value) (hw : ∀ d ∈ tables_1, d.before a0 Z = true) (ws : List Jvm.Cond) (hB : Heap) (zr mz pa za rmo lt mir : Addr) (mc pk zc lc : Cell) (h0 : Heap) (n0 : Nat) (Z0 : n0 ≤ h0.size) (Eb : Ext hB h0) (WD : OwnWd Z a0 hB zr mz pa za rmo lt mir mc pk zc lc) :
    MetFree l (⟨"java/math/BigDecimal", "compactValFor", "(Ljava/math/BigInteger;)J"⟩ : MethodName) (head1 (Jvm.Cond.code (⟨"java/math/BigDecimal", "compactValFor", "(Ljava/math/BigInteger;)J"⟩ : MethodName) jdk_17_method_107_code (6 : Nat) (Option.some Jvm.ClassFile.FieldType.long) :: ws) ({ frames := 0, cells := 0, slots := 0, locals := 0 } : Room)) (fun aZ UZ => aZ = #[(.ref zr)] ∧ Z.Warmed39 UZ.vm ∧ UZ.heap = h0) (fun _ _ _ _ _ => True) (fun _ UZ oZ VZ => ∃ vZ LZ, oZ = .returned vZ ∧ (QSame (some (.long 0)) h0 n0) vZ VZ.heap LZ ∧ FrameEnd UZ oZ VZ LZ ({ frames := 0, cells := 0, slots := 0, locals := 0 } : Room).cells ({ frames := 0, cells := 0, slots := 0, locals := 0 } : Room).slots) := by
  refine MetFree.of_bodySF (plainFor_of_name pn_5) hisR ?_
  intro p e s m args below meth c s₁ Bd hml0 hP hK
  obtain ⟨rfl, hZ, hh⟩ := hP
  have hx := Bd.exec
  have hby := Bd.bytes
  have hml : c.maxLocals = 6 := hml0
  have hown : s.vm.findClass "java/math/BigDecimal" = some m.cls := findClass_of_methodNamed Bd.named
  have hnm := (name_of_methodNamed Bd.named Bd.method).1
  have X0 : Stand p l e ({ frames := 0, cells := 0, slots := 0, locals := 0 } : Room) s m #[(.ref zr)] below meth c s₁ [] 0 0 := Stand.of_body Bd
  have e0 : s₁.heap = h0 := by rw [← hh, Bd.state]; rfl
  have N0 := Fr.nil n0
  show OwnG p e below (OwnE s (QSame (some (.long 0)) h0 n0) ({ frames := 0, cells := 0, slots := 0, locals := 0 } : Room).cells ({ frames := 0, cells := 0, slots := 0, locals := 0 } : Room).slots) _
  refine own_by (S' := s₁.setTop (mkF m 0 #[.val (.ref zr), .unset, .unset, .unset, .unset, .unset] [])) (fun tZ kZ => castTop (ef_rmCv m zr) kZ) ?_
  obtain ⟨wS, wE, wF, wM, wA, wAz, wP, wPA, wPz, wPe, wT, wTA, wTz, wTe, wH, wHF, wL, wLA, wLz, wMi⟩ := id WD
  refine own_by (S' := s₁.setTop (mkF m 1 #[.val (.ref zr), .unset, .unset, .unset, .unset, .unset] [(.ref zr)])) (fun tZ kZ => XS.aloadN X0.here hx rfl (hb hby d20_0) rfl rfl kZ) ?_
  obtain ⟨T1, X1, e1, st1⟩ := getF X0 hx hZ hown (host := "") (Or.inl (hw _ (List.mem_of_getElem? (i := 159) rfl))) Via.refl e0 (wM.ext Eb) (g := (mkF m 1 #[.val (.ref zr), .unset, .unset, .unset, .unset, .unset] [(.ref zr)])) rfl rfl (hb hby d20_1)
  refine own_by (S' := T1.setTop (mkF m 4 #[.val (.ref zr), .unset, .unset, .unset, .unset, .unset] [(.ref mz)])) st1 ?_
  refine own_by (S' := T1.setTop (mkF m 5 #[.val (.ref zr), .val (.ref mz), .unset, .unset, .unset, .unset] [])) (fun tZ kZ => XS.astoreN X1.here hx rfl (hb hby d20_4) rfl rfl (l' := #[.val (.ref zr), .val (.ref mz), .unset, .unset, .unset, .unset]) rfl kZ) ?_
  refine own_by (S' := T1.setTop (mkF m 6 #[.val (.ref zr), .val (.ref mz), .unset, .unset, .unset, .unset] [(.ref mz)])) (fun tZ kZ => XS.aloadN X1.here hx rfl (hb hby d20_5) rfl rfl kZ) ?_
  have wAe : Arr Z h0 mz mc .int := wA.ext Eb
  refine own_by (S' := T1.setTop (mkF m 7 #[.val (.ref zr), .val (.ref mz), .unset, .unset, .unset, .unset] [(.int (0 : Int32))])) (fun tZ kZ => X1.arraylength hx (by rw [e1]; exact wAe.1) (State.isArrayOf_alike hZ.alike wAe.2.1) (g := (mkF m 6 #[.val (.ref zr), .val (.ref mz), .unset, .unset, .unset, .unset] [(.ref mz)])) rfl rfl (hb hby d20_6) _ (by rw [len_of wAz (by decide)]; exact kZ)) ?_
  refine own_by (S' := T1.setTop (mkF m 8 #[.val (.ref zr), .val (.ref mz), .val (.int (0 : Int32)), .unset, .unset, .unset] [])) (fun tZ kZ => XS.istoreN X1.here hx rfl (hb hby d20_7) rfl (l' := #[.val (.ref zr), .val (.ref mz), .val (.int (0 : Int32)), .unset, .unset, .unset]) rfl kZ) ?_
  refine own_by (S' := T1.setTop (mkF m 9 #[.val (.ref zr), .val (.ref mz), .val (.int (0 : Int32)), .unset, .unset, .unset] [(.int (0 : Int32))])) (fun tZ kZ => XS.iloadN X1.here hx rfl (hb hby d20_8) rfl kZ) ?_
  refine own_by (S' := T1.setTop (mkF m 12 #[.val (.ref zr), .val (.ref mz), .val (.int (0 : Int32)), .unset, .unset, .unset] [])) (fun tZ kZ => XS.ifNo X1.here hx rfl (hb hby d20_9) rfl ((if0 _ _).trans (teq rfl).2) kZ) ?_
  refine own_by (S' := T1.setTop (mkF m 13 #[.val (.ref zr), .val (.ref mz), .val (.int (0 : Int32)), .unset, .unset, .unset] [(.long (0 : Int64))])) (fun tZ kZ => XS.lconst X1.here hx rfl (hb hby d20_12) kZ) ?_
  exact own_retL X1 hx Bd.returns  (hb hby d20_13) Bd.notSynchronized (by decide) (by decide) ⟨rfl, N0, e1⟩
theorem d17_0 : decode jdk_17_method_12_code 0 = .ok (.aload_n 0, 1) := by decide +kernel
theorem d17_1 : decode jdk_17_method_12_code 1 = .ok (.invokespecial 11, 3) := by decide +kernel
theorem d17_4 : decode jdk_17_method_12_code 4 = .ok (.aload_n 0, 1) := by decide +kernel
theorem d17_5 : decode jdk_17_method_12_code 5 = .ok (.iconst 0, 1) := by decide +kernel
theorem d17_6 : decode jdk_17_method_12_code 6 = .ok (.putfield 17, 3) := by decide +kernel
theorem d17_9 : decode jdk_17_method_12_code 9 = .ok (.aload_n 0, 1) := by decide +kernel
theorem d17_10 : decode jdk_17_method_12_code 10 = .ok (.aload_n 1, 1) := by decide +kernel
theorem d17_11 : decode jdk_17_method_12_code 11 = .ok (.invokestatic 229, 3) := by decide +kernel
theorem d17_14 : decode jdk_17_method_12_code 14 = .ok (.putfield 28, 3) := by decide +kernel
theorem d17_17 : decode jdk_17_method_12_code 17 = .ok (.aload_n 0, 1) := by decide +kernel
theorem d17_18 : decode jdk_17_method_12_code 18 = .ok (.aload_n 0, 1) := by decide +kernel
theorem d17_19 : decode jdk_17_method_12_code 19 = .ok (.getfield 28, 3) := by decide +kernel
theorem d17_22 : decode jdk_17_method_12_code 22 = .ok (.invokestatic 121, 3) := by decide +kernel
theorem d17_25 : decode jdk_17_method_12_code 25 = .ok (.putfield 24, 3) := by decide +kernel
theorem d17_28 : decode jdk_17_method_12_code 28 = .ok (.return_, 1) := by decide +kernel
theorem ef_rmD1I (m : MethodId) (b : Addr) (zr : Addr) : entryFrame m #[(.ref b), (.ref zr)] 2 = mkF m 0 #[.val (.ref b), .val (.ref zr)] [] := by first | (simp [entryFrame, mkF, argsToLocals, Value.category, maxLocals]; done) | rfl
set_option maxRecDepth 65536 in
set_option maxHeartbeats 40000000 in
theorem rmD1I (l : Launch) (Z : State) (a0 : Array Value) (hw : ∀ d ∈ tables_1, d.before a0 Z = true) (ws : List Jvm.Cond) (b : Addr) (hB : Heap) (zr mz pa za rmo lt mir : Addr) (mc pk zc lc : Cell) (h0 : Heap) (n0 : Nat) (Z0 : n0 ≤ h0.size) (Eb : Ext hB h0) (WD : OwnWd Z a0 hB zr mz pa za rmo lt mir mc pk zc lc) (hBn : hB.size ≤ n0) (Ex_b : Exa Z h0 b "java/math/BigDecimal") (F_scale_b : Fld Z h0 b "java/math/BigDecimal" "scale" "I" (.int 0)) (F_precision_b : Fld Z h0 b "java/math/BigDecimal" "precision" "I" (.int 0)) (F_intCompact_b : Fld Z h0 b "java/math/BigDecimal" "intCompact" "J" (.long 0)) (F_intVal_b : Fld Z h0 b "java/math/BigDecimal" "intVal" "Ljava/math/BigInteger;" .null) (g_b : n0 ≤ b) :
    MetFree l (⟨"java/math/BigDecimal", "<init>", "(Ljava/math/BigInteger;)V"⟩ : MethodName) (head1 (Jvm.Cond.code (⟨"java/math/BigDecimal", "<init>", "(Ljava/math/BigInteger;)V"⟩ : MethodName) jdk_17_method_12_code (2 : Nat) (Option.none : Option Jvm.ClassFile.FieldType) :: ws) ({ frames := 2, cells := 0, slots := 0, locals := 27 } : Room)) (fun aZ UZ => aZ = #[(.ref b), (.ref zr)] ∧ Z.Warmed39 UZ.vm ∧ UZ.heap = h0) (fun _ _ _ _ _ => True) (fun _ UZ oZ VZ => ∃ vZ LZ, oZ = .returned vZ ∧ (QD Z b 0 h0 n0) vZ VZ.heap LZ ∧ FrameEnd UZ oZ VZ LZ ({ frames := 2, cells := 0, slots := 0, locals := 27 } : Room).cells ({ frames := 2, cells := 0, slots := 0, locals := 27 } : Room).slots) := by
  refine MetFree.of_bodySF (plainFor_of_name pn_5) hisR ?_
  intro p e s m args below meth c s₁ Bd hml0 hP hK
  obtain ⟨rfl, hZ, hh⟩ := hP
  have hx := Bd.exec
  have hby := Bd.bytes
  have hml : c.maxLocals = 2 := hml0
  have hown : s.vm.findClass "java/math/BigDecimal" = some m.cls := findClass_of_methodNamed Bd.named
  have hnm := (name_of_methodNamed Bd.named Bd.method).1
  have X0 : Stand p l e ({ frames := 2, cells := 0, slots := 0, locals := 27 } : Room) s m #[(.ref b), (.ref zr)] below meth c s₁ [] 0 0 := Stand.of_body Bd
  have e0 : s₁.heap = h0 := by rw [← hh, Bd.state]; rfl
  have N0 := Fr.nil n0
  show OwnG p e below (OwnE s (QD Z b 0 h0 n0) ({ frames := 2, cells := 0, slots := 0, locals := 27 } : Room).cells ({ frames := 2, cells := 0, slots := 0, locals := 27 } : Room).slots) _
  refine own_by (S' := s₁.setTop (mkF m 0 #[.val (.ref b), .val (.ref zr)] [])) (fun tZ kZ => castTop (ef_rmD1I m b zr) kZ) ?_
  obtain ⟨wS, wE, wF, wM, wA, wAz, wP, wPA, wPz, wPe, wT, wTA, wTz, wTe, wH, wHF, wL, wLA, wLz, wMi⟩ := id WD
  refine own_by (S' := s₁.setTop (mkF m 1 #[.val (.ref b), .val (.ref zr)] [(.ref b)])) (fun tZ kZ => XS.aloadN X0.here hx rfl (hb hby d17_0) rfl rfl kZ) ?_
  obtain ⟨_, _, ⟨T1, L1, k1, n1⟩, -, X1, ⟨Lc1, hQ1, l1, y1, z1⟩, st1⟩ := X0.specialBack hx (y := (⟨"java/lang/Number", "<init>", "()V"⟩ : MethodName)) rfl hown (mvT hZ (hw _ (List.mem_of_getElem? (i := 135) rfl))) (mvT hZ (hw _ (List.mem_of_getElem? (i := 136) rfl))) (mvT hZ (hw _ (List.mem_of_getElem? (i := 140) rfl))) (by decide) (backOf (W := 0) (rmNum l Z a0 hw [] b h0 n0 Z0) hZ (hw _ (List.mem_of_getElem? (i := 140) rfl)) (hw _ (List.mem_of_getElem? (i := 139) rfl)) (by decide) (by decide)) (g := (mkF m 1 #[.val (.ref b), .val (.ref zr)] [(.ref b)])) rfl (by rw [hml]; rfl) (Steps.refl _) (a := b) (argsL := []) (rest := []) (lenOf pd_0 rfl) rfl (by show 2 * 0 + _ ≤ _; exact Nat.le_of_eq rfl) (hb hby d17_1) (fun _ _ => ⟨rfl, e0, (by decide : 0 + 0 ≤ _), (by decide : 0 + 0 ≤ _)⟩)
  dsimp only [Pt.U, Pt.locs, Pt.cells, Pt.slots] at X1 l1 y1 z1 st1 hQ1
  subst l1 y1 z1
  obtain ⟨rfl, N1q, heq1⟩ := hQ1
  have N1 := Fr.app N0 N1q
  refine own_by (S' := T1.setTop (mkF m 4 #[.val (.ref b), .val (.ref zr)] [])) (fun tZ kZ => st1.trans kZ) ?_
  refine own_by (S' := T1.setTop (mkF m 5 #[.val (.ref b), .val (.ref zr)] [(.ref b)])) (fun tZ kZ => XS.aloadN X1.here hx rfl (hb hby d17_4) rfl rfl kZ) ?_
  refine own_by (S' := T1.setTop (mkF m 6 #[.val (.ref b), .val (.ref zr)] [(.int (0 : Int32)), (.ref b)])) (fun tZ kZ => XS.iconst X1.here hx rfl (hb hby d17_5) kZ) ?_
  obtain ⟨T2, h2, X2, e2, W2, st2⟩ := putF X1 hx hZ hown (host := "") (Or.inl (hw _ (List.mem_of_getElem? (i := 142) rfl))) Via.refl heq1 F_scale_b Ex_b (Or.inr ⟨(hw _ (List.mem_of_getElem? (i := 143) rfl)), rfl, hnm⟩) (hw _ (List.mem_of_getElem? (i := 130) rfl)) (ty := .int) (by decide) rfl rfl (g := (mkF m 6 #[.val (.ref b), .val (.ref zr)] [(.int (0 : Int32)), (.ref b)])) rfl rfl (hb hby d17_6)
  have N2 := Fr.snoc X2 N1 g_b
  have Ex_b_2 := Ex_b.wr W2
  have F_scale_b_2 := F_scale_b.same W2
  have F_precision_b_2 := F_precision_b.other W2 (Or.inr (slot_ne (Or.inl (hw _ (List.mem_of_getElem? (i := 245) rfl))) (Or.inr (hw _ (List.mem_of_getElem? (i := 143) rfl))) (by decide) (t := .int) (t' := .int) (by decide) (by decide)))
  have F_intCompact_b_2 := F_intCompact_b.other W2 (Or.inr (slot_ne (Or.inr (hw _ (List.mem_of_getElem? (i := 162) rfl))) (Or.inr (hw _ (List.mem_of_getElem? (i := 143) rfl))) (by decide) (t := .long) (t' := .int) (by decide) (by decide)))
  have F_intVal_b_2 := F_intVal_b.other W2 (Or.inr (slot_ne (Or.inr (hw _ (List.mem_of_getElem? (i := 155) rfl))) (Or.inr (hw _ (List.mem_of_getElem? (i := 143) rfl))) (by decide) (t := (.object "java/math/BigInteger")) (t' := .int) (by decide) (by decide)))
  have Zs2 : n0 ≤ h2.size := Nat.le_trans Z0 (Keep.of_wr W2).1
  have K2 := (Keep.refl h0 [b]).wr W2 (Or.inl (List.mem_of_getElem? (i := 0) rfl))
  refine own_by (S' := T2.setTop (mkF m 9 #[.val (.ref b), .val (.ref zr)] [])) st2 ?_
  refine own_by (S' := T2.setTop (mkF m 10 #[.val (.ref b), .val (.ref zr)] [(.ref b)])) (fun tZ kZ => XS.aloadN X2.here hx rfl (hb hby d17_9) rfl rfl kZ) ?_
  refine own_by (S' := T2.setTop (mkF m 11 #[.val (.ref b), .val (.ref zr)] [(.ref zr), (.ref b)])) (fun tZ kZ => XS.aloadN X2.here hx rfl (hb hby d17_10) rfl rfl kZ) ?_
  have EB3 : Ext hB h2 := own_eb Eb K2 (by
      intro x hx
      simp only [List.mem_cons, List.not_mem_nil, or_false] at hx
      rcases hx with rfl
      · exact Nat.le_trans hBn g_b)
  obtain ⟨_, _, ⟨T4, L4, k4, n4⟩, -, X4, ⟨Lc4, hQ4, l4, y4, z4⟩, st4⟩ := Jvm.LawKit.callS X2 hx (y := (⟨"java/math/BigDecimal", "toStrictBigInteger", "(Ljava/math/BigInteger;)Ljava/math/BigInteger;"⟩ : MethodName)) hown (mvT hZ (hw _ (List.mem_of_getElem? (i := 144) rfl))) (mvT hZ (hw _ (List.mem_of_getElem? (i := 145) rfl))) (mvT hZ (hw _ (List.mem_of_getElem? (i := 131) rfl))) (mvT hZ (hw _ (List.mem_of_getElem? (i := 146) rfl))) (by decide) (backOf (W := 1) (rmSt l Z a0 hw [] hB zr mz pa za rmo lt mir mc pk zc lc h2 n0 Zs2 EB3 WD) hZ (hw _ (List.mem_of_getElem? (i := 146) rfl)) (hw _ (List.mem_of_getElem? (i := 131) rfl)) (by decide) (by decide)) (g := (mkF m 11 #[.val (.ref b), .val (.ref zr)] [(.ref zr), (.ref b)])) rfl (by rw [hml]; rfl) (argsL := [(.ref zr)]) (rest := [(.ref b)]) (lenOf pd_3 rfl) rfl (by show 2 * 0 + _ ≤ _; exact Nat.le_of_eq rfl) (hb hby d17_11) (fun _ _ => ⟨rfl, e2, (by decide : 0 + 0 ≤ _), (by decide : 0 + 0 ≤ _)⟩)
  dsimp only [Pt.U, Pt.locs, Pt.cells, Pt.slots] at X4 l4 y4 z4 st4 hQ4
  subst l4 y4 z4
  obtain ⟨rfl, N4q, heq4⟩ := hQ4
  have N4 := Fr.app N2 N4q
  refine own_by (S' := T4.setTop (mkF m 14 #[.val (.ref b), .val (.ref zr)] [(.ref zr), (.ref b)])) (fun tZ kZ => st4 _ kZ) ?_
  obtain ⟨T5, h5, X5, e5, W5, st5⟩ := putF X4 hx hZ hown (host := "") (Or.inl (hw _ (List.mem_of_getElem? (i := 154) rfl))) Via.refl heq4 F_intVal_b_2 Ex_b_2 (Or.inr ⟨(hw _ (List.mem_of_getElem? (i := 155) rfl)), rfl, hnm⟩) (hw _ (List.mem_of_getElem? (i := 130) rfl)) (ty := (.object "java/math/BigInteger")) (by decide) rfl rfl (g := (mkF m 14 #[.val (.ref b), .val (.ref zr)] [(.ref zr), (.ref b)])) rfl rfl (hb hby d17_14)
  have N5 := Fr.snoc X5 N4 g_b
  have Ex_b_5 := Ex_b_2.wr W5
  have F_scale_b_5 := F_scale_b_2.other W5 (Or.inr (slot_ne (Or.inr (hw _ (List.mem_of_getElem? (i := 143) rfl))) (Or.inr (hw _ (List.mem_of_getElem? (i := 155) rfl))) (by decide) (t := .int) (t' := (.object "java/math/BigInteger")) (by decide) (by decide)))
  have F_precision_b_5 := F_precision_b_2.other W5 (Or.inr (slot_ne (Or.inl (hw _ (List.mem_of_getElem? (i := 245) rfl))) (Or.inr (hw _ (List.mem_of_getElem? (i := 155) rfl))) (by decide) (t := .int) (t' := (.object "java/math/BigInteger")) (by decide) (by decide)))
  have F_intCompact_b_5 := F_intCompact_b_2.other W5 (Or.inr (slot_ne (Or.inr (hw _ (List.mem_of_getElem? (i := 162) rfl))) (Or.inr (hw _ (List.mem_of_getElem? (i := 155) rfl))) (by decide) (t := .long) (t' := (.object "java/math/BigInteger")) (by decide) (by decide)))
  have F_intVal_b_5 := F_intVal_b_2.same W5
  have Zs5 : n0 ≤ h5.size := Nat.le_trans Zs2 (Keep.of_wr W5).1
  have K5 := K2.wr W5 (Or.inl (List.mem_of_getElem? (i := 0) rfl))
  refine own_by (S' := T5.setTop (mkF m 17 #[.val (.ref b), .val (.ref zr)] [])) st5 ?_
  refine own_by (S' := T5.setTop (mkF m 18 #[.val (.ref b), .val (.ref zr)] [(.ref b)])) (fun tZ kZ => XS.aloadN X5.here hx rfl (hb hby d17_17) rfl rfl kZ) ?_
  refine own_by (S' := T5.setTop (mkF m 19 #[.val (.ref b), .val (.ref zr)] [(.ref b), (.ref b)])) (fun tZ kZ => XS.aloadN X5.here hx rfl (hb hby d17_18) rfl rfl kZ) ?_
  obtain ⟨T6, X6, e6, st6⟩ := getF X5 hx hZ hown (host := "") (Or.inl (hw _ (List.mem_of_getElem? (i := 154) rfl))) Via.refl e5 F_intVal_b_5 (g := (mkF m 19 #[.val (.ref b), .val (.ref zr)] [(.ref b), (.ref b)])) rfl rfl (hb hby d17_19)
  refine own_by (S' := T6.setTop (mkF m 22 #[.val (.ref b), .val (.ref zr)] [(.ref zr), (.ref b)])) st6 ?_
  have EB7 : Ext hB h5 := own_eb Eb K5 (by
      intro x hx
      simp only [List.mem_cons, List.not_mem_nil, or_false] at hx
      rcases hx with rfl
      · exact Nat.le_trans hBn g_b)
  obtain ⟨_, _, ⟨T8, L8, k8, n8⟩, -, X8, ⟨Lc8, hQ8, l8, y8, z8⟩, st8⟩ := Jvm.LawKit.callS X6 hx (y := (⟨"java/math/BigDecimal", "compactValFor", "(Ljava/math/BigInteger;)J"⟩ : MethodName)) hown (mvT hZ (hw _ (List.mem_of_getElem? (i := 156) rfl))) (mvT hZ (hw _ (List.mem_of_getElem? (i := 157) rfl))) (mvT hZ (hw _ (List.mem_of_getElem? (i := 131) rfl))) (mvT hZ (hw _ (List.mem_of_getElem? (i := 158) rfl))) (by decide) (backOf (W := 1) (rmCv l Z a0 hw [] hB zr mz pa za rmo lt mir mc pk zc lc h5 n0 Zs5 EB7 WD) hZ (hw _ (List.mem_of_getElem? (i := 158) rfl)) (hw _ (List.mem_of_getElem? (i := 131) rfl)) (by decide) (by decide)) (g := (mkF m 22 #[.val (.ref b), .val (.ref zr)] [(.ref zr), (.ref b)])) rfl (by rw [hml]; rfl) (argsL := [(.ref zr)]) (rest := [(.ref b)]) (lenOf pd_4 rfl) rfl (by show 2 * 0 + _ ≤ _; exact Nat.le_of_eq rfl) (hb hby d17_22) (fun _ _ => ⟨rfl, e6, (by decide : 0 + 0 ≤ _), (by decide : 0 + 0 ≤ _)⟩)
  dsimp only [Pt.U, Pt.locs, Pt.cells, Pt.slots] at X8 l8 y8 z8 st8 hQ8
  subst l8 y8 z8
  obtain ⟨rfl, N8q, heq8⟩ := hQ8
  have N8 := Fr.app N5 N8q
  refine own_by (S' := T8.setTop (mkF m 25 #[.val (.ref b), .val (.ref zr)] [(.long (0 : Int64)), (.ref b)])) (fun tZ kZ => st8 _ kZ) ?_
  obtain ⟨T9, h9, X9, e9, W9, st9⟩ := putF X8 hx hZ hown (host := "") (Or.inl (hw _ (List.mem_of_getElem? (i := 161) rfl))) Via.refl heq8 F_intCompact_b_5 Ex_b_5 (Or.inr ⟨(hw _ (List.mem_of_getElem? (i := 162) rfl)), rfl, hnm⟩) (hw _ (List.mem_of_getElem? (i := 130) rfl)) (ty := .long) (by decide) rfl rfl (g := (mkF m 25 #[.val (.ref b), .val (.ref zr)] [(.long (0 : Int64)), (.ref b)])) rfl rfl (hb hby d17_25)
  have N9 := Fr.snoc X9 N8 g_b
  have Ex_b_9 := Ex_b_5.wr W9
  have F_scale_b_9 := F_scale_b_5.other W9 (Or.inr (slot_ne (Or.inr (hw _ (List.mem_of_getElem? (i := 143) rfl))) (Or.inr (hw _ (List.mem_of_getElem? (i := 162) rfl))) (by decide) (t := .int) (t' := .long) (by decide) (by decide)))
  have F_precision_b_9 := F_precision_b_5.other W9 (Or.inr (slot_ne (Or.inl (hw _ (List.mem_of_getElem? (i := 245) rfl))) (Or.inr (hw _ (List.mem_of_getElem? (i := 162) rfl))) (by decide) (t := .int) (t' := .long) (by decide) (by decide)))
  have F_intCompact_b_9 := F_intCompact_b_5.same W9
  have F_intVal_b_9 := F_intVal_b_5.other W9 (Or.inr (slot_ne (Or.inr (hw _ (List.mem_of_getElem? (i := 155) rfl))) (Or.inr (hw _ (List.mem_of_getElem? (i := 162) rfl))) (by decide) (t := (.object "java/math/BigInteger")) (t' := .long) (by decide) (by decide)))
  have Zs9 : n0 ≤ h9.size := Nat.le_trans Zs5 (Keep.of_wr W9).1
  have K9 := K5.wr W9 (Or.inl (List.mem_of_getElem? (i := 0) rfl))
  refine own_by (S' := T9.setTop (mkF m 28 #[.val (.ref b), .val (.ref zr)] [])) st9 ?_
  exact own_ret0 X9 hx Bd.returns (hb hby d17_28) Bd.notSynchronized (by decide) (by decide) (show QD Z b 0 h0 n0 none T9.heap _ from by rw [e9]; exact ⟨rfl, N9, K9, Ex_b_9, F_intCompact_b_9, F_scale_b_9⟩)
theorem d34_0 : decode jdk_17_method_1_code 0 = .ok (.aload_n 0, 1) := by decide +kernel
theorem d34_1 : decode jdk_17_method_1_code 1 = .ok (.invokespecial 11, 3) := by decide +kernel
theorem d34_4 : decode jdk_17_method_1_code 4 = .ok (.aload_n 0, 1) := by decide +kernel
theorem d34_5 : decode jdk_17_method_1_code 5 = .ok (.iload 4, 2) := by decide +kernel
theorem d34_7 : decode jdk_17_method_1_code 7 = .ok (.putfield 17, 3) := by decide +kernel
theorem d34_10 : decode jdk_17_method_1_code 10 = .ok (.aload_n 0, 1) := by decide +kernel
theorem d34_11 : decode jdk_17_method_1_code 11 = .ok (.iload 5, 2) := by decide +kernel
theorem d34_13 : decode jdk_17_method_1_code 13 = .ok (.putfield 21, 3) := by decide +kernel
theorem d34_16 : decode jdk_17_method_1_code 16 = .ok (.aload_n 0, 1) := by decide +kernel
theorem d34_17 : decode jdk_17_method_1_code 17 = .ok (.lload_n 2, 1) := by decide +kernel
theorem d34_18 : decode jdk_17_method_1_code 18 = .ok (.putfield 24, 3) := by decide +kernel
theorem d34_21 : decode jdk_17_method_1_code 21 = .ok (.aload_n 0, 1) := by decide +kernel
theorem d34_22 : decode jdk_17_method_1_code 22 = .ok (.aload_n 1, 1) := by decide +kernel
theorem d34_23 : decode jdk_17_method_1_code 23 = .ok (.putfield 28, 3) := by decide +kernel
theorem d34_26 : decode jdk_17_method_1_code 26 = .ok (.return_, 1) := by decide +kernel
theorem ef_rmD4I (m : MethodId) (b : Addr) (v : Int64) : entryFrame m #[(.ref b), .null, (.long v), (.int (0 : Int32)), (.int (0 : Int32))] 6 = mkF m 0 #[.val (.ref b), .val .null, .val (.long v), .second, .val (.int (0 : Int32)), .val (.int (0 : Int32))] [] := by first | (simp [entryFrame, mkF, argsToLocals, Value.category, maxLocals]; done) | rfl
set_option maxRecDepth 65536 in
set_option maxHeartbeats 40000000 in
theorem rmD4I (l : Launch) (Z : State) (a0 : Array Value) (hw : ∀ d ∈ tables_1, d.before a0 Z = true) (ws : List Jvm.Cond) (b : Addr) (v : Int64) (h0 : Heap) (n0 : Nat) (Z0 : n0 ≤ h0.size) (Ex_b : Exa Z h0 b "java/math/BigDecimal") (F_scale_b : Fld Z h0 b "java/math/BigDecimal" "scale" "I" (.int 0)) (F_precision_b : Fld Z h0 b "java/math/BigDecimal" "precision" "I" (.int 0)) (F_intCompact_b : Fld Z h0 b "java/math/BigDecimal" "intCompact" "J" (.long 0)) (F_intVal_b : Fld Z h0 b "java/math/BigDecimal" "intVal" "Ljava/math/BigInteger;" .null) (g_b : n0 ≤ b) :
    MetFree l (⟨"java/math/BigDecimal", "<init>", "(Ljava/math/BigInteger;JII)V"⟩ : MethodName) (head1 (Jvm.Cond.code (⟨"java/math/BigDecimal", "<init>", "(Ljava/math/BigInteger;JII)V"⟩ : MethodName) jdk_17_method_1_code (6 : Nat) (Option.none : Option Jvm.ClassFile.FieldType) :: ws) ({ frames := 2, cells := 0, slots := 0, locals := 24 } : Room)) (fun aZ UZ => aZ = #[(.ref b), .null, (.long v), (.int (0 : Int32)), (.int (0 : Int32))] ∧ Z.Warmed39 UZ.vm ∧ UZ.heap = h0) (fun _ _ _ _ _ => True) (fun _ UZ oZ VZ => ∃ vZ LZ, oZ = .returned vZ ∧ (QD Z b v h0 n0) vZ VZ.heap LZ ∧ FrameEnd UZ oZ VZ LZ ({ frames := 2, cells := 0, slots := 0, locals := 24 } : Room).cells ({ frames := 2, cells := 0, slots := 0, locals := 24 } : Room).slots) := by
  refine MetFree.of_bodySF (plainFor_of_name pn_5) hisR ?_
  intro p e s m args below meth c s₁ Bd hml0 hP hK
  obtain ⟨rfl, hZ, hh⟩ := hP
  have hx := Bd.exec
  have hby := Bd.bytes
  have hml : c.maxLocals = 6 := hml0
  have hown : s.vm.findClass "java/math/BigDecimal" = some m.cls := findClass_of_methodNamed Bd.named
  have hnm := (name_of_methodNamed Bd.named Bd.method).1
  have X0 : Stand p l e ({ frames := 2, cells := 0, slots := 0, locals := 24 } : Room) s m #[(.ref b), .null, (.long v), (.int (0 : Int32)), (.int (0 : Int32))] below meth c s₁ [] 0 0 := Stand.of_body Bd
  have e0 : s₁.heap = h0 := by rw [← hh, Bd.state]; rfl
  have N0 := Fr.nil n0
  show OwnG p e below (OwnE s (QD Z b v h0 n0) ({ frames := 2, cells := 0, slots := 0, locals := 24 } : Room).cells ({ frames := 2, cells := 0, slots := 0, locals := 24 } : Room).slots) _
  refine own_by (S' := s₁.setTop (mkF m 0 #[.val (.ref b), .val .null, .val (.long v), .second, .val (.int (0 : Int32)), .val (.int (0 : Int32))] [])) (fun tZ kZ => castTop (ef_rmD4I m b v) kZ) ?_
  refine own_by (S' := s₁.setTop (mkF m 1 #[.val (.ref b), .val .null, .val (.long v), .second, .val (.int (0 : Int32)), .val (.int (0 : Int32))] [(.ref b)])) (fun tZ kZ => XS.aloadN X0.here hx rfl (hb hby d34_0) rfl rfl kZ) ?_
  obtain ⟨_, _, ⟨T1, L1, k1, n1⟩, -, X1, ⟨Lc1, hQ1, l1, y1, z1⟩, st1⟩ := X0.specialBack hx (y := (⟨"java/lang/Number", "<init>", "()V"⟩ : MethodName)) rfl hown (mvT hZ (hw _ (List.mem_of_getElem? (i := 135) rfl))) (mvT hZ (hw _ (List.mem_of_getElem? (i := 136) rfl))) (mvT hZ (hw _ (List.mem_of_getElem? (i := 140) rfl))) (by decide) (backOf (W := 0) (rmNum l Z a0 hw [] b h0 n0 Z0) hZ (hw _ (List.mem_of_getElem? (i := 140) rfl)) (hw _ (List.mem_of_getElem? (i := 139) rfl)) (by decide) (by decide)) (g := (mkF m 1 #[.val (.ref b), .val .null, .val (.long v), .second, .val (.int (0 : Int32)), .val (.int (0 : Int32))] [(.ref b)])) rfl (by rw [hml]; rfl) (Steps.refl _) (a := b) (argsL := []) (rest := []) (lenOf pd_0 rfl) rfl (by show 2 * 0 + _ ≤ _; exact Nat.le_of_eq rfl) (hb hby d34_1) (fun _ _ => ⟨rfl, e0, (by decide : 0 + 0 ≤ _), (by decide : 0 + 0 ≤ _)⟩)
  dsimp only [Pt.U, Pt.locs, Pt.cells, Pt.slots] at X1 l1 y1 z1 st1 hQ1
  subst l1 y1 z1
  obtain ⟨rfl, N1q, heq1⟩ := hQ1
  have N1 := Fr.app N0 N1q
  refine own_by (S' := T1.setTop (mkF m 4 #[.val (.ref b), .val .null, .val (.long v), .second, .val (.int (0 : Int32)), .val (.int (0 : Int32))] [])) (fun tZ kZ => st1.trans kZ) ?_
  refine own_by (S' := T1.setTop (mkF m 5 #[.val (.ref b), .val .null, .val (.long v), .second, .val (.int (0 : Int32)), .val (.int (0 : Int32))] [(.ref b)])) (fun tZ kZ => XS.aloadN X1.here hx rfl (hb hby d34_4) rfl rfl kZ) ?_
  refine own_by (S' := T1.setTop (mkF m 7 #[.val (.ref b), .val .null, .val (.long v), .second, .val (.int (0 : Int32)), .val (.int (0 : Int32))] [(.int (0 : Int32)), (.ref b)])) (fun tZ kZ => XS.iload X1.here hx rfl (hb hby d34_5) rfl kZ) ?_
  obtain ⟨T2, h2, X2, e2, W2, st2⟩ := putF X1 hx hZ hown (host := "") (Or.inl (hw _ (List.mem_of_getElem? (i := 142) rfl))) Via.refl heq1 F_scale_b Ex_b (Or.inr ⟨(hw _ (List.mem_of_getElem? (i := 143) rfl)), rfl, hnm⟩) (hw _ (List.mem_of_getElem? (i := 130) rfl)) (ty := .int) (by decide) rfl rfl (g := (mkF m 7 #[.val (.ref b), .val .null, .val (.long v), .second, .val (.int (0 : Int32)), .val (.int (0 : Int32))] [(.int (0 : Int32)), (.ref b)])) rfl rfl (hb hby d34_7)
  have N2 := Fr.snoc X2 N1 g_b
  have Ex_b_2 := Ex_b.wr W2
  have F_scale_b_2 := F_scale_b.same W2
  have F_precision_b_2 := F_precision_b.other W2 (Or.inr (slot_ne (Or.inl (hw _ (List.mem_of_getElem? (i := 245) rfl))) (Or.inr (hw _ (List.mem_of_getElem? (i := 143) rfl))) (by decide) (t := .int) (t' := .int) (by decide) (by decide)))
  have F_intCompact_b_2 := F_intCompact_b.other W2 (Or.inr (slot_ne (Or.inr (hw _ (List.mem_of_getElem? (i := 162) rfl))) (Or.inr (hw _ (List.mem_of_getElem? (i := 143) rfl))) (by decide) (t := .long) (t' := .int) (by decide) (by decide)))
  have F_intVal_b_2 := F_intVal_b.other W2 (Or.inr (slot_ne (Or.inr (hw _ (List.mem_of_getElem? (i := 155) rfl))) (Or.inr (hw _ (List.mem_of_getElem? (i := 143) rfl))) (by decide) (t := (.object "java/math/BigInteger")) (t' := .int) (by decide) (by decide)))
  have Zs2 : n0 ≤ h2.size := Nat.le_trans Z0 (Keep.of_wr W2).1
  have K2 := (Keep.refl h0 [b]).wr W2 (Or.inl (List.mem_of_getElem? (i := 0) rfl))
  refine own_by (S' := T2.setTop (mkF m 10 #[.val (.ref b), .val .null, .val (.long v), .second, .val (.int (0 : Int32)), .val (.int (0 : Int32))] [])) st2 ?_
  refine own_by (S' := T2.setTop (mkF m 11 #[.val (.ref b), .val .null, .val (.long v), .second, .val (.int (0 : Int32)), .val (.int (0 : Int32))] [(.ref b)])) (fun tZ kZ => XS.aloadN X2.here hx rfl (hb hby d34_10) rfl rfl kZ) ?_
  refine own_by (S' := T2.setTop (mkF m 13 #[.val (.ref b), .val .null, .val (.long v), .second, .val (.int (0 : Int32)), .val (.int (0 : Int32))] [(.int (0 : Int32)), (.ref b)])) (fun tZ kZ => XS.iload X2.here hx rfl (hb hby d34_11) rfl kZ) ?_
  obtain ⟨T3, h3, X3, e3, W3, st3⟩ := putF X2 hx hZ hown (host := "") (Or.inl (hw _ (List.mem_of_getElem? (i := 244) rfl))) Via.refl e2 F_precision_b_2 Ex_b_2 (Or.inl (hw _ (List.mem_of_getElem? (i := 245) rfl))) (hw _ (List.mem_of_getElem? (i := 130) rfl)) (ty := .int) (by decide) rfl rfl (g := (mkF m 13 #[.val (.ref b), .val .null, .val (.long v), .second, .val (.int (0 : Int32)), .val (.int (0 : Int32))] [(.int (0 : Int32)), (.ref b)])) rfl rfl (hb hby d34_13)
  have N3 := Fr.snoc X3 N2 g_b
  have Ex_b_3 := Ex_b_2.wr W3
  have F_scale_b_3 := F_scale_b_2.other W3 (Or.inr (slot_ne (Or.inr (hw _ (List.mem_of_getElem? (i := 143) rfl))) (Or.inl (hw _ (List.mem_of_getElem? (i := 245) rfl))) (by decide) (t := .int) (t' := .int) (by decide) (by decide)))
  have F_precision_b_3 := F_precision_b_2.same W3
  have F_intCompact_b_3 := F_intCompact_b_2.other W3 (Or.inr (slot_ne (Or.inr (hw _ (List.mem_of_getElem? (i := 162) rfl))) (Or.inl (hw _ (List.mem_of_getElem? (i := 245) rfl))) (by decide) (t := .long) (t' := .int) (by decide) (by decide)))
  have F_intVal_b_3 := F_intVal_b_2.other W3 (Or.inr (slot_ne (Or.inr (hw _ (List.mem_of_getElem? (i := 155) rfl))) (Or.inl (hw _ (List.mem_of_getElem? (i := 245) rfl))) (by decide) (t := (.object "java/math/BigInteger")) (t' := .int) (by decide) (by decide)))
  have Zs3 : n0 ≤ h3.size := Nat.le_trans Zs2 (Keep.of_wr W3).1
  have K3 := K2.wr W3 (Or.inl (List.mem_of_getElem? (i := 0) rfl))
  refine own_by (S' := T3.setTop (mkF m 16 #[.val (.ref b), .val .null, .val (.long v), .second, .val (.int (0 : Int32)), .val (.int (0 : Int32))] [])) st3 ?_
  refine own_by (S' := T3.setTop (mkF m 17 #[.val (.ref b), .val .null, .val (.long v), .second, .val (.int (0 : Int32)), .val (.int (0 : Int32))] [(.ref b)])) (fun tZ kZ => XS.aloadN X3.here hx rfl (hb hby d34_16) rfl rfl kZ) ?_
  refine own_by (S' := T3.setTop (mkF m 18 #[.val (.ref b), .val .null, .val (.long v), .second, .val (.int (0 : Int32)), .val (.int (0 : Int32))] [(.long v), (.ref b)])) (fun tZ kZ => XS.lloadN X3.here hx rfl (hb hby d34_17) rfl kZ) ?_
  obtain ⟨T4, h4, X4, e4, W4, st4⟩ := putF X3 hx hZ hown (host := "") (Or.inl (hw _ (List.mem_of_getElem? (i := 161) rfl))) Via.refl e3 F_intCompact_b_3 Ex_b_3 (Or.inr ⟨(hw _ (List.mem_of_getElem? (i := 162) rfl)), rfl, hnm⟩) (hw _ (List.mem_of_getElem? (i := 130) rfl)) (ty := .long) (by decide) rfl rfl (g := (mkF m 18 #[.val (.ref b), .val .null, .val (.long v), .second, .val (.int (0 : Int32)), .val (.int (0 : Int32))] [(.long v), (.ref b)])) rfl rfl (hb hby d34_18)
  have N4 := Fr.snoc X4 N3 g_b
  have Ex_b_4 := Ex_b_3.wr W4
  have F_scale_b_4 := F_scale_b_3.other W4 (Or.inr (slot_ne (Or.inr (hw _ (List.mem_of_getElem? (i := 143) rfl))) (Or.inr (hw _ (List.mem_of_getElem? (i := 162) rfl))) (by decide) (t := .int) (t' := .long) (by decide) (by decide)))
  have F_precision_b_4 := F_precision_b_3.other W4 (Or.inr (slot_ne (Or.inl (hw _ (List.mem_of_getElem? (i := 245) rfl))) (Or.inr (hw _ (List.mem_of_getElem? (i := 162) rfl))) (by decide) (t := .int) (t' := .long) (by decide) (by decide)))
  have F_intCompact_b_4 := F_intCompact_b_3.same W4
  have F_intVal_b_4 := F_intVal_b_3.other W4 (Or.inr (slot_ne (Or.inr (hw _ (List.mem_of_getElem? (i := 155) rfl))) (Or.inr (hw _ (List.mem_of_getElem? (i := 162) rfl))) (by decide) (t := (.object "java/math/BigInteger")) (t' := .long) (by decide) (by decide)))
  have Zs4 : n0 ≤ h4.size := Nat.le_trans Zs3 (Keep.of_wr W4).1
  have K4 := K3.wr W4 (Or.inl (List.mem_of_getElem? (i := 0) rfl))
  refine own_by (S' := T4.setTop (mkF m 21 #[.val (.ref b), .val .null, .val (.long v), .second, .val (.int (0 : Int32)), .val (.int (0 : Int32))] [])) st4 ?_
  refine own_by (S' := T4.setTop (mkF m 22 #[.val (.ref b), .val .null, .val (.long v), .second, .val (.int (0 : Int32)), .val (.int (0 : Int32))] [(.ref b)])) (fun tZ kZ => XS.aloadN X4.here hx rfl (hb hby d34_21) rfl rfl kZ) ?_
  refine own_by (S' := T4.setTop (mkF m 23 #[.val (.ref b), .val .null, .val (.long v), .second, .val (.int (0 : Int32)), .val (.int (0 : Int32))] [.null, (.ref b)])) (fun tZ kZ => XS.aloadN X4.here hx rfl (hb hby d34_22) rfl rfl kZ) ?_
  obtain ⟨T5, h5, X5, e5, W5, st5⟩ := putF X4 hx hZ hown (host := "") (Or.inl (hw _ (List.mem_of_getElem? (i := 154) rfl))) Via.refl e4 F_intVal_b_4 Ex_b_4 (Or.inr ⟨(hw _ (List.mem_of_getElem? (i := 155) rfl)), rfl, hnm⟩) (hw _ (List.mem_of_getElem? (i := 130) rfl)) (ty := (.object "java/math/BigInteger")) (by decide) rfl rfl (g := (mkF m 23 #[.val (.ref b), .val .null, .val (.long v), .second, .val (.int (0 : Int32)), .val (.int (0 : Int32))] [.null, (.ref b)])) rfl rfl (hb hby d34_23)
  have N5 := Fr.snoc X5 N4 g_b
  have Ex_b_5 := Ex_b_4.wr W5
  have F_scale_b_5 := F_scale_b_4.other W5 (Or.inr (slot_ne (Or.inr (hw _ (List.mem_of_getElem? (i := 143) rfl))) (Or.inr (hw _ (List.mem_of_getElem? (i := 155) rfl))) (by decide) (t := .int) (t' := (.object "java/math/BigInteger")) (by decide) (by decide)))
  have F_precision_b_5 := F_precision_b_4.other W5 (Or.inr (slot_ne (Or.inl (hw _ (List.mem_of_getElem? (i := 245) rfl))) (Or.inr (hw _ (List.mem_of_getElem? (i := 155) rfl))) (by decide) (t := .int) (t' := (.object "java/math/BigInteger")) (by decide) (by decide)))
  have F_intCompact_b_5 := F_intCompact_b_4.other W5 (Or.inr (slot_ne (Or.inr (hw _ (List.mem_of_getElem? (i := 162) rfl))) (Or.inr (hw _ (List.mem_of_getElem? (i := 155) rfl))) (by decide) (t := .long) (t' := (.object "java/math/BigInteger")) (by decide) (by decide)))
  have F_intVal_b_5 := F_intVal_b_4.same W5
  have Zs5 : n0 ≤ h5.size := Nat.le_trans Zs4 (Keep.of_wr W5).1
  have K5 := K4.wr W5 (Or.inl (List.mem_of_getElem? (i := 0) rfl))
  refine own_by (S' := T5.setTop (mkF m 26 #[.val (.ref b), .val .null, .val (.long v), .second, .val (.int (0 : Int32)), .val (.int (0 : Int32))] [])) st5 ?_
  exact own_ret0 X5 hx Bd.returns (hb hby d34_26) Bd.notSynchronized (by decide) (by decide) (show QD Z b v h0 n0 none T5.heap _ from by rw [e5]; exact ⟨rfl, N5, K5, Ex_b_5, F_intCompact_b_5, F_scale_b_5⟩)
theorem d21_0 : decode jdk_17_method_21_code 0 = .ok (.lload_n 0, 1) := by decide +kernel
theorem d21_1 : decode jdk_17_method_21_code 1 = .ok (.lconst 0, 1) := by decide +kernel
theorem d21_2 : decode jdk_17_method_21_code 2 = .ok (.lcmp, 1) := by decide +kernel
theorem d21_3 : decode jdk_17_method_21_code 3 = .ok (.ifCond .lt 20, 3) := by decide +kernel
theorem d21_6 : decode jdk_17_method_21_code 6 = .ok (.lload_n 0, 1) := by decide +kernel
theorem d21_7 : decode jdk_17_method_21_code 7 = .ok (.getstatic 246, 3) := by decide +kernel
theorem d21_10 : decode jdk_17_method_21_code 10 = .ok (.arraylength, 1) := by decide +kernel
theorem d21_11 : decode jdk_17_method_21_code 11 = .ok (.i2l, 1) := by decide +kernel
theorem d21_12 : decode jdk_17_method_21_code 12 = .ok (.lcmp, 1) := by decide +kernel
theorem d21_13 : decode jdk_17_method_21_code 13 = .ok (.ifCond .ge 10, 3) := by decide +kernel
theorem d21_16 : decode jdk_17_method_21_code 16 = .ok (.getstatic 246, 3) := by decide +kernel
theorem d21_19 : decode jdk_17_method_21_code 19 = .ok (.lload_n 0, 1) := by decide +kernel
theorem d21_20 : decode jdk_17_method_21_code 20 = .ok (.l2i, 1) := by decide +kernel
theorem d21_21 : decode jdk_17_method_21_code 21 = .ok (.aaload, 1) := by decide +kernel
theorem d21_22 : decode jdk_17_method_21_code 22 = .ok (.areturn, 1) := by decide +kernel
theorem d21_23 : decode jdk_17_method_21_code 23 = .ok (.lload_n 0, 1) := by decide +kernel
theorem d21_24 : decode jdk_17_method_21_code 24 = .ok (.ldc2_w 125, 3) := by decide +kernel
theorem d21_27 : decode jdk_17_method_21_code 27 = .ok (.lcmp, 1) := by decide +kernel
theorem d21_28 : decode jdk_17_method_21_code 28 = .ok (.ifCond .eq 15, 3) := by decide +kernel
theorem d21_31 : decode jdk_17_method_21_code 31 = .ok (.new 3, 3) := by decide +kernel
theorem d21_34 : decode jdk_17_method_21_code 34 = .ok (.dup, 1) := by decide +kernel
theorem d21_35 : decode jdk_17_method_21_code 35 = .ok (.aconst_null, 1) := by decide +kernel
theorem d21_36 : decode jdk_17_method_21_code 36 = .ok (.lload_n 0, 1) := by decide +kernel
theorem d21_37 : decode jdk_17_method_21_code 37 = .ok (.iconst 0, 1) := by decide +kernel
theorem d21_38 : decode jdk_17_method_21_code 38 = .ok (.iconst 0, 1) := by decide +kernel
theorem d21_39 : decode jdk_17_method_21_code 39 = .ok (.invokespecial 243, 3) := by decide +kernel
theorem d21_42 : decode jdk_17_method_21_code 42 = .ok (.areturn, 1) := by decide +kernel
theorem d21_43 : decode jdk_17_method_21_code 43 = .ok (.new 3, 3) := by decide +kernel
theorem d21_46 : decode jdk_17_method_21_code 46 = .ok (.dup, 1) := by decide +kernel
theorem d21_47 : decode jdk_17_method_21_code 47 = .ok (.getstatic 188, 3) := by decide +kernel
theorem d21_50 : decode jdk_17_method_21_code 50 = .ok (.lload_n 0, 1) := by decide +kernel
theorem d21_51 : decode jdk_17_method_21_code 51 = .ok (.iconst 0, 1) := by decide +kernel
theorem d21_52 : decode jdk_17_method_21_code 52 = .ok (.iconst 0, 1) := by decide +kernel
theorem d21_53 : decode jdk_17_method_21_code 53 = .ok (.invokespecial 243, 3) := by decide +kernel
theorem d21_56 : decode jdk_17_method_21_code 56 = .ok (.areturn, 1) := by decide +kernel
theorem ef_rmDv (m : MethodId) (v : Int64) : entryFrame m #[(.long v)] 2 = mkF m 0 #[.val (.long v), .second] [] := by first | (simp [entryFrame, mkF, argsToLocals, Value.category, maxLocals]; done) | rfl
set_option maxRecDepth 65536 in
set_option maxHeartbeats 40000000 in
theorem rmDv (l : Launch) (Z : State) (a0 : Array Value) (hw : ∀ d ∈ tables_1, d.before a0 Z = true) (ws : List Jvm.Cond) (v : Int64) (hB : Heap) (zr mz pa za rmo lt mir : Addr) (mc pk zc lc : Cell) (h0 : Heap) (n0 : Nat) (Z0 : n0 ≤ h0.size) (Eb : Ext hB h0) (WD : OwnWd Z a0 hB zr mz pa za rmo lt mir mc pk zc lc) (hv : 0 ≤ v.toInt) :
    MetFree l (⟨"java/math/BigDecimal", "valueOf", "(J)Ljava/math/BigDecimal;"⟩ : MethodName) (head1 (Jvm.Cond.code (⟨"java/math/BigDecimal", "valueOf", "(J)Ljava/math/BigDecimal;"⟩ : MethodName) jdk_17_method_21_code (2 : Nat) (Option.some (Jvm.ClassFile.FieldType.object "java/math/BigDecimal")) :: ws) ({ frames := 3, cells := 1, slots := 5, locals := 42 } : Room)) (fun aZ UZ => aZ = #[(.long v)] ∧ Z.Warmed39 UZ.vm ∧ UZ.heap = h0) (fun _ _ _ _ _ => True) (fun _ UZ oZ VZ => ∃ vZ LZ, oZ = .returned vZ ∧ (QDv Z v h0 n0) vZ VZ.heap LZ ∧ FrameEnd UZ oZ VZ LZ ({ frames := 3, cells := 1, slots := 5, locals := 42 } : Room).cells ({ frames := 3, cells := 1, slots := 5, locals := 42 } : Room).slots) := by
  refine MetFree.of_bodySF (plainFor_of_name pn_5) hisR ?_
  intro p e s m args below meth c s₁ Bd hml0 hP hK
  obtain ⟨rfl, hZ, hh⟩ := hP
  have hx := Bd.exec
  have hby := Bd.bytes
  have hml : c.maxLocals = 2 := hml0
  have hown : s.vm.findClass "java/math/BigDecimal" = some m.cls := findClass_of_methodNamed Bd.named
  have hnm := (name_of_methodNamed Bd.named Bd.method).1
  have X0 : Stand p l e ({ frames := 3, cells := 1, slots := 5, locals := 42 } : Room) s m #[(.long v)] below meth c s₁ [] 0 0 := Stand.of_body Bd
  have e0 : s₁.heap = h0 := by rw [← hh, Bd.state]; rfl
  have N0 := Fr.nil n0
  show OwnG p e below (OwnE s (QDv Z v h0 n0) ({ frames := 3, cells := 1, slots := 5, locals := 42 } : Room).cells ({ frames := 3, cells := 1, slots := 5, locals := 42 } : Room).slots) _
  refine own_by (S' := s₁.setTop (mkF m 0 #[.val (.long v), .second] [])) (fun tZ kZ => castTop (ef_rmDv m v) kZ) ?_
  obtain ⟨wS, wE, wF, wM, wA, wAz, wP, wPA, wPz, wPe, wT, wTA, wTz, wTe, wH, wHF, wL, wLA, wLz, wMi⟩ := id WD
  have wTAe : Arr Z h0 za zc (.object "java/math/BigDecimal") := wTA.ext Eb
  refine own_by (S' := s₁.setTop (mkF m 1 #[.val (.long v), .second] [(.long v)])) (fun tZ kZ => XS.lloadN X0.here hx rfl (hb hby d21_0) rfl kZ) ?_
  refine own_by (S' := s₁.setTop (mkF m 2 #[.val (.long v), .second] [(.long (0 : Int64)), (.long v)])) (fun tZ kZ => XS.lconst X0.here hx rfl (hb hby d21_1) kZ) ?_
  refine own_by (S' := s₁.setTop (mkF m 3 #[.val (.long v), .second] [(.int (lcmpW v (0 : Int64)))])) (fun tZ kZ => XS.lcmp X0.here hx rfl (hb hby d21_2) rfl kZ) ?_
  refine own_by (S' := s₁.setTop (mkF m 6 #[.val (.long v), .second] [])) (fun tZ kZ => XS.ifNo X0.here hx rfl (hb hby d21_3) rfl ((if0 _ _).trans (flt (by rw [lw_lt, own_ltL, own_e0]; omega)).1) kZ) ?_
  refine own_by (S' := s₁.setTop (mkF m 7 #[.val (.long v), .second] [(.long v)])) (fun tZ kZ => XS.lloadN X0.here hx rfl (hb hby d21_6) rfl kZ) ?_
  obtain ⟨T1, X1, e1, st1⟩ := getS2 X0 hx hZ hown (host := "") (Or.inl (hw _ (List.mem_of_getElem? (i := 166) rfl))) Via.refl e0 (wT.ext Eb) (g := (mkF m 7 #[.val (.long v), .second] [(.long v)])) rfl (hb hby d21_7)
  refine own_by (S' := T1.setTop (mkF m 10 #[.val (.long v), .second] [(.ref za), (.long v)])) st1 ?_
  refine own_by (S' := T1.setTop (mkF m 11 #[.val (.long v), .second] [(.int (11 : Int32)), (.long v)])) (fun tZ kZ => X1.arraylength hx (by rw [e1]; exact wTAe.1) (State.isArrayOf_alike hZ.alike wTAe.2.1) (g := (mkF m 10 #[.val (.long v), .second] [(.ref za), (.long v)])) rfl rfl (hb hby d21_10) _ (by rw [len_of wTz (by decide)]; exact kZ)) ?_
  refine own_by (S' := T1.setTop (mkF m 12 #[.val (.long v), .second] [(.long ((11 : Int32).toInt64)), (.long v)])) (fun tZ kZ => XS.i2l X1.here hx rfl (hb hby d21_11) rfl kZ) ?_
  refine own_by (S' := T1.setTop (mkF m 13 #[.val (.long v), .second] [(.int (lcmpW v ((11 : Int32).toInt64)))])) (fun tZ kZ => XS.lcmp X1.here hx rfl (hb hby d21_12) rfl kZ) ?_
  by_cases h11 : (lcmpW v ((11 : Int32).toInt64)) < (0 : Int32)
  · refine own_by (S' := T1.setTop (mkF m 16 #[.val (.long v), .second] [])) (fun tZ kZ => XS.ifNo X1.here hx rfl (hb hby d21_13) rfl ((if0 _ _).trans (tlt h11).2.1) kZ) ?_
    have hv10 : v.toInt ≤ 10 := by
      rw [lw_lt, own_ltL, c_i2l] at h11
      have e : (11 : Int32).toInt = 11 := rfl
      omega
    obtain ⟨T2, X2, e2, st2⟩ := getS2 X1 hx hZ hown (host := "") (Or.inl (hw _ (List.mem_of_getElem? (i := 166) rfl))) Via.refl e1 (wT.ext Eb) (g := (mkF m 16 #[.val (.long v), .second] [])) rfl (hb hby d21_16)
    refine own_by (S' := T2.setTop (mkF m 19 #[.val (.long v), .second] [(.ref za)])) st2 ?_
    refine own_by (S' := T2.setTop (mkF m 20 #[.val (.long v), .second] [(.long v), (.ref za)])) (fun tZ kZ => XS.lloadN X2.here hx rfl (hb hby d21_19) rfl kZ) ?_
    refine own_by (S' := T2.setTop (mkF m 21 #[.val (.long v), .second] [(.int (v.toInt32)), (.ref za)])) (fun tZ kZ => XS.l2i X2.here hx rfl (hb hby d21_20) rfl kZ) ?_
    obtain ⟨r, xv, q1, q0, q2, q3, q4⟩ := wTe v.toInt.toNat (by omega)
    obtain ⟨i1, i2⟩ := own_idx (n := 10) hv hv10 (by omega)
    have hxv : xv = v := Int64.toInt_inj.mp (by omega)
    rw [hxv] at q3
    refine own_by (S' := T2.setTop (mkF m 22 #[.val (.long v), .second] [(.ref r)])) (fun tZ kZ => X2.aaload hx (j := (v.toInt32)) (v := (.ref r)) (by rw [e2]; exact wTAe.1) (State.isArrayOf_alike hZ.alike wTAe.2.1) rfl wTAe.2.2 (own_inA (n := 10) hv hv10 (by omega) wTz (by decide)) (by rw [i2]; exact q1) (g := (mkF m 21 #[.val (.long v), .second] [(.int (v.toInt32)), (.ref za)])) rfl rfl (hb hby d21_21) _ kZ) ?_
    exact own_retA X2 hx Bd.returns rfl rfl (hb hby d21_22) Bd.notSynchronized (by decide) (by decide) ⟨r, rfl, N0, by rw [e2]; exact Keep.refl h0 [], by rw [e2]; exact ⟨q2.ext Eb, q3.ext Eb, q4.ext Eb⟩⟩
  · refine own_by (S' := T1.setTop (mkF m 23 #[.val (.long v), .second] [])) (fun tZ kZ => XS.ifYes X1.here hx rfl (pc0 := 13) (pc' := 23) rfl (hb hby d21_13) rfl ((if0 _ _).trans (flt h11).2.1) (by decide) (by decide) kZ) ?_
    refine own_by (S' := T1.setTop (mkF m 24 #[.val (.long v), .second] [(.long v)])) (fun tZ kZ => XS.lloadN X1.here hx rfl (hb hby d21_23) rfl kZ) ?_
    refine own_by (S' := T1.setTop (mkF m 27 #[.val (.long v), .second] [(.long (-9223372036854775808 : Int64)), (.long v)])) (fun tZ kZ => X1.ldc2Long hx hown (mvT hZ (hw _ (List.mem_of_getElem? (i := 181) rfl))) (g := (mkF m 24 #[.val (.long v), .second] [(.long v)])) rfl (hb hby d21_24) _ kZ) ?_
    refine own_by (S' := T1.setTop (mkF m 28 #[.val (.long v), .second] [(.int (lcmpW v (-9223372036854775808 : Int64)))])) (fun tZ kZ => XS.lcmp X1.here hx rfl (hb hby d21_27) rfl kZ) ?_
    refine own_by (S' := T1.setTop (mkF m 31 #[.val (.long v), .second] [])) (fun tZ kZ => XS.ifNo X1.here hx rfl (hb hby d21_28) rfl ((if0 _ _).trans (feq (by rw [lw_eq]; exact own_neMin hv)).1) kZ) ?_
    obtain ⟨T3, h3, X3, e3, E3, A3, D3, -, st3⟩ := newO X1 hx hZ hown (hw _ (List.mem_of_getElem? (i := 239) rfl)) (hw _ (List.mem_of_getElem? (i := 130) rfl)) (hw _ (List.mem_of_getElem? (i := 131) rfl)) e1 (g := (mkF m 31 #[.val (.long v), .second] [])) rfl (hb hby d21_31) (by decide) (by decide)
    obtain ⟨b3, g3⟩ : ∃ z, z = h0.size := ⟨_, rfl⟩
    rw [← g3] at A3 D3 st3
    have g_b3 : n0 ≤ b3 := Nat.le_trans Z0 (Nat.le_of_eq g3.symm)
    have sz_b3 : h0.size ≤ b3 := Nat.le_trans (Keep.refl h0 []).1 (Nat.le_of_eq g3.symm)
    have Zs3 : n0 ≤ h3.size := Nat.le_trans Z0 E3.1
    have K3 := (Keep.refl h0 []).ext E3
    have Ex_b3 := A3
    have F_scale_b3 : Fld Z h3 b3 "java/math/BigDecimal" "scale" "I" (.int (0 : Int32)) := D3 (Or.inr (hw _ (List.mem_of_getElem? (i := 143) rfl))) (ty := .int) (by decide)
    have F_intVal_b3 : Fld Z h3 b3 "java/math/BigDecimal" "intVal" "Ljava/math/BigInteger;" .null := D3 (Or.inr (hw _ (List.mem_of_getElem? (i := 155) rfl))) (ty := (.object "java/math/BigInteger")) (by decide)
    have F_intCompact_b3 : Fld Z h3 b3 "java/math/BigDecimal" "intCompact" "J" (.long (0 : Int64)) := D3 (Or.inr (hw _ (List.mem_of_getElem? (i := 162) rfl))) (ty := .long) (by decide)
    have F_precision_b3 : Fld Z h3 b3 "java/math/BigDecimal" "precision" "I" (.int (0 : Int32)) := D3 (Or.inl (hw _ (List.mem_of_getElem? (i := 245) rfl))) (ty := .int) (by decide)
    refine own_by (S' := T3.setTop (mkF m 34 #[.val (.long v), .second] [(.ref b3)])) st3 ?_
    refine own_by (S' := T3.setTop (mkF m 35 #[.val (.long v), .second] [(.ref b3), (.ref b3)])) (fun tZ kZ => XS.dup X3.here hx rfl (hb hby d21_34) rfl rfl kZ) ?_
    refine own_by (S' := T3.setTop (mkF m 36 #[.val (.long v), .second] [.null, (.ref b3), (.ref b3)])) (fun tZ kZ => XS.aconstNull X3.here hx rfl (hb hby d21_35) kZ) ?_
    refine own_by (S' := T3.setTop (mkF m 37 #[.val (.long v), .second] [(.long v), .null, (.ref b3), (.ref b3)])) (fun tZ kZ => XS.lloadN X3.here hx rfl (hb hby d21_36) rfl kZ) ?_
    refine own_by (S' := T3.setTop (mkF m 38 #[.val (.long v), .second] [(.int (0 : Int32)), (.long v), .null, (.ref b3), (.ref b3)])) (fun tZ kZ => XS.iconst X3.here hx rfl (hb hby d21_37) kZ) ?_
    refine own_by (S' := T3.setTop (mkF m 39 #[.val (.long v), .second] [(.int (0 : Int32)), (.int (0 : Int32)), (.long v), .null, (.ref b3), (.ref b3)])) (fun tZ kZ => XS.iconst X3.here hx rfl (hb hby d21_38) kZ) ?_
    obtain ⟨_, _, ⟨T4, L4, k4, n4⟩, -, X4, ⟨Lc4, hQ4, l4, y4, z4⟩, st4⟩ := X3.specialBack hx (y := (⟨"java/math/BigDecimal", "<init>", "(Ljava/math/BigInteger;JII)V"⟩ : MethodName)) rfl hown (mvT hZ (hw _ (List.mem_of_getElem? (i := 240) rfl))) (mvT hZ (hw _ (List.mem_of_getElem? (i := 241) rfl))) (mvT hZ (hw _ (List.mem_of_getElem? (i := 243) rfl))) (by decide) (backOf (W := 1) (rmD4I l Z a0 hw [] b3 v h3 n0 Zs3 Ex_b3 F_scale_b3 F_precision_b3 F_intCompact_b3 F_intVal_b3 g_b3) hZ (hw _ (List.mem_of_getElem? (i := 243) rfl)) (hw _ (List.mem_of_getElem? (i := 131) rfl)) (by decide) (by decide)) (g := (mkF m 39 #[.val (.long v), .second] [(.int (0 : Int32)), (.int (0 : Int32)), (.long v), .null, (.ref b3), (.ref b3)])) rfl (by rw [hml]; rfl) (Steps.refl _) (a := b3) (argsL := [.null, (.long v), (.int (0 : Int32)), (.int (0 : Int32))]) (rest := [(.ref b3)]) (lenOf pd_5 rfl) rfl (by show 2 * 0 + _ ≤ _; exact Nat.le_of_eq rfl) (hb hby d21_39) (fun _ _ => ⟨rfl, e3, (by decide : 1 + 0 ≤ _), (by decide : 5 + 0 ≤ _)⟩)
    dsimp only [Pt.U, Pt.locs, Pt.cells, Pt.slots] at X4 l4 y4 z4 st4 hQ4
    subst l4 y4 z4
    obtain ⟨rfl, N4q, Kc4, qd4⟩ := hQ4
    have N4 := Fr.app N0 N4q
    have Zs4 := Nat.le_trans Zs3 Kc4.1
    have K4 := K3.trans Kc4 (fun x hx => by
        simp only [List.mem_cons, List.not_mem_nil, or_false] at hx
        rcases hx with rfl
        · exact Or.inr sz_b3)
    have Ex_b3_4 := Ex_b3.keep Kc4
    refine own_by (S' := T4.setTop (mkF m 42 #[.val (.long v), .second] [(.ref b3)])) (fun tZ kZ => st4.trans kZ) ?_
    exact own_retA X4 hx Bd.returns rfl rfl (hb hby d21_42) Bd.notSynchronized (by decide) (by decide) ⟨b3, rfl, N4, K4, qd4⟩
theorem d28_0 : decode jdk_17_method_20_code 0 = .ok (.iload_n 2, 1) := by decide +kernel
theorem d28_1 : decode jdk_17_method_20_code 1 = .ok (.ifCond .ne 8, 3) := by decide +kernel
theorem d28_4 : decode jdk_17_method_20_code 4 = .ok (.lload_n 0, 1) := by decide +kernel
theorem d28_5 : decode jdk_17_method_20_code 5 = .ok (.invokestatic 236, 3) := by decide +kernel
theorem d28_8 : decode jdk_17_method_20_code 8 = .ok (.areturn, 1) := by decide +kernel
theorem d28_9 : decode jdk_17_method_20_code 9 = .ok (.lload_n 0, 1) := by decide +kernel
theorem d28_10 : decode jdk_17_method_20_code 10 = .ok (.lconst 0, 1) := by decide +kernel
theorem d28_11 : decode jdk_17_method_20_code 11 = .ok (.lcmp, 1) := by decide +kernel
theorem d28_12 : decode jdk_17_method_20_code 12 = .ok (.ifCond .ne 8, 3) := by decide +kernel
theorem d28_15 : decode jdk_17_method_20_code 15 = .ok (.iload_n 2, 1) := by decide +kernel
theorem d28_16 : decode jdk_17_method_20_code 16 = .ok (.invokestatic 239, 3) := by decide +kernel
theorem d28_19 : decode jdk_17_method_20_code 19 = .ok (.areturn, 1) := by decide +kernel
theorem d28_20 : decode jdk_17_method_20_code 20 = .ok (.new 3, 3) := by decide +kernel
theorem d28_23 : decode jdk_17_method_20_code 23 = .ok (.dup, 1) := by decide +kernel
theorem d28_24 : decode jdk_17_method_20_code 24 = .ok (.lload_n 0, 1) := by decide +kernel
theorem d28_25 : decode jdk_17_method_20_code 25 = .ok (.ldc2_w 125, 3) := by decide +kernel
theorem d28_28 : decode jdk_17_method_20_code 28 = .ok (.lcmp, 1) := by decide +kernel
theorem d28_29 : decode jdk_17_method_20_code 29 = .ok (.ifCond .ne 9, 3) := by decide +kernel
theorem d28_32 : decode jdk_17_method_20_code 32 = .ok (.getstatic 188, 3) := by decide +kernel
theorem d28_35 : decode jdk_17_method_20_code 35 = .ok (.goto 4, 3) := by decide +kernel
theorem d28_38 : decode jdk_17_method_20_code 38 = .ok (.aconst_null, 1) := by decide +kernel
theorem d28_39 : decode jdk_17_method_20_code 39 = .ok (.lload_n 0, 1) := by decide +kernel
theorem d28_40 : decode jdk_17_method_20_code 40 = .ok (.iload_n 2, 1) := by decide +kernel
theorem d28_41 : decode jdk_17_method_20_code 41 = .ok (.iconst 0, 1) := by decide +kernel
theorem d28_42 : decode jdk_17_method_20_code 42 = .ok (.invokespecial 243, 3) := by decide +kernel
theorem d28_45 : decode jdk_17_method_20_code 45 = .ok (.areturn, 1) := by decide +kernel
theorem ef_rmDvI (m : MethodId) : entryFrame m #[(.long (0 : Int64)), (.int (0 : Int32))] 3 = mkF m 0 #[.val (.long (0 : Int64)), .second, .val (.int (0 : Int32))] [] := by first | (simp [entryFrame, mkF, argsToLocals, Value.category, maxLocals]; done) | rfl
set_option maxRecDepth 65536 in
set_option maxHeartbeats 40000000 in
theorem rmDvI (l : Launch) (Z : State) (a0 : Array Value) (hw : ∀ d ∈ tables_1, d.before a0 Z = true) (ws : List Jvm.Cond) (hB : Heap) (zr mz pa za rmo lt mir : Addr) (mc pk zc lc : Cell) (h0 : Heap) (n0 : Nat) (Z0 : n0 ≤ h0.size) (Eb : Ext hB h0) (WD : OwnWd Z a0 hB zr mz pa za rmo lt mir mc pk zc lc) :
    MetFree l (⟨"java/math/BigDecimal", "valueOf", "(JI)Ljava/math/BigDecimal;"⟩ : MethodName) (head1 (Jvm.Cond.code (⟨"java/math/BigDecimal", "valueOf", "(JI)Ljava/math/BigDecimal;"⟩ : MethodName) jdk_17_method_20_code (3 : Nat) (Option.some (Jvm.ClassFile.FieldType.object "java/math/BigDecimal")) :: ws) ({ frames := 4, cells := 1, slots := 5, locals := 55 } : Room)) (fun aZ UZ => aZ = #[(.long (0 : Int64)), (.int (0 : Int32))] ∧ Z.Warmed39 UZ.vm ∧ UZ.heap = h0) (fun _ _ _ _ _ => True) (fun _ UZ oZ VZ => ∃ vZ LZ, oZ = .returned vZ ∧ (QDv Z 0 h0 n0) vZ VZ.heap LZ ∧ FrameEnd UZ oZ VZ LZ ({ frames := 4, cells := 1, slots := 5, locals := 55 } : Room).cells ({ frames := 4, cells := 1, slots := 5, locals := 55 } : Room).slots) := by
  refine MetFree.of_bodySF (plainFor_of_name pn_5) hisR ?_
  intro p e s m args below meth c s₁ Bd hml0 hP hK
  obtain ⟨rfl, hZ, hh⟩ := hP
  have hx := Bd.exec
  have hby := Bd.bytes
  have hml : c.maxLocals = 3 := hml0
  have hown : s.vm.findClass "java/math/BigDecimal" = some m.cls := findClass_of_methodNamed Bd.named
  have hnm := (name_of_methodNamed Bd.named Bd.method).1
  have X0 : Stand p l e ({ frames := 4, cells := 1, slots := 5, locals := 55 } : Room) s m #[(.long (0 : Int64)), (.int (0 : Int32))] below meth c s₁ [] 0 0 := Stand.of_body Bd
  have e0 : s₁.heap = h0 := by rw [← hh, Bd.state]; rfl
  have N0 := Fr.nil n0
  show OwnG p e below (OwnE s (QDv Z 0 h0 n0) ({ frames := 4, cells := 1, slots := 5, locals := 55 } : Room).cells ({ frames := 4, cells := 1, slots := 5, locals := 55 } : Room).slots) _
  refine own_by (S' := s₁.setTop (mkF m 0 #[.val (.long (0 : Int64)), .second, .val (.int (0 : Int32))] [])) (fun tZ kZ => castTop (ef_rmDvI m) kZ) ?_
  refine own_by (S' := s₁.setTop (mkF m 1 #[.val (.long (0 : Int64)), .second, .val (.int (0 : Int32))] [(.int (0 : Int32))])) (fun tZ kZ => XS.iloadN X0.here hx rfl (hb hby d28_0) rfl kZ) ?_
  refine own_by (S' := s₁.setTop (mkF m 4 #[.val (.long (0 : Int64)), .second, .val (.int (0 : Int32))] [])) (fun tZ kZ => XS.ifNo X0.here hx rfl (hb hby d28_1) rfl ((if0 _ _).trans (teq rfl).2) kZ) ?_
  refine own_by (S' := s₁.setTop (mkF m 5 #[.val (.long (0 : Int64)), .second, .val (.int (0 : Int32))] [(.long (0 : Int64))])) (fun tZ kZ => XS.lloadN X0.here hx rfl (hb hby d28_4) rfl kZ) ?_
  obtain ⟨_, _, ⟨T1, L1, k1, n1⟩, -, X1, ⟨Lc1, hQ1, l1, y1, z1⟩, st1⟩ := Jvm.LawKit.callS X0 hx (y := (⟨"java/math/BigDecimal", "valueOf", "(J)Ljava/math/BigDecimal;"⟩ : MethodName)) hown (mvT hZ (hw _ (List.mem_of_getElem? (i := 198) rfl))) (mvT hZ (hw _ (List.mem_of_getElem? (i := 164) rfl))) (mvT hZ (hw _ (List.mem_of_getElem? (i := 131) rfl))) (mvT hZ (hw _ (List.mem_of_getElem? (i := 165) rfl))) (by decide) (backOf (W := 0) (rmDv l Z a0 hw [] 0 hB zr mz pa za rmo lt mir mc pk zc lc h0 n0 Z0 Eb WD (by decide)) hZ (hw _ (List.mem_of_getElem? (i := 165) rfl)) (hw _ (List.mem_of_getElem? (i := 131) rfl)) (by decide) (by decide)) (g := (mkF m 5 #[.val (.long (0 : Int64)), .second, .val (.int (0 : Int32))] [(.long (0 : Int64))])) rfl (by rw [hml]; rfl) (argsL := [(.long (0 : Int64))]) (rest := []) (lenOf pd_6 rfl) rfl (by show 2 * 0 + _ ≤ _; exact Nat.le_of_eq rfl) (hb hby d28_5) (fun _ _ => ⟨rfl, e0, (by decide : 0 + 1 ≤ _), (by decide : 0 + 5 ≤ _)⟩)
  dsimp only [Pt.U, Pt.locs, Pt.cells, Pt.slots] at X1 l1 y1 z1 st1 hQ1
  subst l1 y1 z1
  obtain ⟨r, rfl, N1q, Kc1, qd1⟩ := hQ1
  have N1 := Fr.app N0 N1q
  have Zs1 := Nat.le_trans Z0 Kc1.1
  have Ec1 := own_ext0 Kc1
  have K1 := (Keep.refl h0 []).ext Ec1
  refine own_by (S' := T1.setTop (mkF m 8 #[.val (.long (0 : Int64)), .second, .val (.int (0 : Int32))] [(.ref r)])) (fun tZ kZ => st1 _ kZ) ?_
  exact own_retA X1 hx Bd.returns rfl rfl (hb hby d28_8) Bd.notSynchronized (by decide) (by decide) ⟨r, rfl, N1, K1, qd1⟩
theorem d25_0 : decode jdk_17_method_113_code 0 = .ok (.lload_n 2, 1) := by decide +kernel
theorem d25_1 : decode jdk_17_method_113_code 1 = .ok (.l2i, 1) := by decide +kernel
theorem d25_2 : decode jdk_17_method_113_code 2 = .ok (.istore 4, 2) := by decide +kernel
theorem d25_4 : decode jdk_17_method_113_code 4 = .ok (.iload 4, 2) := by decide +kernel
theorem d25_6 : decode jdk_17_method_113_code 6 = .ok (.i2l, 1) := by decide +kernel
theorem d25_7 : decode jdk_17_method_113_code 7 = .ok (.lload_n 2, 1) := by decide +kernel
theorem d25_8 : decode jdk_17_method_113_code 8 = .ok (.lcmp, 1) := by decide +kernel
theorem d25_9 : decode jdk_17_method_113_code 9 = .ok (.ifCond .eq 50, 3) := by decide +kernel
theorem d25_12 : decode jdk_17_method_113_code 12 = .ok (.lload_n 2, 1) := by decide +kernel
theorem d25_13 : decode jdk_17_method_113_code 13 = .ok (.ldc2_w 404, 3) := by decide +kernel
theorem d25_16 : decode jdk_17_method_113_code 16 = .ok (.lcmp, 1) := by decide +kernel
theorem d25_17 : decode jdk_17_method_113_code 17 = .ok (.ifCond .le 9, 3) := by decide +kernel
theorem d25_20 : decode jdk_17_method_113_code 20 = .ok (.ldc_w 874, 3) := by decide +kernel
theorem d25_23 : decode jdk_17_method_113_code 23 = .ok (.goto 6, 3) := by decide +kernel
theorem d25_26 : decode jdk_17_method_113_code 26 = .ok (.ldc_w 875, 3) := by decide +kernel
theorem d25_29 : decode jdk_17_method_113_code 29 = .ok (.istore 4, 2) := by decide +kernel
theorem d25_31 : decode jdk_17_method_113_code 31 = .ok (.lload_n 0, 1) := by decide +kernel
theorem d25_32 : decode jdk_17_method_113_code 32 = .ok (.lconst 0, 1) := by decide +kernel
theorem d25_33 : decode jdk_17_method_113_code 33 = .ok (.lcmp, 1) := by decide +kernel
theorem d25_34 : decode jdk_17_method_113_code 34 = .ok (.ifCond .eq 25, 3) := by decide +kernel
theorem d25_37 : decode jdk_17_method_113_code 37 = .ok (.new 384, 3) := by decide +kernel
theorem d25_40 : decode jdk_17_method_113_code 40 = .ok (.dup, 1) := by decide +kernel
theorem d25_41 : decode jdk_17_method_113_code 41 = .ok (.iload 4, 2) := by decide +kernel
theorem d25_43 : decode jdk_17_method_113_code 43 = .ok (.ifCond .le 9, 3) := by decide +kernel
theorem d25_46 : decode jdk_17_method_113_code 46 = .ok (.ldc_w 876, 3) := by decide +kernel
theorem d25_49 : decode jdk_17_method_113_code 49 = .ok (.goto 6, 3) := by decide +kernel
theorem d25_52 : decode jdk_17_method_113_code 52 = .ok (.ldc_w 694, 3) := by decide +kernel
theorem d25_55 : decode jdk_17_method_113_code 55 = .ok (.invokespecial 388, 3) := by decide +kernel
theorem d25_58 : decode jdk_17_method_113_code 58 = .ok (.athrow, 1) := by decide +kernel
theorem d25_59 : decode jdk_17_method_113_code 59 = .ok (.iload 4, 2) := by decide +kernel
theorem d25_61 : decode jdk_17_method_113_code 61 = .ok (.ireturn, 1) := by decide +kernel
theorem ef_rmCk (m : MethodId) (v : Int64) (y : Int64) : entryFrame m #[(.long v), (.long y)] 5 = mkF m 0 #[.val (.long v), .second, .val (.long y), .second, .unset] [] := by first | (simp [entryFrame, mkF, argsToLocals, Value.category, maxLocals]; done) | rfl
set_option maxRecDepth 65536 in
set_option maxHeartbeats 40000000 in
theorem rmCk (l : Launch) (Z : State) (a0 : Array Value) (hw : ∀ d ∈ tables_1, d.before a0 Z = true) (ws : List Jvm.Cond) (v y : Int64) (h0 : Heap) (n0 : Nat) (Z0 : n0 ≤ h0.size) (hy : y = 0) :
    MetFree l (⟨"java/math/BigDecimal", "checkScale", "(JJ)I"⟩ : MethodName) (head1 (Jvm.Cond.code (⟨"java/math/BigDecimal", "checkScale", "(JJ)I"⟩ : MethodName) jdk_17_method_113_code (5 : Nat) (Option.some Jvm.ClassFile.FieldType.int) :: ws) ({ frames := 0, cells := 0, slots := 0, locals := 0 } : Room)) (fun aZ UZ => aZ = #[(.long v), (.long y)] ∧ Z.Warmed39 UZ.vm ∧ UZ.heap = h0) (fun _ _ _ _ _ => True) (fun _ UZ oZ VZ => ∃ vZ LZ, oZ = .returned vZ ∧ (QSame (some (.int 0)) h0 n0) vZ VZ.heap LZ ∧ FrameEnd UZ oZ VZ LZ ({ frames := 0, cells := 0, slots := 0, locals := 0 } : Room).cells ({ frames := 0, cells := 0, slots := 0, locals := 0 } : Room).slots) := by
  refine MetFree.of_bodySF (plainFor_of_name pn_5) hisR ?_
  intro p e s m args below meth c s₁ Bd hml0 hP hK
  obtain ⟨rfl, hZ, hh⟩ := hP
  have hx := Bd.exec
  have hby := Bd.bytes
  have hml : c.maxLocals = 5 := hml0
  have hown : s.vm.findClass "java/math/BigDecimal" = some m.cls := findClass_of_methodNamed Bd.named
  have hnm := (name_of_methodNamed Bd.named Bd.method).1
  have X0 : Stand p l e ({ frames := 0, cells := 0, slots := 0, locals := 0 } : Room) s m #[(.long v), (.long y)] below meth c s₁ [] 0 0 := Stand.of_body Bd
  have e0 : s₁.heap = h0 := by rw [← hh, Bd.state]; rfl
  have N0 := Fr.nil n0
  show OwnG p e below (OwnE s (QSame (some (.int 0)) h0 n0) ({ frames := 0, cells := 0, slots := 0, locals := 0 } : Room).cells ({ frames := 0, cells := 0, slots := 0, locals := 0 } : Room).slots) _
  refine own_by (S' := s₁.setTop (mkF m 0 #[.val (.long v), .second, .val (.long y), .second, .unset] [])) (fun tZ kZ => castTop (ef_rmCk m v y) kZ) ?_
  refine own_by (S' := s₁.setTop (mkF m 1 #[.val (.long v), .second, .val (.long y), .second, .unset] [(.long y)])) (fun tZ kZ => XS.lloadN X0.here hx rfl (hb hby d25_0) rfl kZ) ?_
  refine own_by (S' := s₁.setTop (mkF m 2 #[.val (.long v), .second, .val (.long y), .second, .unset] [(.int (y.toInt32))])) (fun tZ kZ => XS.l2i X0.here hx rfl (hb hby d25_1) rfl kZ) ?_
  refine own_by (S' := s₁.setTop (mkF m 4 #[.val (.long v), .second, .val (.long y), .second, .val (.int (y.toInt32))] [])) (fun tZ kZ => XS.istore X0.here hx rfl (hb hby d25_2) rfl (l' := #[.val (.long v), .second, .val (.long y), .second, .val (.int (y.toInt32))]) rfl kZ) ?_
  refine own_by (S' := s₁.setTop (mkF m 6 #[.val (.long v), .second, .val (.long y), .second, .val (.int (y.toInt32))] [(.int (y.toInt32))])) (fun tZ kZ => XS.iload X0.here hx rfl (hb hby d25_4) rfl kZ) ?_
  refine own_by (S' := s₁.setTop (mkF m 7 #[.val (.long v), .second, .val (.long y), .second, .val (.int (y.toInt32))] [(.long ((y.toInt32).toInt64))])) (fun tZ kZ => XS.i2l X0.here hx rfl (hb hby d25_6) rfl kZ) ?_
  refine own_by (S' := s₁.setTop (mkF m 8 #[.val (.long v), .second, .val (.long y), .second, .val (.int (y.toInt32))] [(.long y), (.long ((y.toInt32).toInt64))])) (fun tZ kZ => XS.lloadN X0.here hx rfl (hb hby d25_7) rfl kZ) ?_
  refine own_by (S' := s₁.setTop (mkF m 9 #[.val (.long v), .second, .val (.long y), .second, .val (.int (y.toInt32))] [(.int (lcmpW ((y.toInt32).toInt64) y))])) (fun tZ kZ => XS.lcmp X0.here hx rfl (hb hby d25_8) rfl kZ) ?_
  refine own_by (S' := s₁.setTop (mkF m 59 #[.val (.long v), .second, .val (.long y), .second, .val (.int (y.toInt32))] [])) (fun tZ kZ => XS.ifYes X0.here hx rfl (pc0 := 9) (pc' := 59) rfl (hb hby d25_9) rfl ((if0 _ _).trans (teq (by rw [hy]; decide)).1) (by decide) (by decide) kZ) ?_
  refine own_by (S' := s₁.setTop (mkF m 61 #[.val (.long v), .second, .val (.long y), .second, .val (.int (y.toInt32))] [(.int (y.toInt32))])) (fun tZ kZ => XS.iload X0.here hx rfl (hb hby d25_59) rfl kZ) ?_
  exact own_retI X0 hx (t := .int) Bd.returns (by simp) rfl (hb hby d25_61) Bd.notSynchronized (by decide) (by decide) ⟨by rw [hy]; rfl, N0, e0⟩
theorem d26_0 : decode jdk_17_method_97_code 0 = .ok (.lload_n 0, 1) := by decide +kernel
theorem d26_1 : decode jdk_17_method_97_code 1 = .ok (.lconst 0, 1) := by decide +kernel
theorem d26_2 : decode jdk_17_method_97_code 2 = .ok (.lcmp, 1) := by decide +kernel
theorem d26_3 : decode jdk_17_method_97_code 3 = .ok (.ifCond .eq 7, 3) := by decide +kernel
theorem d26_6 : decode jdk_17_method_97_code 6 = .ok (.iload_n 2, 1) := by decide +kernel
theorem d26_7 : decode jdk_17_method_97_code 7 = .ok (.ifCond .gt 5, 3) := by decide +kernel
theorem d26_10 : decode jdk_17_method_97_code 10 = .ok (.lload_n 0, 1) := by decide +kernel
theorem d26_11 : decode jdk_17_method_97_code 11 = .ok (.lreturn, 1) := by decide +kernel
theorem d26_12 : decode jdk_17_method_97_code 12 = .ok (.getstatic 95, 3) := by decide +kernel
theorem d26_15 : decode jdk_17_method_97_code 15 = .ok (.astore_n 3, 1) := by decide +kernel
theorem d26_16 : decode jdk_17_method_97_code 16 = .ok (.getstatic 825, 3) := by decide +kernel
theorem d26_19 : decode jdk_17_method_97_code 19 = .ok (.astore 4, 2) := by decide +kernel
theorem d26_21 : decode jdk_17_method_97_code 21 = .ok (.iload_n 2, 1) := by decide +kernel
theorem d26_22 : decode jdk_17_method_97_code 22 = .ok (.aload_n 3, 1) := by decide +kernel
theorem d26_23 : decode jdk_17_method_97_code 23 = .ok (.arraylength, 1) := by decide +kernel
theorem d26_24 : decode jdk_17_method_97_code 24 = .ok (.if_icmp .ge 41, 3) := by decide +kernel
theorem d26_27 : decode jdk_17_method_97_code 27 = .ok (.iload_n 2, 1) := by decide +kernel
theorem d26_28 : decode jdk_17_method_97_code 28 = .ok (.aload 4, 2) := by decide +kernel
theorem d26_30 : decode jdk_17_method_97_code 30 = .ok (.arraylength, 1) := by decide +kernel
theorem d26_31 : decode jdk_17_method_97_code 31 = .ok (.if_icmp .ge 34, 3) := by decide +kernel
theorem d26_34 : decode jdk_17_method_97_code 34 = .ok (.aload_n 3, 1) := by decide +kernel
theorem d26_35 : decode jdk_17_method_97_code 35 = .ok (.iload_n 2, 1) := by decide +kernel
theorem d26_36 : decode jdk_17_method_97_code 36 = .ok (.laload, 1) := by decide +kernel
theorem d26_37 : decode jdk_17_method_97_code 37 = .ok (.lstore 5, 2) := by decide +kernel
theorem d26_39 : decode jdk_17_method_97_code 39 = .ok (.lload_n 0, 1) := by decide +kernel
theorem d26_40 : decode jdk_17_method_97_code 40 = .ok (.lconst 1, 1) := by decide +kernel
theorem d26_41 : decode jdk_17_method_97_code 41 = .ok (.lcmp, 1) := by decide +kernel
theorem d26_42 : decode jdk_17_method_97_code 42 = .ok (.ifCond .ne 6, 3) := by decide +kernel
theorem d26_45 : decode jdk_17_method_97_code 45 = .ok (.lload 5, 2) := by decide +kernel
theorem d26_47 : decode jdk_17_method_97_code 47 = .ok (.lreturn, 1) := by decide +kernel
theorem d26_48 : decode jdk_17_method_97_code 48 = .ok (.lload_n 0, 1) := by decide +kernel
theorem d26_49 : decode jdk_17_method_97_code 49 = .ok (.invokestatic 440, 3) := by decide +kernel
theorem d26_52 : decode jdk_17_method_97_code 52 = .ok (.aload 4, 2) := by decide +kernel
theorem d26_54 : decode jdk_17_method_97_code 54 = .ok (.iload_n 2, 1) := by decide +kernel
theorem d26_55 : decode jdk_17_method_97_code 55 = .ok (.laload, 1) := by decide +kernel
theorem d26_56 : decode jdk_17_method_97_code 56 = .ok (.lcmp, 1) := by decide +kernel
theorem d26_57 : decode jdk_17_method_97_code 57 = .ok (.ifCond .gt 8, 3) := by decide +kernel
theorem d26_60 : decode jdk_17_method_97_code 60 = .ok (.lload_n 0, 1) := by decide +kernel
theorem d26_61 : decode jdk_17_method_97_code 61 = .ok (.lload 5, 2) := by decide +kernel
theorem d26_63 : decode jdk_17_method_97_code 63 = .ok (.lmul, 1) := by decide +kernel
theorem d26_64 : decode jdk_17_method_97_code 64 = .ok (.lreturn, 1) := by decide +kernel
theorem d26_65 : decode jdk_17_method_97_code 65 = .ok (.ldc2_w 125, 3) := by decide +kernel
theorem d26_68 : decode jdk_17_method_97_code 68 = .ok (.lreturn, 1) := by decide +kernel
theorem ef_rmLm (m : MethodId) (v : Int64) (i : Int32) : entryFrame m #[(.long v), (.int i)] 7 = mkF m 0 #[.val (.long v), .second, .val (.int i), .unset, .unset, .unset, .unset] [] := by first | (simp [entryFrame, mkF, argsToLocals, Value.category, maxLocals]; done) | rfl
set_option maxRecDepth 65536 in
set_option maxHeartbeats 40000000 in
theorem rmLm (l : Launch) (Z : State) (a0 : Array Value) (hw : ∀ d ∈ tables_1, d.before a0 Z = true) (ws : List Jvm.Cond) (v : Int64) (i : Int32) (h0 : Heap) (n0 : Nat) (Z0 : n0 ≤ h0.size) (hi : i = 0) (hv : 0 < v.toInt) :
    MetFree l (⟨"java/math/BigDecimal", "longMultiplyPowerTen", "(JI)J"⟩ : MethodName) (head1 (Jvm.Cond.code (⟨"java/math/BigDecimal", "longMultiplyPowerTen", "(JI)J"⟩ : MethodName) jdk_17_method_97_code (7 : Nat) (Option.some Jvm.ClassFile.FieldType.long) :: ws) ({ frames := 0, cells := 0, slots := 0, locals := 0 } : Room)) (fun aZ UZ => aZ = #[(.long v), (.int i)] ∧ Z.Warmed39 UZ.vm ∧ UZ.heap = h0) (fun _ _ _ _ _ => True) (fun _ UZ oZ VZ => ∃ vZ LZ, oZ = .returned vZ ∧ (QSame (some (.long v)) h0 n0) vZ VZ.heap LZ ∧ FrameEnd UZ oZ VZ LZ ({ frames := 0, cells := 0, slots := 0, locals := 0 } : Room).cells ({ frames := 0, cells := 0, slots := 0, locals := 0 } : Room).slots) := by
  refine MetFree.of_bodySF (plainFor_of_name pn_5) hisR ?_
  intro p e s m args below meth c s₁ Bd hml0 hP hK
  obtain ⟨rfl, hZ, hh⟩ := hP
  have hx := Bd.exec
  have hby := Bd.bytes
  have hml : c.maxLocals = 7 := hml0
  have hown : s.vm.findClass "java/math/BigDecimal" = some m.cls := findClass_of_methodNamed Bd.named
  have hnm := (name_of_methodNamed Bd.named Bd.method).1
  have X0 : Stand p l e ({ frames := 0, cells := 0, slots := 0, locals := 0 } : Room) s m #[(.long v), (.int i)] below meth c s₁ [] 0 0 := Stand.of_body Bd
  have e0 : s₁.heap = h0 := by rw [← hh, Bd.state]; rfl
  have N0 := Fr.nil n0
  show OwnG p e below (OwnE s (QSame (some (.long v)) h0 n0) ({ frames := 0, cells := 0, slots := 0, locals := 0 } : Room).cells ({ frames := 0, cells := 0, slots := 0, locals := 0 } : Room).slots) _
  refine own_by (S' := s₁.setTop (mkF m 0 #[.val (.long v), .second, .val (.int i), .unset, .unset, .unset, .unset] [])) (fun tZ kZ => castTop (ef_rmLm m v i) kZ) ?_
  refine own_by (S' := s₁.setTop (mkF m 1 #[.val (.long v), .second, .val (.int i), .unset, .unset, .unset, .unset] [(.long v)])) (fun tZ kZ => XS.lloadN X0.here hx rfl (hb hby d26_0) rfl kZ) ?_
  refine own_by (S' := s₁.setTop (mkF m 2 #[.val (.long v), .second, .val (.int i), .unset, .unset, .unset, .unset] [(.long (0 : Int64)), (.long v)])) (fun tZ kZ => XS.lconst X0.here hx rfl (hb hby d26_1) kZ) ?_
  refine own_by (S' := s₁.setTop (mkF m 3 #[.val (.long v), .second, .val (.int i), .unset, .unset, .unset, .unset] [(.int (lcmpW v (0 : Int64)))])) (fun tZ kZ => XS.lcmp X0.here hx rfl (hb hby d26_2) rfl kZ) ?_
  refine own_by (S' := s₁.setTop (mkF m 6 #[.val (.long v), .second, .val (.int i), .unset, .unset, .unset, .unset] [])) (fun tZ kZ => XS.ifNo X0.here hx rfl (hb hby d26_3) rfl ((if0 _ _).trans (feq (by rw [lw_eq]; exact own_nz hv)).1) kZ) ?_
  refine own_by (S' := s₁.setTop (mkF m 7 #[.val (.long v), .second, .val (.int i), .unset, .unset, .unset, .unset] [(.int i)])) (fun tZ kZ => XS.iloadN X0.here hx rfl (hb hby d26_6) rfl kZ) ?_
  refine own_by (S' := s₁.setTop (mkF m 10 #[.val (.long v), .second, .val (.int i), .unset, .unset, .unset, .unset] [])) (fun tZ kZ => XS.ifNo X0.here hx rfl (hb hby d26_7) rfl ((if0 _ _).trans (flt (by rw [hi]; decide)).2.2.1) kZ) ?_
  refine own_by (S' := s₁.setTop (mkF m 11 #[.val (.long v), .second, .val (.int i), .unset, .unset, .unset, .unset] [(.long v)])) (fun tZ kZ => XS.lloadN X0.here hx rfl (hb hby d26_10) rfl kZ) ?_
  exact own_retL X0 hx Bd.returns  (hb hby d26_11) Bd.notSynchronized (by decide) (by decide) ⟨rfl, N0, e0⟩
theorem d27_0 : decode jdk_17_method_119_code 0 = .ok (.lload_n 0, 1) := by decide +kernel
theorem d27_1 : decode jdk_17_method_119_code 1 = .ok (.lload_n 2, 1) := by decide +kernel
theorem d27_2 : decode jdk_17_method_119_code 2 = .ok (.ldiv, 1) := by decide +kernel
theorem d27_3 : decode jdk_17_method_119_code 3 = .ok (.lstore 8, 2) := by decide +kernel
theorem d27_5 : decode jdk_17_method_119_code 5 = .ok (.iload 5, 2) := by decide +kernel
theorem d27_7 : decode jdk_17_method_119_code 7 = .ok (.iconst 1, 1) := by decide +kernel
theorem d27_8 : decode jdk_17_method_119_code 8 = .ok (.if_icmp .ne 18, 3) := by decide +kernel
theorem d27_11 : decode jdk_17_method_119_code 11 = .ok (.iload 4, 2) := by decide +kernel
theorem d27_13 : decode jdk_17_method_119_code 13 = .ok (.iload 6, 2) := by decide +kernel
theorem d27_15 : decode jdk_17_method_119_code 15 = .ok (.if_icmp .ne 11, 3) := by decide +kernel
theorem d27_18 : decode jdk_17_method_119_code 18 = .ok (.lload 8, 2) := by decide +kernel
theorem d27_20 : decode jdk_17_method_119_code 20 = .ok (.iload 4, 2) := by decide +kernel
theorem d27_22 : decode jdk_17_method_119_code 22 = .ok (.invokestatic 328, 3) := by decide +kernel
theorem d27_25 : decode jdk_17_method_119_code 25 = .ok (.areturn, 1) := by decide +kernel
theorem d27_26 : decode jdk_17_method_119_code 26 = .ok (.lload_n 0, 1) := by decide +kernel
theorem d27_27 : decode jdk_17_method_119_code 27 = .ok (.lload_n 2, 1) := by decide +kernel
theorem d27_28 : decode jdk_17_method_119_code 28 = .ok (.lrem, 1) := by decide +kernel
theorem d27_29 : decode jdk_17_method_119_code 29 = .ok (.lstore 10, 2) := by decide +kernel
theorem d27_31 : decode jdk_17_method_119_code 31 = .ok (.lload_n 0, 1) := by decide +kernel
theorem d27_32 : decode jdk_17_method_119_code 32 = .ok (.lconst 0, 1) := by decide +kernel
theorem d27_33 : decode jdk_17_method_119_code 33 = .ok (.lcmp, 1) := by decide +kernel
theorem d27_34 : decode jdk_17_method_119_code 34 = .ok (.ifCond .ge 7, 3) := by decide +kernel
theorem d27_37 : decode jdk_17_method_119_code 37 = .ok (.iconst 1, 1) := by decide +kernel
theorem d27_38 : decode jdk_17_method_119_code 38 = .ok (.goto 4, 3) := by decide +kernel
theorem d27_41 : decode jdk_17_method_119_code 41 = .ok (.iconst 0, 1) := by decide +kernel
theorem d27_42 : decode jdk_17_method_119_code 42 = .ok (.lload_n 2, 1) := by decide +kernel
theorem d27_43 : decode jdk_17_method_119_code 43 = .ok (.lconst 0, 1) := by decide +kernel
theorem d27_44 : decode jdk_17_method_119_code 44 = .ok (.lcmp, 1) := by decide +kernel
theorem d27_45 : decode jdk_17_method_119_code 45 = .ok (.ifCond .ge 7, 3) := by decide +kernel
theorem d27_48 : decode jdk_17_method_119_code 48 = .ok (.iconst 1, 1) := by decide +kernel
theorem d27_49 : decode jdk_17_method_119_code 49 = .ok (.goto 4, 3) := by decide +kernel
theorem d27_52 : decode jdk_17_method_119_code 52 = .ok (.iconst 0, 1) := by decide +kernel
theorem d27_53 : decode jdk_17_method_119_code 53 = .ok (.if_icmp .ne 7, 3) := by decide +kernel
theorem d27_56 : decode jdk_17_method_119_code 56 = .ok (.iconst 1, 1) := by decide +kernel
theorem d27_57 : decode jdk_17_method_119_code 57 = .ok (.goto 4, 3) := by decide +kernel
theorem d27_60 : decode jdk_17_method_119_code 60 = .ok (.iconst (-1), 1) := by decide +kernel
theorem d27_61 : decode jdk_17_method_119_code 61 = .ok (.istore 7, 2) := by decide +kernel
theorem d27_63 : decode jdk_17_method_119_code 63 = .ok (.lload 10, 2) := by decide +kernel
theorem d27_65 : decode jdk_17_method_119_code 65 = .ok (.lconst 0, 1) := by decide +kernel
theorem d27_66 : decode jdk_17_method_119_code 66 = .ok (.lcmp, 1) := by decide +kernel
theorem d27_67 : decode jdk_17_method_119_code 67 = .ok (.ifCond .eq 39, 3) := by decide +kernel
theorem d27_70 : decode jdk_17_method_119_code 70 = .ok (.lload_n 2, 1) := by decide +kernel
theorem d27_71 : decode jdk_17_method_119_code 71 = .ok (.iload 5, 2) := by decide +kernel
theorem d27_73 : decode jdk_17_method_119_code 73 = .ok (.iload 7, 2) := by decide +kernel
theorem d27_75 : decode jdk_17_method_119_code 75 = .ok (.lload 8, 2) := by decide +kernel
theorem d27_77 : decode jdk_17_method_119_code 77 = .ok (.lload 10, 2) := by decide +kernel
theorem d27_79 : decode jdk_17_method_119_code 79 = .ok (.invokestatic 924, 3) := by decide +kernel
theorem d27_82 : decode jdk_17_method_119_code 82 = .ok (.istore 12, 2) := by decide +kernel
theorem d27_84 : decode jdk_17_method_119_code 84 = .ok (.iload 12, 2) := by decide +kernel
theorem d27_86 : decode jdk_17_method_119_code 86 = .ok (.ifCond .eq 12, 3) := by decide +kernel
theorem d27_89 : decode jdk_17_method_119_code 89 = .ok (.lload 8, 2) := by decide +kernel
theorem d27_91 : decode jdk_17_method_119_code 91 = .ok (.iload 7, 2) := by decide +kernel
theorem d27_93 : decode jdk_17_method_119_code 93 = .ok (.i2l, 1) := by decide +kernel
theorem d27_94 : decode jdk_17_method_119_code 94 = .ok (.ladd, 1) := by decide +kernel
theorem d27_95 : decode jdk_17_method_119_code 95 = .ok (.goto 5, 3) := by decide +kernel
theorem d27_98 : decode jdk_17_method_119_code 98 = .ok (.lload 8, 2) := by decide +kernel
theorem d27_100 : decode jdk_17_method_119_code 100 = .ok (.iload 4, 2) := by decide +kernel
theorem d27_102 : decode jdk_17_method_119_code 102 = .ok (.invokestatic 328, 3) := by decide +kernel
theorem d27_105 : decode jdk_17_method_119_code 105 = .ok (.areturn, 1) := by decide +kernel
theorem d27_106 : decode jdk_17_method_119_code 106 = .ok (.iload 6, 2) := by decide +kernel
theorem d27_108 : decode jdk_17_method_119_code 108 = .ok (.iload 4, 2) := by decide +kernel
theorem d27_110 : decode jdk_17_method_119_code 110 = .ok (.if_icmp .eq 14, 3) := by decide +kernel
theorem d27_113 : decode jdk_17_method_119_code 113 = .ok (.lload 8, 2) := by decide +kernel
theorem d27_115 : decode jdk_17_method_119_code 115 = .ok (.iload 4, 2) := by decide +kernel
theorem d27_117 : decode jdk_17_method_119_code 117 = .ok (.iload 6, 2) := by decide +kernel
theorem d27_119 : decode jdk_17_method_119_code 119 = .ok (.i2l, 1) := by decide +kernel
theorem d27_120 : decode jdk_17_method_119_code 120 = .ok (.invokestatic 621, 3) := by decide +kernel
theorem d27_123 : decode jdk_17_method_119_code 123 = .ok (.areturn, 1) := by decide +kernel
theorem d27_124 : decode jdk_17_method_119_code 124 = .ok (.lload 8, 2) := by decide +kernel
theorem d27_126 : decode jdk_17_method_119_code 126 = .ok (.iload 4, 2) := by decide +kernel
theorem d27_128 : decode jdk_17_method_119_code 128 = .ok (.invokestatic 328, 3) := by decide +kernel
theorem d27_131 : decode jdk_17_method_119_code 131 = .ok (.areturn, 1) := by decide +kernel
theorem ef_rmDr (m : MethodId) (v : Int64) : entryFrame m #[(.long (0 : Int64)), (.long v), (.int (0 : Int32)), (.int (6 : Int32)), (.int (0 : Int32))] 13 = mkF m 0 #[.val (.long (0 : Int64)), .second, .val (.long v), .second, .val (.int (0 : Int32)), .val (.int (6 : Int32)), .val (.int (0 : Int32)), .unset, .unset, .unset, .unset, .unset, .unset] [] := by first | (simp [entryFrame, mkF, argsToLocals, Value.category, maxLocals]; done) | rfl
set_option maxRecDepth 65536 in
set_option maxHeartbeats 40000000 in
theorem rmDr (l : Launch) (Z : State) (a0 : Array Value) (hw : ∀ d ∈ tables_1, d.before a0 Z = true) (ws : List Jvm.Cond) (v : Int64) (hB : Heap) (zr mz pa za rmo lt mir : Addr) (mc pk zc lc : Cell) (h0 : Heap) (n0 : Nat) (Z0 : n0 ≤ h0.size) (Eb : Ext hB h0) (WD : OwnWd Z a0 hB zr mz pa za rmo lt mir mc pk zc lc) (hv : 0 < v.toInt) :
    MetFree l (⟨"java/math/BigDecimal", "divideAndRound", "(JJIII)Ljava/math/BigDecimal;"⟩ : MethodName) (head1 (Jvm.Cond.code (⟨"java/math/BigDecimal", "divideAndRound", "(JJIII)Ljava/math/BigDecimal;"⟩ : MethodName) jdk_17_method_119_code (13 : Nat) (Option.some (Jvm.ClassFile.FieldType.object "java/math/BigDecimal")) :: ws) ({ frames := 5, cells := 1, slots := 5, locals := 69 } : Room)) (fun aZ UZ => aZ = #[(.long (0 : Int64)), (.long v), (.int (0 : Int32)), (.int (6 : Int32)), (.int (0 : Int32))] ∧ Z.Warmed39 UZ.vm ∧ UZ.heap = h0) (fun _ _ _ _ _ => True) (fun _ UZ oZ VZ => ∃ vZ LZ, oZ = .returned vZ ∧ (QDv Z 0 h0 n0) vZ VZ.heap LZ ∧ FrameEnd UZ oZ VZ LZ ({ frames := 5, cells := 1, slots := 5, locals := 69 } : Room).cells ({ frames := 5, cells := 1, slots := 5, locals := 69 } : Room).slots) := by
  refine MetFree.of_bodySF (plainFor_of_name pn_5) hisR ?_
  intro p e s m args below meth c s₁ Bd hml0 hP hK
  obtain ⟨rfl, hZ, hh⟩ := hP
  have hx := Bd.exec
  have hby := Bd.bytes
  have hml : c.maxLocals = 13 := hml0
  have hown : s.vm.findClass "java/math/BigDecimal" = some m.cls := findClass_of_methodNamed Bd.named
  have hnm := (name_of_methodNamed Bd.named Bd.method).1
  have X0 : Stand p l e ({ frames := 5, cells := 1, slots := 5, locals := 69 } : Room) s m #[(.long (0 : Int64)), (.long v), (.int (0 : Int32)), (.int (6 : Int32)), (.int (0 : Int32))] below meth c s₁ [] 0 0 := Stand.of_body Bd
  have e0 : s₁.heap = h0 := by rw [← hh, Bd.state]; rfl
  have N0 := Fr.nil n0
  show OwnG p e below (OwnE s (QDv Z 0 h0 n0) ({ frames := 5, cells := 1, slots := 5, locals := 69 } : Room).cells ({ frames := 5, cells := 1, slots := 5, locals := 69 } : Room).slots) _
  refine own_by (S' := s₁.setTop (mkF m 0 #[.val (.long (0 : Int64)), .second, .val (.long v), .second, .val (.int (0 : Int32)), .val (.int (6 : Int32)), .val (.int (0 : Int32)), .unset, .unset, .unset, .unset, .unset, .unset] [])) (fun tZ kZ => castTop (ef_rmDr m v) kZ) ?_
  obtain ⟨hz1, hz2⟩ := own_z v hv
  refine own_by (S' := s₁.setTop (mkF m 1 #[.val (.long (0 : Int64)), .second, .val (.long v), .second, .val (.int (0 : Int32)), .val (.int (6 : Int32)), .val (.int (0 : Int32)), .unset, .unset, .unset, .unset, .unset, .unset] [(.long (0 : Int64))])) (fun tZ kZ => XS.lloadN X0.here hx rfl (hb hby d27_0) rfl kZ) ?_
  refine own_by (S' := s₁.setTop (mkF m 2 #[.val (.long (0 : Int64)), .second, .val (.long v), .second, .val (.int (0 : Int32)), .val (.int (6 : Int32)), .val (.int (0 : Int32)), .unset, .unset, .unset, .unset, .unset, .unset] [(.long v), (.long (0 : Int64))])) (fun tZ kZ => XS.lloadN X0.here hx rfl (hb hby d27_1) rfl kZ) ?_
  refine own_by (S' := s₁.setTop (mkF m 3 #[.val (.long (0 : Int64)), .second, .val (.long v), .second, .val (.int (0 : Int32)), .val (.int (6 : Int32)), .val (.int (0 : Int32)), .unset, .unset, .unset, .unset, .unset, .unset] [(.long ((0 : Int64) / v))])) (fun tZ kZ => XS.ldiv X0.here hx rfl (hb hby d27_2) rfl (own_nz hv) kZ) ?_
  rw [hz1]
  refine own_by (S' := s₁.setTop (mkF m 5 #[.val (.long (0 : Int64)), .second, .val (.long v), .second, .val (.int (0 : Int32)), .val (.int (6 : Int32)), .val (.int (0 : Int32)), .unset, .val (.long (0 : Int64)), .second, .unset, .unset, .unset] [])) (fun tZ kZ => XS.lstore X0.here hx rfl (hb hby d27_3) rfl (l' := #[.val (.long (0 : Int64)), .second, .val (.long v), .second, .val (.int (0 : Int32)), .val (.int (6 : Int32)), .val (.int (0 : Int32)), .unset, .val (.long (0 : Int64)), .second, .unset, .unset, .unset]) rfl kZ) ?_
  refine own_by (S' := s₁.setTop (mkF m 7 #[.val (.long (0 : Int64)), .second, .val (.long v), .second, .val (.int (0 : Int32)), .val (.int (6 : Int32)), .val (.int (0 : Int32)), .unset, .val (.long (0 : Int64)), .second, .unset, .unset, .unset] [(.int (6 : Int32))])) (fun tZ kZ => XS.iload X0.here hx rfl (hb hby d27_5) rfl kZ) ?_
  refine own_by (S' := s₁.setTop (mkF m 8 #[.val (.long (0 : Int64)), .second, .val (.long v), .second, .val (.int (0 : Int32)), .val (.int (6 : Int32)), .val (.int (0 : Int32)), .unset, .val (.long (0 : Int64)), .second, .unset, .unset, .unset] [(.int (1 : Int32)), (.int (6 : Int32))])) (fun tZ kZ => XS.iconst X0.here hx rfl (hb hby d27_7) kZ) ?_
  refine own_by (S' := s₁.setTop (mkF m 26 #[.val (.long (0 : Int64)), .second, .val (.long v), .second, .val (.int (0 : Int32)), .val (.int (6 : Int32)), .val (.int (0 : Int32)), .unset, .val (.long (0 : Int64)), .second, .unset, .unset, .unset] [])) (fun tZ kZ => XS.icmpYes X0.here hx rfl (pc0 := 8) (pc' := 26) rfl (hb hby d27_8) rfl (feq (by decide)).2 (by decide) (by decide) kZ) ?_
  refine own_by (S' := s₁.setTop (mkF m 27 #[.val (.long (0 : Int64)), .second, .val (.long v), .second, .val (.int (0 : Int32)), .val (.int (6 : Int32)), .val (.int (0 : Int32)), .unset, .val (.long (0 : Int64)), .second, .unset, .unset, .unset] [(.long (0 : Int64))])) (fun tZ kZ => XS.lloadN X0.here hx rfl (hb hby d27_26) rfl kZ) ?_
  refine own_by (S' := s₁.setTop (mkF m 28 #[.val (.long (0 : Int64)), .second, .val (.long v), .second, .val (.int (0 : Int32)), .val (.int (6 : Int32)), .val (.int (0 : Int32)), .unset, .val (.long (0 : Int64)), .second, .unset, .unset, .unset] [(.long v), (.long (0 : Int64))])) (fun tZ kZ => XS.lloadN X0.here hx rfl (hb hby d27_27) rfl kZ) ?_
  refine own_by (S' := s₁.setTop (mkF m 29 #[.val (.long (0 : Int64)), .second, .val (.long v), .second, .val (.int (0 : Int32)), .val (.int (6 : Int32)), .val (.int (0 : Int32)), .unset, .val (.long (0 : Int64)), .second, .unset, .unset, .unset] [(.long ((0 : Int64) - ((0 : Int64) / v) * v))])) (fun tZ kZ => XS.lrem X0.here hx rfl (hb hby d27_28) rfl (own_nz hv) kZ) ?_
  rw [hz2]
  refine own_by (S' := s₁.setTop (mkF m 31 #[.val (.long (0 : Int64)), .second, .val (.long v), .second, .val (.int (0 : Int32)), .val (.int (6 : Int32)), .val (.int (0 : Int32)), .unset, .val (.long (0 : Int64)), .second, .val (.long (0 : Int64)), .second, .unset] [])) (fun tZ kZ => XS.lstore X0.here hx rfl (hb hby d27_29) rfl (l' := #[.val (.long (0 : Int64)), .second, .val (.long v), .second, .val (.int (0 : Int32)), .val (.int (6 : Int32)), .val (.int (0 : Int32)), .unset, .val (.long (0 : Int64)), .second, .val (.long (0 : Int64)), .second, .unset]) rfl kZ) ?_
  refine own_by (S' := s₁.setTop (mkF m 32 #[.val (.long (0 : Int64)), .second, .val (.long v), .second, .val (.int (0 : Int32)), .val (.int (6 : Int32)), .val (.int (0 : Int32)), .unset, .val (.long (0 : Int64)), .second, .val (.long (0 : Int64)), .second, .unset] [(.long (0 : Int64))])) (fun tZ kZ => XS.lloadN X0.here hx rfl (hb hby d27_31) rfl kZ) ?_
  refine own_by (S' := s₁.setTop (mkF m 33 #[.val (.long (0 : Int64)), .second, .val (.long v), .second, .val (.int (0 : Int32)), .val (.int (6 : Int32)), .val (.int (0 : Int32)), .unset, .val (.long (0 : Int64)), .second, .val (.long (0 : Int64)), .second, .unset] [(.long (0 : Int64)), (.long (0 : Int64))])) (fun tZ kZ => XS.lconst X0.here hx rfl (hb hby d27_32) kZ) ?_
  refine own_by (S' := s₁.setTop (mkF m 34 #[.val (.long (0 : Int64)), .second, .val (.long v), .second, .val (.int (0 : Int32)), .val (.int (6 : Int32)), .val (.int (0 : Int32)), .unset, .val (.long (0 : Int64)), .second, .val (.long (0 : Int64)), .second, .unset] [(.int (lcmpW (0 : Int64) (0 : Int64)))])) (fun tZ kZ => XS.lcmp X0.here hx rfl (hb hby d27_33) rfl kZ) ?_
  refine own_by (S' := s₁.setTop (mkF m 41 #[.val (.long (0 : Int64)), .second, .val (.long v), .second, .val (.int (0 : Int32)), .val (.int (6 : Int32)), .val (.int (0 : Int32)), .unset, .val (.long (0 : Int64)), .second, .val (.long (0 : Int64)), .second, .unset] [])) (fun tZ kZ => XS.ifYes X0.here hx rfl (pc0 := 34) (pc' := 41) rfl (hb hby d27_34) rfl ((if0 _ _).trans (flt (by decide)).2.1) (by decide) (by decide) kZ) ?_
  refine own_by (S' := s₁.setTop (mkF m 42 #[.val (.long (0 : Int64)), .second, .val (.long v), .second, .val (.int (0 : Int32)), .val (.int (6 : Int32)), .val (.int (0 : Int32)), .unset, .val (.long (0 : Int64)), .second, .val (.long (0 : Int64)), .second, .unset] [(.int (0 : Int32))])) (fun tZ kZ => XS.iconst X0.here hx rfl (hb hby d27_41) kZ) ?_
  refine own_by (S' := s₁.setTop (mkF m 43 #[.val (.long (0 : Int64)), .second, .val (.long v), .second, .val (.int (0 : Int32)), .val (.int (6 : Int32)), .val (.int (0 : Int32)), .unset, .val (.long (0 : Int64)), .second, .val (.long (0 : Int64)), .second, .unset] [(.long v), (.int (0 : Int32))])) (fun tZ kZ => XS.lloadN X0.here hx rfl (hb hby d27_42) rfl kZ) ?_
  refine own_by (S' := s₁.setTop (mkF m 44 #[.val (.long (0 : Int64)), .second, .val (.long v), .second, .val (.int (0 : Int32)), .val (.int (6 : Int32)), .val (.int (0 : Int32)), .unset, .val (.long (0 : Int64)), .second, .val (.long (0 : Int64)), .second, .unset] [(.long (0 : Int64)), (.long v), (.int (0 : Int32))])) (fun tZ kZ => XS.lconst X0.here hx rfl (hb hby d27_43) kZ) ?_
  refine own_by (S' := s₁.setTop (mkF m 45 #[.val (.long (0 : Int64)), .second, .val (.long v), .second, .val (.int (0 : Int32)), .val (.int (6 : Int32)), .val (.int (0 : Int32)), .unset, .val (.long (0 : Int64)), .second, .val (.long (0 : Int64)), .second, .unset] [(.int (lcmpW v (0 : Int64))), (.int (0 : Int32))])) (fun tZ kZ => XS.lcmp X0.here hx rfl (hb hby d27_44) rfl kZ) ?_
  refine own_by (S' := s₁.setTop (mkF m 52 #[.val (.long (0 : Int64)), .second, .val (.long v), .second, .val (.int (0 : Int32)), .val (.int (6 : Int32)), .val (.int (0 : Int32)), .unset, .val (.long (0 : Int64)), .second, .val (.long (0 : Int64)), .second, .unset] [(.int (0 : Int32))])) (fun tZ kZ => XS.ifYes X0.here hx rfl (pc0 := 45) (pc' := 52) rfl (hb hby d27_45) rfl ((if0 _ _).trans (flt (by rw [lw_lt, own_ltL, own_e0]; omega)).2.1) (by decide) (by decide) kZ) ?_
  refine own_by (S' := s₁.setTop (mkF m 53 #[.val (.long (0 : Int64)), .second, .val (.long v), .second, .val (.int (0 : Int32)), .val (.int (6 : Int32)), .val (.int (0 : Int32)), .unset, .val (.long (0 : Int64)), .second, .val (.long (0 : Int64)), .second, .unset] [(.int (0 : Int32)), (.int (0 : Int32))])) (fun tZ kZ => XS.iconst X0.here hx rfl (hb hby d27_52) kZ) ?_
  refine own_by (S' := s₁.setTop (mkF m 56 #[.val (.long (0 : Int64)), .second, .val (.long v), .second, .val (.int (0 : Int32)), .val (.int (6 : Int32)), .val (.int (0 : Int32)), .unset, .val (.long (0 : Int64)), .second, .val (.long (0 : Int64)), .second, .unset] [])) (fun tZ kZ => XS.icmpNo X0.here hx rfl (hb hby d27_53) rfl (teq rfl).2 kZ) ?_
  refine own_by (S' := s₁.setTop (mkF m 57 #[.val (.long (0 : Int64)), .second, .val (.long v), .second, .val (.int (0 : Int32)), .val (.int (6 : Int32)), .val (.int (0 : Int32)), .unset, .val (.long (0 : Int64)), .second, .val (.long (0 : Int64)), .second, .unset] [(.int (1 : Int32))])) (fun tZ kZ => XS.iconst X0.here hx rfl (hb hby d27_56) kZ) ?_
  refine own_by (S' := s₁.setTop (mkF m 61 #[.val (.long (0 : Int64)), .second, .val (.long v), .second, .val (.int (0 : Int32)), .val (.int (6 : Int32)), .val (.int (0 : Int32)), .unset, .val (.long (0 : Int64)), .second, .val (.long (0 : Int64)), .second, .unset] [(.int (1 : Int32))])) (fun tZ kZ => XS.goto X0.here hx rfl (pc0 := 57) (pc' := 61) rfl (hb hby d27_57) (by decide) (by decide) kZ) ?_
  refine own_by (S' := s₁.setTop (mkF m 63 #[.val (.long (0 : Int64)), .second, .val (.long v), .second, .val (.int (0 : Int32)), .val (.int (6 : Int32)), .val (.int (0 : Int32)), .val (.int (1 : Int32)), .val (.long (0 : Int64)), .second, .val (.long (0 : Int64)), .second, .unset] [])) (fun tZ kZ => XS.istore X0.here hx rfl (hb hby d27_61) rfl (l' := #[.val (.long (0 : Int64)), .second, .val (.long v), .second, .val (.int (0 : Int32)), .val (.int (6 : Int32)), .val (.int (0 : Int32)), .val (.int (1 : Int32)), .val (.long (0 : Int64)), .second, .val (.long (0 : Int64)), .second, .unset]) rfl kZ) ?_
  refine own_by (S' := s₁.setTop (mkF m 65 #[.val (.long (0 : Int64)), .second, .val (.long v), .second, .val (.int (0 : Int32)), .val (.int (6 : Int32)), .val (.int (0 : Int32)), .val (.int (1 : Int32)), .val (.long (0 : Int64)), .second, .val (.long (0 : Int64)), .second, .unset] [(.long (0 : Int64))])) (fun tZ kZ => XS.lload X0.here hx rfl (hb hby d27_63) rfl kZ) ?_
  refine own_by (S' := s₁.setTop (mkF m 66 #[.val (.long (0 : Int64)), .second, .val (.long v), .second, .val (.int (0 : Int32)), .val (.int (6 : Int32)), .val (.int (0 : Int32)), .val (.int (1 : Int32)), .val (.long (0 : Int64)), .second, .val (.long (0 : Int64)), .second, .unset] [(.long (0 : Int64)), (.long (0 : Int64))])) (fun tZ kZ => XS.lconst X0.here hx rfl (hb hby d27_65) kZ) ?_
  refine own_by (S' := s₁.setTop (mkF m 67 #[.val (.long (0 : Int64)), .second, .val (.long v), .second, .val (.int (0 : Int32)), .val (.int (6 : Int32)), .val (.int (0 : Int32)), .val (.int (1 : Int32)), .val (.long (0 : Int64)), .second, .val (.long (0 : Int64)), .second, .unset] [(.int (lcmpW (0 : Int64) (0 : Int64)))])) (fun tZ kZ => XS.lcmp X0.here hx rfl (hb hby d27_66) rfl kZ) ?_
  refine own_by (S' := s₁.setTop (mkF m 106 #[.val (.long (0 : Int64)), .second, .val (.long v), .second, .val (.int (0 : Int32)), .val (.int (6 : Int32)), .val (.int (0 : Int32)), .val (.int (1 : Int32)), .val (.long (0 : Int64)), .second, .val (.long (0 : Int64)), .second, .unset] [])) (fun tZ kZ => XS.ifYes X0.here hx rfl (pc0 := 67) (pc' := 106) rfl (hb hby d27_67) rfl ((if0 _ _).trans (teq ((lw_eq _ _).mpr rfl)).1) (by decide) (by decide) kZ) ?_
  refine own_by (S' := s₁.setTop (mkF m 108 #[.val (.long (0 : Int64)), .second, .val (.long v), .second, .val (.int (0 : Int32)), .val (.int (6 : Int32)), .val (.int (0 : Int32)), .val (.int (1 : Int32)), .val (.long (0 : Int64)), .second, .val (.long (0 : Int64)), .second, .unset] [(.int (0 : Int32))])) (fun tZ kZ => XS.iload X0.here hx rfl (hb hby d27_106) rfl kZ) ?_
  refine own_by (S' := s₁.setTop (mkF m 110 #[.val (.long (0 : Int64)), .second, .val (.long v), .second, .val (.int (0 : Int32)), .val (.int (6 : Int32)), .val (.int (0 : Int32)), .val (.int (1 : Int32)), .val (.long (0 : Int64)), .second, .val (.long (0 : Int64)), .second, .unset] [(.int (0 : Int32)), (.int (0 : Int32))])) (fun tZ kZ => XS.iload X0.here hx rfl (hb hby d27_108) rfl kZ) ?_
  refine own_by (S' := s₁.setTop (mkF m 124 #[.val (.long (0 : Int64)), .second, .val (.long v), .second, .val (.int (0 : Int32)), .val (.int (6 : Int32)), .val (.int (0 : Int32)), .val (.int (1 : Int32)), .val (.long (0 : Int64)), .second, .val (.long (0 : Int64)), .second, .unset] [])) (fun tZ kZ => XS.icmpYes X0.here hx rfl (pc0 := 110) (pc' := 124) rfl (hb hby d27_110) rfl (teq rfl).1 (by decide) (by decide) kZ) ?_
  refine own_by (S' := s₁.setTop (mkF m 126 #[.val (.long (0 : Int64)), .second, .val (.long v), .second, .val (.int (0 : Int32)), .val (.int (6 : Int32)), .val (.int (0 : Int32)), .val (.int (1 : Int32)), .val (.long (0 : Int64)), .second, .val (.long (0 : Int64)), .second, .unset] [(.long (0 : Int64))])) (fun tZ kZ => XS.lload X0.here hx rfl (hb hby d27_124) rfl kZ) ?_
  refine own_by (S' := s₁.setTop (mkF m 128 #[.val (.long (0 : Int64)), .second, .val (.long v), .second, .val (.int (0 : Int32)), .val (.int (6 : Int32)), .val (.int (0 : Int32)), .val (.int (1 : Int32)), .val (.long (0 : Int64)), .second, .val (.long (0 : Int64)), .second, .unset] [(.int (0 : Int32)), (.long (0 : Int64))])) (fun tZ kZ => XS.iload X0.here hx rfl (hb hby d27_126) rfl kZ) ?_
  obtain ⟨_, _, ⟨T1, L1, k1, n1⟩, -, X1, ⟨Lc1, hQ1, l1, y1, z1⟩, st1⟩ := Jvm.LawKit.callS X0 hx (y := (⟨"java/math/BigDecimal", "valueOf", "(JI)Ljava/math/BigDecimal;"⟩ : MethodName)) hown (mvT hZ (hw _ (List.mem_of_getElem? (i := 195) rfl))) (mvT hZ (hw _ (List.mem_of_getElem? (i := 196) rfl))) (mvT hZ (hw _ (List.mem_of_getElem? (i := 131) rfl))) (mvT hZ (hw _ (List.mem_of_getElem? (i := 197) rfl))) (by decide) (backOf (W := 0) (rmDvI l Z a0 hw [] hB zr mz pa za rmo lt mir mc pk zc lc h0 n0 Z0 Eb WD) hZ (hw _ (List.mem_of_getElem? (i := 197) rfl)) (hw _ (List.mem_of_getElem? (i := 131) rfl)) (by decide) (by decide)) (g := (mkF m 128 #[.val (.long (0 : Int64)), .second, .val (.long v), .second, .val (.int (0 : Int32)), .val (.int (6 : Int32)), .val (.int (0 : Int32)), .val (.int (1 : Int32)), .val (.long (0 : Int64)), .second, .val (.long (0 : Int64)), .second, .unset] [(.int (0 : Int32)), (.long (0 : Int64))])) rfl (by rw [hml]; rfl) (argsL := [(.long (0 : Int64)), (.int (0 : Int32))]) (rest := []) (lenOf pd_7 rfl) rfl (by show 2 * 0 + _ ≤ _; exact Nat.le_of_eq rfl) (hb hby d27_128) (fun _ _ => ⟨rfl, e0, (by decide : 0 + 1 ≤ _), (by decide : 0 + 5 ≤ _)⟩)
  dsimp only [Pt.U, Pt.locs, Pt.cells, Pt.slots] at X1 l1 y1 z1 st1 hQ1
  subst l1 y1 z1
  obtain ⟨r, rfl, N1q, Kc1, qd1⟩ := hQ1
  have N1 := Fr.app N0 N1q
  have Zs1 := Nat.le_trans Z0 Kc1.1
  have Ec1 := own_ext0 Kc1
  have K1 := (Keep.refl h0 []).ext Ec1
  refine own_by (S' := T1.setTop (mkF m 131 #[.val (.long (0 : Int64)), .second, .val (.long v), .second, .val (.int (0 : Int32)), .val (.int (6 : Int32)), .val (.int (0 : Int32)), .val (.int (1 : Int32)), .val (.long (0 : Int64)), .second, .val (.long (0 : Int64)), .second, .unset] [(.ref r)])) (fun tZ kZ => st1 _ kZ) ?_
  exact own_retA X1 hx Bd.returns rfl rfl (hb hby d27_131) Bd.notSynchronized (by decide) (by decide) ⟨r, rfl, N1, K1, qd1⟩
theorem d24_0 : decode jdk_17_method_166_code 0 = .ok (.lload_n 0, 1) := by decide +kernel
theorem d24_1 : decode jdk_17_method_166_code 1 = .ok (.iload 6, 2) := by decide +kernel
theorem d24_3 : decode jdk_17_method_166_code 3 = .ok (.i2l, 1) := by decide +kernel
theorem d24_4 : decode jdk_17_method_166_code 4 = .ok (.iload 5, 2) := by decide +kernel
theorem d24_6 : decode jdk_17_method_166_code 6 = .ok (.i2l, 1) := by decide +kernel
theorem d24_7 : decode jdk_17_method_166_code 7 = .ok (.ladd, 1) := by decide +kernel
theorem d24_8 : decode jdk_17_method_166_code 8 = .ok (.invokestatic 994, 3) := by decide +kernel
theorem d24_11 : decode jdk_17_method_166_code 11 = .ok (.iload_n 2, 1) := by decide +kernel
theorem d24_12 : decode jdk_17_method_166_code 12 = .ok (.if_icmp .le 106, 3) := by decide +kernel
theorem d24_15 : decode jdk_17_method_166_code 15 = .ok (.iload 6, 2) := by decide +kernel
theorem d24_17 : decode jdk_17_method_166_code 17 = .ok (.iload 5, 2) := by decide +kernel
theorem d24_19 : decode jdk_17_method_166_code 19 = .ok (.iadd, 1) := by decide +kernel
theorem d24_20 : decode jdk_17_method_166_code 20 = .ok (.istore 8, 2) := by decide +kernel
theorem d24_22 : decode jdk_17_method_166_code 22 = .ok (.iload 8, 2) := by decide +kernel
theorem d24_24 : decode jdk_17_method_166_code 24 = .ok (.iload_n 2, 1) := by decide +kernel
theorem d24_25 : decode jdk_17_method_166_code 25 = .ok (.isub, 1) := by decide +kernel
theorem d24_26 : decode jdk_17_method_166_code 26 = .ok (.istore 9, 2) := by decide +kernel
theorem d24_28 : decode jdk_17_method_166_code 28 = .ok (.iload 9, 2) := by decide +kernel
theorem d24_30 : decode jdk_17_method_166_code 30 = .ok (.getstatic 95, 3) := by decide +kernel
theorem d24_33 : decode jdk_17_method_166_code 33 = .ok (.arraylength, 1) := by decide +kernel
theorem d24_34 : decode jdk_17_method_166_code 34 = .ok (.if_icmp .ge 63, 3) := by decide +kernel
theorem d24_37 : decode jdk_17_method_166_code 37 = .ok (.lload_n 0, 1) := by decide +kernel
theorem d24_38 : decode jdk_17_method_166_code 38 = .ok (.lstore 10, 2) := by decide +kernel
theorem d24_40 : decode jdk_17_method_166_code 40 = .ok (.lload 10, 2) := by decide +kernel
theorem d24_42 : decode jdk_17_method_166_code 42 = .ok (.iload 9, 2) := by decide +kernel
theorem d24_44 : decode jdk_17_method_166_code 44 = .ok (.invokestatic 599, 3) := by decide +kernel
theorem d24_47 : decode jdk_17_method_166_code 47 = .ok (.dup2, 1) := by decide +kernel
theorem d24_48 : decode jdk_17_method_166_code 48 = .ok (.lstore 10, 2) := by decide +kernel
theorem d24_50 : decode jdk_17_method_166_code 50 = .ok (.ldc2_w 125, 3) := by decide +kernel
theorem d24_53 : decode jdk_17_method_166_code 53 = .ok (.lcmp, 1) := by decide +kernel
theorem d24_54 : decode jdk_17_method_166_code 54 = .ok (.ifCond .eq 16, 3) := by decide +kernel
theorem d24_57 : decode jdk_17_method_166_code 57 = .ok (.lload 10, 2) := by decide +kernel
theorem d24_59 : decode jdk_17_method_166_code 59 = .ok (.lload_n 3, 1) := by decide +kernel
theorem d24_60 : decode jdk_17_method_166_code 60 = .ok (.iload 6, 2) := by decide +kernel
theorem d24_62 : decode jdk_17_method_166_code 62 = .ok (.iload 7, 2) := by decide +kernel
theorem d24_64 : decode jdk_17_method_166_code 64 = .ok (.iload 6, 2) := by decide +kernel
theorem d24_66 : decode jdk_17_method_166_code 66 = .ok (.invokestatic 606, 3) := by decide +kernel
theorem d24_69 : decode jdk_17_method_166_code 69 = .ok (.areturn, 1) := by decide +kernel
theorem d24_70 : decode jdk_17_method_166_code 70 = .ok (.getstatic 95, 3) := by decide +kernel
theorem d24_73 : decode jdk_17_method_166_code 73 = .ok (.iload 9, 2) := by decide +kernel
theorem d24_75 : decode jdk_17_method_166_code 75 = .ok (.laload, 1) := by decide +kernel
theorem d24_76 : decode jdk_17_method_166_code 76 = .ok (.lload_n 0, 1) := by decide +kernel
theorem d24_77 : decode jdk_17_method_166_code 77 = .ok (.lload_n 3, 1) := by decide +kernel
theorem d24_78 : decode jdk_17_method_166_code 78 = .ok (.iload 6, 2) := by decide +kernel
theorem d24_80 : decode jdk_17_method_166_code 80 = .ok (.iload 7, 2) := by decide +kernel
theorem d24_82 : decode jdk_17_method_166_code 82 = .ok (.iload 6, 2) := by decide +kernel
theorem d24_84 : decode jdk_17_method_166_code 84 = .ok (.invokestatic 1005, 3) := by decide +kernel
theorem d24_87 : decode jdk_17_method_166_code 87 = .ok (.astore 12, 2) := by decide +kernel
theorem d24_89 : decode jdk_17_method_166_code 89 = .ok (.aload 12, 2) := by decide +kernel
theorem d24_91 : decode jdk_17_method_166_code 91 = .ok (.ifnull 6, 3) := by decide +kernel
theorem d24_94 : decode jdk_17_method_166_code 94 = .ok (.aload 12, 2) := by decide +kernel
theorem d24_96 : decode jdk_17_method_166_code 96 = .ok (.areturn, 1) := by decide +kernel
theorem d24_97 : decode jdk_17_method_166_code 97 = .ok (.lload_n 0, 1) := by decide +kernel
theorem d24_98 : decode jdk_17_method_166_code 98 = .ok (.iload 9, 2) := by decide +kernel
theorem d24_100 : decode jdk_17_method_166_code 100 = .ok (.invokestatic 1002, 3) := by decide +kernel
theorem d24_103 : decode jdk_17_method_166_code 103 = .ok (.astore 10, 2) := by decide +kernel
theorem d24_105 : decode jdk_17_method_166_code 105 = .ok (.aload 10, 2) := by decide +kernel
theorem d24_107 : decode jdk_17_method_166_code 107 = .ok (.lload_n 3, 1) := by decide +kernel
theorem d24_108 : decode jdk_17_method_166_code 108 = .ok (.iload 6, 2) := by decide +kernel
theorem d24_110 : decode jdk_17_method_166_code 110 = .ok (.iload 7, 2) := by decide +kernel
theorem d24_112 : decode jdk_17_method_166_code 112 = .ok (.iload 6, 2) := by decide +kernel
theorem d24_114 : decode jdk_17_method_166_code 114 = .ok (.invokestatic 618, 3) := by decide +kernel
theorem d24_117 : decode jdk_17_method_166_code 117 = .ok (.areturn, 1) := by decide +kernel
theorem d24_118 : decode jdk_17_method_166_code 118 = .ok (.lload_n 3, 1) := by decide +kernel
theorem d24_119 : decode jdk_17_method_166_code 119 = .ok (.iload_n 2, 1) := by decide +kernel
theorem d24_120 : decode jdk_17_method_166_code 120 = .ok (.i2l, 1) := by decide +kernel
theorem d24_121 : decode jdk_17_method_166_code 121 = .ok (.iload 6, 2) := by decide +kernel
theorem d24_123 : decode jdk_17_method_166_code 123 = .ok (.i2l, 1) := by decide +kernel
theorem d24_124 : decode jdk_17_method_166_code 124 = .ok (.lsub, 1) := by decide +kernel
theorem d24_125 : decode jdk_17_method_166_code 125 = .ok (.invokestatic 994, 3) := by decide +kernel
theorem d24_128 : decode jdk_17_method_166_code 128 = .ok (.istore 8, 2) := by decide +kernel
theorem d24_130 : decode jdk_17_method_166_code 130 = .ok (.iload 8, 2) := by decide +kernel
theorem d24_132 : decode jdk_17_method_166_code 132 = .ok (.iload 5, 2) := by decide +kernel
theorem d24_134 : decode jdk_17_method_166_code 134 = .ok (.isub, 1) := by decide +kernel
theorem d24_135 : decode jdk_17_method_166_code 135 = .ok (.istore 9, 2) := by decide +kernel
theorem d24_137 : decode jdk_17_method_166_code 137 = .ok (.iload 9, 2) := by decide +kernel
theorem d24_139 : decode jdk_17_method_166_code 139 = .ok (.getstatic 95, 3) := by decide +kernel
theorem d24_142 : decode jdk_17_method_166_code 142 = .ok (.arraylength, 1) := by decide +kernel
theorem d24_143 : decode jdk_17_method_166_code 143 = .ok (.if_icmp .ge 36, 3) := by decide +kernel
theorem d24_146 : decode jdk_17_method_166_code 146 = .ok (.lload_n 3, 1) := by decide +kernel
theorem d24_147 : decode jdk_17_method_166_code 147 = .ok (.lstore 10, 2) := by decide +kernel
theorem d24_149 : decode jdk_17_method_166_code 149 = .ok (.lload 10, 2) := by decide +kernel
theorem d24_151 : decode jdk_17_method_166_code 151 = .ok (.iload 9, 2) := by decide +kernel
theorem d24_153 : decode jdk_17_method_166_code 153 = .ok (.invokestatic 599, 3) := by decide +kernel
theorem d24_156 : decode jdk_17_method_166_code 156 = .ok (.dup2, 1) := by decide +kernel
theorem d24_157 : decode jdk_17_method_166_code 157 = .ok (.lstore 10, 2) := by decide +kernel
theorem d24_159 : decode jdk_17_method_166_code 159 = .ok (.ldc2_w 125, 3) := by decide +kernel
theorem d24_162 : decode jdk_17_method_166_code 162 = .ok (.lcmp, 1) := by decide +kernel
theorem d24_163 : decode jdk_17_method_166_code 163 = .ok (.ifCond .eq 16, 3) := by decide +kernel
theorem d24_166 : decode jdk_17_method_166_code 166 = .ok (.lload_n 0, 1) := by decide +kernel
theorem d24_167 : decode jdk_17_method_166_code 167 = .ok (.lload 10, 2) := by decide +kernel
theorem d24_169 : decode jdk_17_method_166_code 169 = .ok (.iload 6, 2) := by decide +kernel
theorem d24_171 : decode jdk_17_method_166_code 171 = .ok (.iload 7, 2) := by decide +kernel
theorem d24_173 : decode jdk_17_method_166_code 173 = .ok (.iload 6, 2) := by decide +kernel
theorem d24_175 : decode jdk_17_method_166_code 175 = .ok (.invokestatic 606, 3) := by decide +kernel
theorem d24_178 : decode jdk_17_method_166_code 178 = .ok (.areturn, 1) := by decide +kernel
theorem d24_179 : decode jdk_17_method_166_code 179 = .ok (.lload_n 3, 1) := by decide +kernel
theorem d24_180 : decode jdk_17_method_166_code 180 = .ok (.iload 9, 2) := by decide +kernel
theorem d24_182 : decode jdk_17_method_166_code 182 = .ok (.invokestatic 1002, 3) := by decide +kernel
theorem d24_185 : decode jdk_17_method_166_code 185 = .ok (.astore 10, 2) := by decide +kernel
theorem d24_187 : decode jdk_17_method_166_code 187 = .ok (.lload_n 0, 1) := by decide +kernel
theorem d24_188 : decode jdk_17_method_166_code 188 = .ok (.invokestatic 193, 3) := by decide +kernel
theorem d24_191 : decode jdk_17_method_166_code 191 = .ok (.aload 10, 2) := by decide +kernel
theorem d24_193 : decode jdk_17_method_166_code 193 = .ok (.iload 6, 2) := by decide +kernel
theorem d24_195 : decode jdk_17_method_166_code 195 = .ok (.iload 7, 2) := by decide +kernel
theorem d24_197 : decode jdk_17_method_166_code 197 = .ok (.iload 6, 2) := by decide +kernel
theorem d24_199 : decode jdk_17_method_166_code 199 = .ok (.invokestatic 612, 3) := by decide +kernel
theorem d24_202 : decode jdk_17_method_166_code 202 = .ok (.areturn, 1) := by decide +kernel
theorem ef_rmD6 (m : MethodId) (v : Int64) : entryFrame m #[(.long (0 : Int64)), (.int (0 : Int32)), (.long v), (.int (0 : Int32)), (.int (0 : Int32)), (.int (6 : Int32))] 13 = mkF m 0 #[.val (.long (0 : Int64)), .second, .val (.int (0 : Int32)), .val (.long v), .second, .val (.int (0 : Int32)), .val (.int (0 : Int32)), .val (.int (6 : Int32)), .unset, .unset, .unset, .unset, .unset] [] := by first | (simp [entryFrame, mkF, argsToLocals, Value.category, maxLocals]; done) | rfl
set_option maxRecDepth 65536 in
set_option maxHeartbeats 40000000 in
theorem rmD6 (l : Launch) (Z : State) (a0 : Array Value) (hw : ∀ d ∈ tables_1, d.before a0 Z = true) (ws : List Jvm.Cond) (v : Int64) (hB : Heap) (zr mz pa za rmo lt mir : Addr) (mc pk zc lc : Cell) (h0 : Heap) (n0 : Nat) (Z0 : n0 ≤ h0.size) (Eb : Ext hB h0) (WD : OwnWd Z a0 hB zr mz pa za rmo lt mir mc pk zc lc) (hv : 0 < v.toInt) :
    MetFree l (⟨"java/math/BigDecimal", "divide", "(JIJIII)Ljava/math/BigDecimal;"⟩ : MethodName) (head1 (Jvm.Cond.code (⟨"java/math/BigDecimal", "divide", "(JIJIII)Ljava/math/BigDecimal;"⟩ : MethodName) jdk_17_method_166_code (13 : Nat) (Option.some (Jvm.ClassFile.FieldType.object "java/math/BigDecimal")) :: ws) ({ frames := 6, cells := 1, slots := 5, locals := 93 } : Room)) (fun aZ UZ => aZ = #[(.long (0 : Int64)), (.int (0 : Int32)), (.long v), (.int (0 : Int32)), (.int (0 : Int32)), (.int (6 : Int32))] ∧ Z.Warmed39 UZ.vm ∧ UZ.heap = h0) (fun _ _ _ _ _ => True) (fun _ UZ oZ VZ => ∃ vZ LZ, oZ = .returned vZ ∧ (QDv Z 0 h0 n0) vZ VZ.heap LZ ∧ FrameEnd UZ oZ VZ LZ ({ frames := 6, cells := 1, slots := 5, locals := 93 } : Room).cells ({ frames := 6, cells := 1, slots := 5, locals := 93 } : Room).slots) := by
  refine MetFree.of_bodySF (plainFor_of_name pn_5) hisR ?_
  intro p e s m args below meth c s₁ Bd hml0 hP hK
  obtain ⟨rfl, hZ, hh⟩ := hP
  have hx := Bd.exec
  have hby := Bd.bytes
  have hml : c.maxLocals = 13 := hml0
  have hown : s.vm.findClass "java/math/BigDecimal" = some m.cls := findClass_of_methodNamed Bd.named
  have hnm := (name_of_methodNamed Bd.named Bd.method).1
  have X0 : Stand p l e ({ frames := 6, cells := 1, slots := 5, locals := 93 } : Room) s m #[(.long (0 : Int64)), (.int (0 : Int32)), (.long v), (.int (0 : Int32)), (.int (0 : Int32)), (.int (6 : Int32))] below meth c s₁ [] 0 0 := Stand.of_body Bd
  have e0 : s₁.heap = h0 := by rw [← hh, Bd.state]; rfl
  have N0 := Fr.nil n0
  show OwnG p e below (OwnE s (QDv Z 0 h0 n0) ({ frames := 6, cells := 1, slots := 5, locals := 93 } : Room).cells ({ frames := 6, cells := 1, slots := 5, locals := 93 } : Room).slots) _
  refine own_by (S' := s₁.setTop (mkF m 0 #[.val (.long (0 : Int64)), .second, .val (.int (0 : Int32)), .val (.long v), .second, .val (.int (0 : Int32)), .val (.int (0 : Int32)), .val (.int (6 : Int32)), .unset, .unset, .unset, .unset, .unset] [])) (fun tZ kZ => castTop (ef_rmD6 m v) kZ) ?_
  obtain ⟨wS, wE, wF, wM, wA, wAz, wP, wPA, wPz, wPe, wT, wTA, wTz, wTe, wH, wHF, wL, wLA, wLz, wMi⟩ := id WD
  have wLAe : Arr Z h0 lt lc .long := wLA.ext Eb
  refine own_by (S' := s₁.setTop (mkF m 1 #[.val (.long (0 : Int64)), .second, .val (.int (0 : Int32)), .val (.long v), .second, .val (.int (0 : Int32)), .val (.int (0 : Int32)), .val (.int (6 : Int32)), .unset, .unset, .unset, .unset, .unset] [(.long (0 : Int64))])) (fun tZ kZ => XS.lloadN X0.here hx rfl (hb hby d24_0) rfl kZ) ?_
  refine own_by (S' := s₁.setTop (mkF m 3 #[.val (.long (0 : Int64)), .second, .val (.int (0 : Int32)), .val (.long v), .second, .val (.int (0 : Int32)), .val (.int (0 : Int32)), .val (.int (6 : Int32)), .unset, .unset, .unset, .unset, .unset] [(.int (0 : Int32)), (.long (0 : Int64))])) (fun tZ kZ => XS.iload X0.here hx rfl (hb hby d24_1) rfl kZ) ?_
  refine own_by (S' := s₁.setTop (mkF m 4 #[.val (.long (0 : Int64)), .second, .val (.int (0 : Int32)), .val (.long v), .second, .val (.int (0 : Int32)), .val (.int (0 : Int32)), .val (.int (6 : Int32)), .unset, .unset, .unset, .unset, .unset] [(.long ((0 : Int32).toInt64)), (.long (0 : Int64))])) (fun tZ kZ => XS.i2l X0.here hx rfl (hb hby d24_3) rfl kZ) ?_
  refine own_by (S' := s₁.setTop (mkF m 6 #[.val (.long (0 : Int64)), .second, .val (.int (0 : Int32)), .val (.long v), .second, .val (.int (0 : Int32)), .val (.int (0 : Int32)), .val (.int (6 : Int32)), .unset, .unset, .unset, .unset, .unset] [(.int (0 : Int32)), (.long ((0 : Int32).toInt64)), (.long (0 : Int64))])) (fun tZ kZ => XS.iload X0.here hx rfl (hb hby d24_4) rfl kZ) ?_
  refine own_by (S' := s₁.setTop (mkF m 7 #[.val (.long (0 : Int64)), .second, .val (.int (0 : Int32)), .val (.long v), .second, .val (.int (0 : Int32)), .val (.int (0 : Int32)), .val (.int (6 : Int32)), .unset, .unset, .unset, .unset, .unset] [(.long ((0 : Int32).toInt64)), (.long ((0 : Int32).toInt64)), (.long (0 : Int64))])) (fun tZ kZ => XS.i2l X0.here hx rfl (hb hby d24_6) rfl kZ) ?_
  refine own_by (S' := s₁.setTop (mkF m 8 #[.val (.long (0 : Int64)), .second, .val (.int (0 : Int32)), .val (.long v), .second, .val (.int (0 : Int32)), .val (.int (0 : Int32)), .val (.int (6 : Int32)), .unset, .unset, .unset, .unset, .unset] [(.long (((0 : Int32).toInt64) + ((0 : Int32).toInt64))), (.long (0 : Int64))])) (fun tZ kZ => XS.ladd X0.here hx rfl (hb hby d24_7) rfl kZ) ?_
  obtain ⟨_, _, ⟨T1, L1, k1, n1⟩, -, X1, ⟨Lc1, hQ1, l1, y1, z1⟩, st1⟩ := Jvm.LawKit.callS X0 hx (y := (⟨"java/math/BigDecimal", "checkScale", "(JJ)I"⟩ : MethodName)) hown (mvT hZ (hw _ (List.mem_of_getElem? (i := 185) rfl))) (mvT hZ (hw _ (List.mem_of_getElem? (i := 186) rfl))) (mvT hZ (hw _ (List.mem_of_getElem? (i := 131) rfl))) (mvT hZ (hw _ (List.mem_of_getElem? (i := 187) rfl))) (by decide) (backOf (W := 0) (rmCk l Z a0 hw [] _ _ h0 n0 Z0 (by decide)) hZ (hw _ (List.mem_of_getElem? (i := 187) rfl)) (hw _ (List.mem_of_getElem? (i := 131) rfl)) (by decide) (by decide)) (g := (mkF m 8 #[.val (.long (0 : Int64)), .second, .val (.int (0 : Int32)), .val (.long v), .second, .val (.int (0 : Int32)), .val (.int (0 : Int32)), .val (.int (6 : Int32)), .unset, .unset, .unset, .unset, .unset] [(.long (((0 : Int32).toInt64) + ((0 : Int32).toInt64))), (.long (0 : Int64))])) rfl (by rw [hml]; rfl) (argsL := [(.long (0 : Int64)), (.long (((0 : Int32).toInt64) + ((0 : Int32).toInt64)))]) (rest := []) (lenOf pd_8 rfl) rfl (by show 2 * 0 + _ ≤ _; exact Nat.le_of_eq rfl) (hb hby d24_8) (fun _ _ => ⟨rfl, e0, (by decide : 0 + 0 ≤ _), (by decide : 0 + 0 ≤ _)⟩)
  dsimp only [Pt.U, Pt.locs, Pt.cells, Pt.slots] at X1 l1 y1 z1 st1 hQ1
  subst l1 y1 z1
  obtain ⟨rfl, N1q, heq1⟩ := hQ1
  have N1 := Fr.app N0 N1q
  refine own_by (S' := T1.setTop (mkF m 11 #[.val (.long (0 : Int64)), .second, .val (.int (0 : Int32)), .val (.long v), .second, .val (.int (0 : Int32)), .val (.int (0 : Int32)), .val (.int (6 : Int32)), .unset, .unset, .unset, .unset, .unset] [(.int (0 : Int32))])) (fun tZ kZ => st1 _ kZ) ?_
  refine own_by (S' := T1.setTop (mkF m 12 #[.val (.long (0 : Int64)), .second, .val (.int (0 : Int32)), .val (.long v), .second, .val (.int (0 : Int32)), .val (.int (0 : Int32)), .val (.int (6 : Int32)), .unset, .unset, .unset, .unset, .unset] [(.int (0 : Int32)), (.int (0 : Int32))])) (fun tZ kZ => XS.iloadN X1.here hx rfl (hb hby d24_11) rfl kZ) ?_
  refine own_by (S' := T1.setTop (mkF m 118 #[.val (.long (0 : Int64)), .second, .val (.int (0 : Int32)), .val (.long v), .second, .val (.int (0 : Int32)), .val (.int (0 : Int32)), .val (.int (6 : Int32)), .unset, .unset, .unset, .unset, .unset] [])) (fun tZ kZ => XS.icmpYes X1.here hx rfl (pc0 := 12) (pc' := 118) rfl (hb hby d24_12) rfl (flt (by decide)).2.2.2 (by decide) (by decide) kZ) ?_
  refine own_by (S' := T1.setTop (mkF m 119 #[.val (.long (0 : Int64)), .second, .val (.int (0 : Int32)), .val (.long v), .second, .val (.int (0 : Int32)), .val (.int (0 : Int32)), .val (.int (6 : Int32)), .unset, .unset, .unset, .unset, .unset] [(.long v)])) (fun tZ kZ => XS.lloadN X1.here hx rfl (hb hby d24_118) rfl kZ) ?_
  refine own_by (S' := T1.setTop (mkF m 120 #[.val (.long (0 : Int64)), .second, .val (.int (0 : Int32)), .val (.long v), .second, .val (.int (0 : Int32)), .val (.int (0 : Int32)), .val (.int (6 : Int32)), .unset, .unset, .unset, .unset, .unset] [(.int (0 : Int32)), (.long v)])) (fun tZ kZ => XS.iloadN X1.here hx rfl (hb hby d24_119) rfl kZ) ?_
  refine own_by (S' := T1.setTop (mkF m 121 #[.val (.long (0 : Int64)), .second, .val (.int (0 : Int32)), .val (.long v), .second, .val (.int (0 : Int32)), .val (.int (0 : Int32)), .val (.int (6 : Int32)), .unset, .unset, .unset, .unset, .unset] [(.long ((0 : Int32).toInt64)), (.long v)])) (fun tZ kZ => XS.i2l X1.here hx rfl (hb hby d24_120) rfl kZ) ?_
  refine own_by (S' := T1.setTop (mkF m 123 #[.val (.long (0 : Int64)), .second, .val (.int (0 : Int32)), .val (.long v), .second, .val (.int (0 : Int32)), .val (.int (0 : Int32)), .val (.int (6 : Int32)), .unset, .unset, .unset, .unset, .unset] [(.int (0 : Int32)), (.long ((0 : Int32).toInt64)), (.long v)])) (fun tZ kZ => XS.iload X1.here hx rfl (hb hby d24_121) rfl kZ) ?_
  refine own_by (S' := T1.setTop (mkF m 124 #[.val (.long (0 : Int64)), .second, .val (.int (0 : Int32)), .val (.long v), .second, .val (.int (0 : Int32)), .val (.int (0 : Int32)), .val (.int (6 : Int32)), .unset, .unset, .unset, .unset, .unset] [(.long ((0 : Int32).toInt64)), (.long ((0 : Int32).toInt64)), (.long v)])) (fun tZ kZ => XS.i2l X1.here hx rfl (hb hby d24_123) rfl kZ) ?_
  refine own_by (S' := T1.setTop (mkF m 125 #[.val (.long (0 : Int64)), .second, .val (.int (0 : Int32)), .val (.long v), .second, .val (.int (0 : Int32)), .val (.int (0 : Int32)), .val (.int (6 : Int32)), .unset, .unset, .unset, .unset, .unset] [(.long (((0 : Int32).toInt64) - ((0 : Int32).toInt64))), (.long v)])) (fun tZ kZ => XS.lsub X1.here hx rfl (hb hby d24_124) rfl kZ) ?_
  obtain ⟨_, _, ⟨T2, L2, k2, n2⟩, -, X2, ⟨Lc2, hQ2, l2, y2, z2⟩, st2⟩ := Jvm.LawKit.callS X1 hx (y := (⟨"java/math/BigDecimal", "checkScale", "(JJ)I"⟩ : MethodName)) hown (mvT hZ (hw _ (List.mem_of_getElem? (i := 185) rfl))) (mvT hZ (hw _ (List.mem_of_getElem? (i := 186) rfl))) (mvT hZ (hw _ (List.mem_of_getElem? (i := 131) rfl))) (mvT hZ (hw _ (List.mem_of_getElem? (i := 187) rfl))) (by decide) (backOf (W := 0) (rmCk l Z a0 hw [] _ _ h0 n0 Z0 (by decide)) hZ (hw _ (List.mem_of_getElem? (i := 187) rfl)) (hw _ (List.mem_of_getElem? (i := 131) rfl)) (by decide) (by decide)) (g := (mkF m 125 #[.val (.long (0 : Int64)), .second, .val (.int (0 : Int32)), .val (.long v), .second, .val (.int (0 : Int32)), .val (.int (0 : Int32)), .val (.int (6 : Int32)), .unset, .unset, .unset, .unset, .unset] [(.long (((0 : Int32).toInt64) - ((0 : Int32).toInt64))), (.long v)])) rfl (by rw [hml]; rfl) (argsL := [(.long v), (.long (((0 : Int32).toInt64) - ((0 : Int32).toInt64)))]) (rest := []) (lenOf pd_8 rfl) rfl (by show 2 * 0 + _ ≤ _; exact Nat.le_of_eq rfl) (hb hby d24_125) (fun _ _ => ⟨rfl, heq1, (by decide : 0 + 0 ≤ _), (by decide : 0 + 0 ≤ _)⟩)
  dsimp only [Pt.U, Pt.locs, Pt.cells, Pt.slots] at X2 l2 y2 z2 st2 hQ2
  subst l2 y2 z2
  obtain ⟨rfl, N2q, heq2⟩ := hQ2
  have N2 := Fr.app N1 N2q
  refine own_by (S' := T2.setTop (mkF m 128 #[.val (.long (0 : Int64)), .second, .val (.int (0 : Int32)), .val (.long v), .second, .val (.int (0 : Int32)), .val (.int (0 : Int32)), .val (.int (6 : Int32)), .unset, .unset, .unset, .unset, .unset] [(.int (0 : Int32))])) (fun tZ kZ => st2 _ kZ) ?_
  refine own_by (S' := T2.setTop (mkF m 130 #[.val (.long (0 : Int64)), .second, .val (.int (0 : Int32)), .val (.long v), .second, .val (.int (0 : Int32)), .val (.int (0 : Int32)), .val (.int (6 : Int32)), .val (.int (0 : Int32)), .unset, .unset, .unset, .unset] [])) (fun tZ kZ => XS.istore X2.here hx rfl (hb hby d24_128) rfl (l' := #[.val (.long (0 : Int64)), .second, .val (.int (0 : Int32)), .val (.long v), .second, .val (.int (0 : Int32)), .val (.int (0 : Int32)), .val (.int (6 : Int32)), .val (.int (0 : Int32)), .unset, .unset, .unset, .unset]) rfl kZ) ?_
  refine own_by (S' := T2.setTop (mkF m 132 #[.val (.long (0 : Int64)), .second, .val (.int (0 : Int32)), .val (.long v), .second, .val (.int (0 : Int32)), .val (.int (0 : Int32)), .val (.int (6 : Int32)), .val (.int (0 : Int32)), .unset, .unset, .unset, .unset] [(.int (0 : Int32))])) (fun tZ kZ => XS.iload X2.here hx rfl (hb hby d24_130) rfl kZ) ?_
  refine own_by (S' := T2.setTop (mkF m 134 #[.val (.long (0 : Int64)), .second, .val (.int (0 : Int32)), .val (.long v), .second, .val (.int (0 : Int32)), .val (.int (0 : Int32)), .val (.int (6 : Int32)), .val (.int (0 : Int32)), .unset, .unset, .unset, .unset] [(.int (0 : Int32)), (.int (0 : Int32))])) (fun tZ kZ => XS.iload X2.here hx rfl (hb hby d24_132) rfl kZ) ?_
  refine own_by (S' := T2.setTop (mkF m 135 #[.val (.long (0 : Int64)), .second, .val (.int (0 : Int32)), .val (.long v), .second, .val (.int (0 : Int32)), .val (.int (0 : Int32)), .val (.int (6 : Int32)), .val (.int (0 : Int32)), .unset, .unset, .unset, .unset] [(.int ((0 : Int32) - (0 : Int32)))])) (fun tZ kZ => XS.isub X2.here hx rfl (hb hby d24_134) rfl kZ) ?_
  refine own_by (S' := T2.setTop (mkF m 137 #[.val (.long (0 : Int64)), .second, .val (.int (0 : Int32)), .val (.long v), .second, .val (.int (0 : Int32)), .val (.int (0 : Int32)), .val (.int (6 : Int32)), .val (.int (0 : Int32)), .val (.int ((0 : Int32) - (0 : Int32))), .unset, .unset, .unset] [])) (fun tZ kZ => XS.istore X2.here hx rfl (hb hby d24_135) rfl (l' := #[.val (.long (0 : Int64)), .second, .val (.int (0 : Int32)), .val (.long v), .second, .val (.int (0 : Int32)), .val (.int (0 : Int32)), .val (.int (6 : Int32)), .val (.int (0 : Int32)), .val (.int ((0 : Int32) - (0 : Int32))), .unset, .unset, .unset]) rfl kZ) ?_
  refine own_by (S' := T2.setTop (mkF m 139 #[.val (.long (0 : Int64)), .second, .val (.int (0 : Int32)), .val (.long v), .second, .val (.int (0 : Int32)), .val (.int (0 : Int32)), .val (.int (6 : Int32)), .val (.int (0 : Int32)), .val (.int ((0 : Int32) - (0 : Int32))), .unset, .unset, .unset] [(.int ((0 : Int32) - (0 : Int32)))])) (fun tZ kZ => XS.iload X2.here hx rfl (hb hby d24_137) rfl kZ) ?_
  obtain ⟨T3, X3, e3, st3⟩ := getS2 X2 hx hZ hown (host := "") (Or.inl (hw _ (List.mem_of_getElem? (i := 188) rfl))) Via.refl heq2 (wL.ext Eb) (g := (mkF m 139 #[.val (.long (0 : Int64)), .second, .val (.int (0 : Int32)), .val (.long v), .second, .val (.int (0 : Int32)), .val (.int (0 : Int32)), .val (.int (6 : Int32)), .val (.int (0 : Int32)), .val (.int ((0 : Int32) - (0 : Int32))), .unset, .unset, .unset] [(.int ((0 : Int32) - (0 : Int32)))])) rfl (hb hby d24_139)
  refine own_by (S' := T3.setTop (mkF m 142 #[.val (.long (0 : Int64)), .second, .val (.int (0 : Int32)), .val (.long v), .second, .val (.int (0 : Int32)), .val (.int (0 : Int32)), .val (.int (6 : Int32)), .val (.int (0 : Int32)), .val (.int ((0 : Int32) - (0 : Int32))), .unset, .unset, .unset] [(.ref lt), (.int ((0 : Int32) - (0 : Int32)))])) st3 ?_
  refine own_by (S' := T3.setTop (mkF m 143 #[.val (.long (0 : Int64)), .second, .val (.int (0 : Int32)), .val (.long v), .second, .val (.int (0 : Int32)), .val (.int (0 : Int32)), .val (.int (6 : Int32)), .val (.int (0 : Int32)), .val (.int ((0 : Int32) - (0 : Int32))), .unset, .unset, .unset] [(.int (19 : Int32)), (.int ((0 : Int32) - (0 : Int32)))])) (fun tZ kZ => X3.arraylength hx (by rw [e3]; exact wLAe.1) (State.isArrayOf_alike hZ.alike wLAe.2.1) (g := (mkF m 142 #[.val (.long (0 : Int64)), .second, .val (.int (0 : Int32)), .val (.long v), .second, .val (.int (0 : Int32)), .val (.int (0 : Int32)), .val (.int (6 : Int32)), .val (.int (0 : Int32)), .val (.int ((0 : Int32) - (0 : Int32))), .unset, .unset, .unset] [(.ref lt), (.int ((0 : Int32) - (0 : Int32)))])) rfl rfl (hb hby d24_142) _ (by rw [len_of wLz (by decide)]; exact kZ)) ?_
  refine own_by (S' := T3.setTop (mkF m 146 #[.val (.long (0 : Int64)), .second, .val (.int (0 : Int32)), .val (.long v), .second, .val (.int (0 : Int32)), .val (.int (0 : Int32)), .val (.int (6 : Int32)), .val (.int (0 : Int32)), .val (.int ((0 : Int32) - (0 : Int32))), .unset, .unset, .unset] [])) (fun tZ kZ => XS.icmpNo X3.here hx rfl (hb hby d24_143) rfl (tlt (by decide)).2.1 kZ) ?_
  refine own_by (S' := T3.setTop (mkF m 147 #[.val (.long (0 : Int64)), .second, .val (.int (0 : Int32)), .val (.long v), .second, .val (.int (0 : Int32)), .val (.int (0 : Int32)), .val (.int (6 : Int32)), .val (.int (0 : Int32)), .val (.int ((0 : Int32) - (0 : Int32))), .unset, .unset, .unset] [(.long v)])) (fun tZ kZ => XS.lloadN X3.here hx rfl (hb hby d24_146) rfl kZ) ?_
  refine own_by (S' := T3.setTop (mkF m 149 #[.val (.long (0 : Int64)), .second, .val (.int (0 : Int32)), .val (.long v), .second, .val (.int (0 : Int32)), .val (.int (0 : Int32)), .val (.int (6 : Int32)), .val (.int (0 : Int32)), .val (.int ((0 : Int32) - (0 : Int32))), .val (.long v), .second, .unset] [])) (fun tZ kZ => XS.lstore X3.here hx rfl (hb hby d24_147) rfl (l' := #[.val (.long (0 : Int64)), .second, .val (.int (0 : Int32)), .val (.long v), .second, .val (.int (0 : Int32)), .val (.int (0 : Int32)), .val (.int (6 : Int32)), .val (.int (0 : Int32)), .val (.int ((0 : Int32) - (0 : Int32))), .val (.long v), .second, .unset]) rfl kZ) ?_
  refine own_by (S' := T3.setTop (mkF m 151 #[.val (.long (0 : Int64)), .second, .val (.int (0 : Int32)), .val (.long v), .second, .val (.int (0 : Int32)), .val (.int (0 : Int32)), .val (.int (6 : Int32)), .val (.int (0 : Int32)), .val (.int ((0 : Int32) - (0 : Int32))), .val (.long v), .second, .unset] [(.long v)])) (fun tZ kZ => XS.lload X3.here hx rfl (hb hby d24_149) rfl kZ) ?_
  refine own_by (S' := T3.setTop (mkF m 153 #[.val (.long (0 : Int64)), .second, .val (.int (0 : Int32)), .val (.long v), .second, .val (.int (0 : Int32)), .val (.int (0 : Int32)), .val (.int (6 : Int32)), .val (.int (0 : Int32)), .val (.int ((0 : Int32) - (0 : Int32))), .val (.long v), .second, .unset] [(.int ((0 : Int32) - (0 : Int32))), (.long v)])) (fun tZ kZ => XS.iload X3.here hx rfl (hb hby d24_151) rfl kZ) ?_
  obtain ⟨_, _, ⟨T4, L4, k4, n4⟩, -, X4, ⟨Lc4, hQ4, l4, y4, z4⟩, st4⟩ := Jvm.LawKit.callS X3 hx (y := (⟨"java/math/BigDecimal", "longMultiplyPowerTen", "(JI)J"⟩ : MethodName)) hown (mvT hZ (hw _ (List.mem_of_getElem? (i := 189) rfl))) (mvT hZ (hw _ (List.mem_of_getElem? (i := 190) rfl))) (mvT hZ (hw _ (List.mem_of_getElem? (i := 131) rfl))) (mvT hZ (hw _ (List.mem_of_getElem? (i := 191) rfl))) (by decide) (backOf (W := 0) (rmLm l Z a0 hw [] v _ h0 n0 Z0 (by decide) hv) hZ (hw _ (List.mem_of_getElem? (i := 191) rfl)) (hw _ (List.mem_of_getElem? (i := 131) rfl)) (by decide) (by decide)) (g := (mkF m 153 #[.val (.long (0 : Int64)), .second, .val (.int (0 : Int32)), .val (.long v), .second, .val (.int (0 : Int32)), .val (.int (0 : Int32)), .val (.int (6 : Int32)), .val (.int (0 : Int32)), .val (.int ((0 : Int32) - (0 : Int32))), .val (.long v), .second, .unset] [(.int ((0 : Int32) - (0 : Int32))), (.long v)])) rfl (by rw [hml]; rfl) (argsL := [(.long v), (.int ((0 : Int32) - (0 : Int32)))]) (rest := []) (lenOf pd_9 rfl) rfl (by show 2 * 0 + _ ≤ _; exact Nat.le_of_eq rfl) (hb hby d24_153) (fun _ _ => ⟨rfl, e3, (by decide : 0 + 0 ≤ _), (by decide : 0 + 0 ≤ _)⟩)
  dsimp only [Pt.U, Pt.locs, Pt.cells, Pt.slots] at X4 l4 y4 z4 st4 hQ4
  subst l4 y4 z4
  obtain ⟨rfl, N4q, heq4⟩ := hQ4
  have N4 := Fr.app N2 N4q
  refine own_by (S' := T4.setTop (mkF m 156 #[.val (.long (0 : Int64)), .second, .val (.int (0 : Int32)), .val (.long v), .second, .val (.int (0 : Int32)), .val (.int (0 : Int32)), .val (.int (6 : Int32)), .val (.int (0 : Int32)), .val (.int ((0 : Int32) - (0 : Int32))), .val (.long v), .second, .unset] [(.long v)])) (fun tZ kZ => st4 _ kZ) ?_
  refine own_by (S' := T4.setTop (mkF m 157 #[.val (.long (0 : Int64)), .second, .val (.int (0 : Int32)), .val (.long v), .second, .val (.int (0 : Int32)), .val (.int (0 : Int32)), .val (.int (6 : Int32)), .val (.int (0 : Int32)), .val (.int ((0 : Int32) - (0 : Int32))), .val (.long v), .second, .unset] [(.long v), (.long v)])) (fun tZ kZ => Jvm.Free.XT.dup2L X4.here hx rfl (hb hby d24_156) rfl kZ) ?_
  refine own_by (S' := T4.setTop (mkF m 159 #[.val (.long (0 : Int64)), .second, .val (.int (0 : Int32)), .val (.long v), .second, .val (.int (0 : Int32)), .val (.int (0 : Int32)), .val (.int (6 : Int32)), .val (.int (0 : Int32)), .val (.int ((0 : Int32) - (0 : Int32))), .val (.long v), .second, .unset] [(.long v)])) (fun tZ kZ => XS.lstore X4.here hx rfl (hb hby d24_157) rfl (l' := #[.val (.long (0 : Int64)), .second, .val (.int (0 : Int32)), .val (.long v), .second, .val (.int (0 : Int32)), .val (.int (0 : Int32)), .val (.int (6 : Int32)), .val (.int (0 : Int32)), .val (.int ((0 : Int32) - (0 : Int32))), .val (.long v), .second, .unset]) rfl kZ) ?_
  refine own_by (S' := T4.setTop (mkF m 162 #[.val (.long (0 : Int64)), .second, .val (.int (0 : Int32)), .val (.long v), .second, .val (.int (0 : Int32)), .val (.int (0 : Int32)), .val (.int (6 : Int32)), .val (.int (0 : Int32)), .val (.int ((0 : Int32) - (0 : Int32))), .val (.long v), .second, .unset] [(.long (-9223372036854775808 : Int64)), (.long v)])) (fun tZ kZ => X4.ldc2Long hx hown (mvT hZ (hw _ (List.mem_of_getElem? (i := 181) rfl))) (g := (mkF m 159 #[.val (.long (0 : Int64)), .second, .val (.int (0 : Int32)), .val (.long v), .second, .val (.int (0 : Int32)), .val (.int (0 : Int32)), .val (.int (6 : Int32)), .val (.int (0 : Int32)), .val (.int ((0 : Int32) - (0 : Int32))), .val (.long v), .second, .unset] [(.long v)])) rfl (hb hby d24_159) _ kZ) ?_
  refine own_by (S' := T4.setTop (mkF m 163 #[.val (.long (0 : Int64)), .second, .val (.int (0 : Int32)), .val (.long v), .second, .val (.int (0 : Int32)), .val (.int (0 : Int32)), .val (.int (6 : Int32)), .val (.int (0 : Int32)), .val (.int ((0 : Int32) - (0 : Int32))), .val (.long v), .second, .unset] [(.int (lcmpW v (-9223372036854775808 : Int64)))])) (fun tZ kZ => XS.lcmp X4.here hx rfl (hb hby d24_162) rfl kZ) ?_
  refine own_by (S' := T4.setTop (mkF m 166 #[.val (.long (0 : Int64)), .second, .val (.int (0 : Int32)), .val (.long v), .second, .val (.int (0 : Int32)), .val (.int (0 : Int32)), .val (.int (6 : Int32)), .val (.int (0 : Int32)), .val (.int ((0 : Int32) - (0 : Int32))), .val (.long v), .second, .unset] [])) (fun tZ kZ => XS.ifNo X4.here hx rfl (hb hby d24_163) rfl ((if0 _ _).trans (feq (by rw [lw_eq]; exact own_neMin (by omega))).1) kZ) ?_
  refine own_by (S' := T4.setTop (mkF m 167 #[.val (.long (0 : Int64)), .second, .val (.int (0 : Int32)), .val (.long v), .second, .val (.int (0 : Int32)), .val (.int (0 : Int32)), .val (.int (6 : Int32)), .val (.int (0 : Int32)), .val (.int ((0 : Int32) - (0 : Int32))), .val (.long v), .second, .unset] [(.long (0 : Int64))])) (fun tZ kZ => XS.lloadN X4.here hx rfl (hb hby d24_166) rfl kZ) ?_
  refine own_by (S' := T4.setTop (mkF m 169 #[.val (.long (0 : Int64)), .second, .val (.int (0 : Int32)), .val (.long v), .second, .val (.int (0 : Int32)), .val (.int (0 : Int32)), .val (.int (6 : Int32)), .val (.int (0 : Int32)), .val (.int ((0 : Int32) - (0 : Int32))), .val (.long v), .second, .unset] [(.long v), (.long (0 : Int64))])) (fun tZ kZ => XS.lload X4.here hx rfl (hb hby d24_167) rfl kZ) ?_
  refine own_by (S' := T4.setTop (mkF m 171 #[.val (.long (0 : Int64)), .second, .val (.int (0 : Int32)), .val (.long v), .second, .val (.int (0 : Int32)), .val (.int (0 : Int32)), .val (.int (6 : Int32)), .val (.int (0 : Int32)), .val (.int ((0 : Int32) - (0 : Int32))), .val (.long v), .second, .unset] [(.int (0 : Int32)), (.long v), (.long (0 : Int64))])) (fun tZ kZ => XS.iload X4.here hx rfl (hb hby d24_169) rfl kZ) ?_
  refine own_by (S' := T4.setTop (mkF m 173 #[.val (.long (0 : Int64)), .second, .val (.int (0 : Int32)), .val (.long v), .second, .val (.int (0 : Int32)), .val (.int (0 : Int32)), .val (.int (6 : Int32)), .val (.int (0 : Int32)), .val (.int ((0 : Int32) - (0 : Int32))), .val (.long v), .second, .unset] [(.int (6 : Int32)), (.int (0 : Int32)), (.long v), (.long (0 : Int64))])) (fun tZ kZ => XS.iload X4.here hx rfl (hb hby d24_171) rfl kZ) ?_
  refine own_by (S' := T4.setTop (mkF m 175 #[.val (.long (0 : Int64)), .second, .val (.int (0 : Int32)), .val (.long v), .second, .val (.int (0 : Int32)), .val (.int (0 : Int32)), .val (.int (6 : Int32)), .val (.int (0 : Int32)), .val (.int ((0 : Int32) - (0 : Int32))), .val (.long v), .second, .unset] [(.int (0 : Int32)), (.int (6 : Int32)), (.int (0 : Int32)), (.long v), (.long (0 : Int64))])) (fun tZ kZ => XS.iload X4.here hx rfl (hb hby d24_173) rfl kZ) ?_
  obtain ⟨_, _, ⟨T5, L5, k5, n5⟩, -, X5, ⟨Lc5, hQ5, l5, y5, z5⟩, st5⟩ := Jvm.LawKit.callS X4 hx (y := (⟨"java/math/BigDecimal", "divideAndRound", "(JJIII)Ljava/math/BigDecimal;"⟩ : MethodName)) hown (mvT hZ (hw _ (List.mem_of_getElem? (i := 192) rfl))) (mvT hZ (hw _ (List.mem_of_getElem? (i := 193) rfl))) (mvT hZ (hw _ (List.mem_of_getElem? (i := 131) rfl))) (mvT hZ (hw _ (List.mem_of_getElem? (i := 194) rfl))) (by decide) (backOf (W := 0) (rmDr l Z a0 hw [] v hB zr mz pa za rmo lt mir mc pk zc lc h0 n0 Z0 Eb WD hv) hZ (hw _ (List.mem_of_getElem? (i := 194) rfl)) (hw _ (List.mem_of_getElem? (i := 131) rfl)) (by decide) (by decide)) (g := (mkF m 175 #[.val (.long (0 : Int64)), .second, .val (.int (0 : Int32)), .val (.long v), .second, .val (.int (0 : Int32)), .val (.int (0 : Int32)), .val (.int (6 : Int32)), .val (.int (0 : Int32)), .val (.int ((0 : Int32) - (0 : Int32))), .val (.long v), .second, .unset] [(.int (0 : Int32)), (.int (6 : Int32)), (.int (0 : Int32)), (.long v), (.long (0 : Int64))])) rfl (by rw [hml]; rfl) (argsL := [(.long (0 : Int64)), (.long v), (.int (0 : Int32)), (.int (6 : Int32)), (.int (0 : Int32))]) (rest := []) (lenOf pd_10 rfl) rfl (by show 2 * 0 + _ ≤ _; exact Nat.le_of_eq rfl) (hb hby d24_175) (fun _ _ => ⟨rfl, heq4, (by decide : 0 + 1 ≤ _), (by decide : 0 + 5 ≤ _)⟩)
  dsimp only [Pt.U, Pt.locs, Pt.cells, Pt.slots] at X5 l5 y5 z5 st5 hQ5
  subst l5 y5 z5
  obtain ⟨r, rfl, N5q, Kc5, qd5⟩ := hQ5
  have N5 := Fr.app N4 N5q
  have Zs5 := Nat.le_trans Z0 Kc5.1
  have Ec5 := own_ext0 Kc5
  have K5 := (Keep.refl h0 []).ext Ec5
  refine own_by (S' := T5.setTop (mkF m 178 #[.val (.long (0 : Int64)), .second, .val (.int (0 : Int32)), .val (.long v), .second, .val (.int (0 : Int32)), .val (.int (0 : Int32)), .val (.int (6 : Int32)), .val (.int (0 : Int32)), .val (.int ((0 : Int32) - (0 : Int32))), .val (.long v), .second, .unset] [(.ref r)])) (fun tZ kZ => st5 _ kZ) ?_
  exact own_retA X5 hx Bd.returns rfl rfl (hb hby d24_178) Bd.notSynchronized (by decide) (by decide) ⟨r, rfl, N5, K5, qd5⟩
theorem d23_0 : decode jdk_17_method_33_code 0 = .ok (.iload_n 3, 1) := by decide +kernel
theorem d23_1 : decode jdk_17_method_33_code 1 = .ok (.ifCond .lt 9, 3) := by decide +kernel
theorem d23_4 : decode jdk_17_method_33_code 4 = .ok (.iload_n 3, 1) := by decide +kernel
theorem d23_5 : decode jdk_17_method_33_code 5 = .ok (.bipush 7, 2) := by decide +kernel
theorem d23_7 : decode jdk_17_method_33_code 7 = .ok (.if_icmp .le 14, 3) := by decide +kernel
theorem d23_10 : decode jdk_17_method_33_code 10 = .ok (.new 363, 3) := by decide +kernel
theorem d23_13 : decode jdk_17_method_33_code 13 = .ok (.dup, 1) := by decide +kernel
theorem d23_14 : decode jdk_17_method_33_code 14 = .ok (.ldc_w 365, 3) := by decide +kernel
theorem d23_17 : decode jdk_17_method_33_code 17 = .ok (.invokespecial 367, 3) := by decide +kernel
theorem d23_20 : decode jdk_17_method_33_code 20 = .ok (.athrow, 1) := by decide +kernel
theorem d23_21 : decode jdk_17_method_33_code 21 = .ok (.aload_n 0, 1) := by decide +kernel
theorem d23_22 : decode jdk_17_method_33_code 22 = .ok (.getfield 24, 3) := by decide +kernel
theorem d23_25 : decode jdk_17_method_33_code 25 = .ok (.ldc2_w 125, 3) := by decide +kernel
theorem d23_28 : decode jdk_17_method_33_code 28 = .ok (.lcmp, 1) := by decide +kernel
theorem d23_29 : decode jdk_17_method_33_code 29 = .ok (.ifCond .eq 58, 3) := by decide +kernel
theorem d23_32 : decode jdk_17_method_33_code 32 = .ok (.aload_n 1, 1) := by decide +kernel
theorem d23_33 : decode jdk_17_method_33_code 33 = .ok (.getfield 24, 3) := by decide +kernel
theorem d23_36 : decode jdk_17_method_33_code 36 = .ok (.ldc2_w 125, 3) := by decide +kernel
theorem d23_39 : decode jdk_17_method_33_code 39 = .ok (.lcmp, 1) := by decide +kernel
theorem d23_40 : decode jdk_17_method_33_code 40 = .ok (.ifCond .eq 25, 3) := by decide +kernel
theorem d23_43 : decode jdk_17_method_33_code 43 = .ok (.aload_n 0, 1) := by decide +kernel
theorem d23_44 : decode jdk_17_method_33_code 44 = .ok (.getfield 24, 3) := by decide +kernel
theorem d23_47 : decode jdk_17_method_33_code 47 = .ok (.aload_n 0, 1) := by decide +kernel
theorem d23_48 : decode jdk_17_method_33_code 48 = .ok (.getfield 17, 3) := by decide +kernel
theorem d23_51 : decode jdk_17_method_33_code 51 = .ok (.aload_n 1, 1) := by decide +kernel
theorem d23_52 : decode jdk_17_method_33_code 52 = .ok (.getfield 24, 3) := by decide +kernel
theorem d23_55 : decode jdk_17_method_33_code 55 = .ok (.aload_n 1, 1) := by decide +kernel
theorem d23_56 : decode jdk_17_method_33_code 56 = .ok (.getfield 17, 3) := by decide +kernel
theorem d23_59 : decode jdk_17_method_33_code 59 = .ok (.iload_n 2, 1) := by decide +kernel
theorem d23_60 : decode jdk_17_method_33_code 60 = .ok (.iload_n 3, 1) := by decide +kernel
theorem d23_61 : decode jdk_17_method_33_code 61 = .ok (.invokestatic 368, 3) := by decide +kernel
theorem d23_64 : decode jdk_17_method_33_code 64 = .ok (.areturn, 1) := by decide +kernel
theorem d23_65 : decode jdk_17_method_33_code 65 = .ok (.aload_n 0, 1) := by decide +kernel
theorem d23_66 : decode jdk_17_method_33_code 66 = .ok (.getfield 24, 3) := by decide +kernel
theorem d23_69 : decode jdk_17_method_33_code 69 = .ok (.aload_n 0, 1) := by decide +kernel
theorem d23_70 : decode jdk_17_method_33_code 70 = .ok (.getfield 17, 3) := by decide +kernel
theorem d23_73 : decode jdk_17_method_33_code 73 = .ok (.aload_n 1, 1) := by decide +kernel
theorem d23_74 : decode jdk_17_method_33_code 74 = .ok (.getfield 28, 3) := by decide +kernel
theorem d23_77 : decode jdk_17_method_33_code 77 = .ok (.aload_n 1, 1) := by decide +kernel
theorem d23_78 : decode jdk_17_method_33_code 78 = .ok (.getfield 17, 3) := by decide +kernel
theorem d23_81 : decode jdk_17_method_33_code 81 = .ok (.iload_n 2, 1) := by decide +kernel
theorem d23_82 : decode jdk_17_method_33_code 82 = .ok (.iload_n 3, 1) := by decide +kernel
theorem d23_83 : decode jdk_17_method_33_code 83 = .ok (.invokestatic 372, 3) := by decide +kernel
theorem d23_86 : decode jdk_17_method_33_code 86 = .ok (.areturn, 1) := by decide +kernel
theorem d23_87 : decode jdk_17_method_33_code 87 = .ok (.aload_n 1, 1) := by decide +kernel
theorem d23_88 : decode jdk_17_method_33_code 88 = .ok (.getfield 24, 3) := by decide +kernel
theorem d23_91 : decode jdk_17_method_33_code 91 = .ok (.ldc2_w 125, 3) := by decide +kernel
theorem d23_94 : decode jdk_17_method_33_code 94 = .ok (.lcmp, 1) := by decide +kernel
theorem d23_95 : decode jdk_17_method_33_code 95 = .ok (.ifCond .eq 25, 3) := by decide +kernel
theorem d23_98 : decode jdk_17_method_33_code 98 = .ok (.aload_n 0, 1) := by decide +kernel
theorem d23_99 : decode jdk_17_method_33_code 99 = .ok (.getfield 28, 3) := by decide +kernel
theorem d23_102 : decode jdk_17_method_33_code 102 = .ok (.aload_n 0, 1) := by decide +kernel
theorem d23_103 : decode jdk_17_method_33_code 103 = .ok (.getfield 17, 3) := by decide +kernel
theorem d23_106 : decode jdk_17_method_33_code 106 = .ok (.aload_n 1, 1) := by decide +kernel
theorem d23_107 : decode jdk_17_method_33_code 107 = .ok (.getfield 24, 3) := by decide +kernel
theorem d23_110 : decode jdk_17_method_33_code 110 = .ok (.aload_n 1, 1) := by decide +kernel
theorem d23_111 : decode jdk_17_method_33_code 111 = .ok (.getfield 17, 3) := by decide +kernel
theorem d23_114 : decode jdk_17_method_33_code 114 = .ok (.iload_n 2, 1) := by decide +kernel
theorem d23_115 : decode jdk_17_method_33_code 115 = .ok (.iload_n 3, 1) := by decide +kernel
theorem d23_116 : decode jdk_17_method_33_code 116 = .ok (.invokestatic 375, 3) := by decide +kernel
theorem d23_119 : decode jdk_17_method_33_code 119 = .ok (.areturn, 1) := by decide +kernel
theorem d23_120 : decode jdk_17_method_33_code 120 = .ok (.aload_n 0, 1) := by decide +kernel
theorem d23_121 : decode jdk_17_method_33_code 121 = .ok (.getfield 28, 3) := by decide +kernel
theorem d23_124 : decode jdk_17_method_33_code 124 = .ok (.aload_n 0, 1) := by decide +kernel
theorem d23_125 : decode jdk_17_method_33_code 125 = .ok (.getfield 17, 3) := by decide +kernel
theorem d23_128 : decode jdk_17_method_33_code 128 = .ok (.aload_n 1, 1) := by decide +kernel
theorem d23_129 : decode jdk_17_method_33_code 129 = .ok (.getfield 28, 3) := by decide +kernel
theorem d23_132 : decode jdk_17_method_33_code 132 = .ok (.aload_n 1, 1) := by decide +kernel
theorem d23_133 : decode jdk_17_method_33_code 133 = .ok (.getfield 17, 3) := by decide +kernel
theorem d23_136 : decode jdk_17_method_33_code 136 = .ok (.iload_n 2, 1) := by decide +kernel
theorem d23_137 : decode jdk_17_method_33_code 137 = .ok (.iload_n 3, 1) := by decide +kernel
theorem d23_138 : decode jdk_17_method_33_code 138 = .ok (.invokestatic 378, 3) := by decide +kernel
theorem d23_141 : decode jdk_17_method_33_code 141 = .ok (.areturn, 1) := by decide +kernel
theorem ef_rmD2 (m : MethodId) (d1 : Addr) (d2 : Addr) : entryFrame m #[(.ref d1), (.ref d2), (.int (0 : Int32)), (.int (6 : Int32))] 4 = mkF m 0 #[.val (.ref d1), .val (.ref d2), .val (.int (0 : Int32)), .val (.int (6 : Int32))] [] := by first | (simp [entryFrame, mkF, argsToLocals, Value.category, maxLocals]; done) | rfl
set_option maxRecDepth 65536 in
set_option maxHeartbeats 40000000 in
theorem rmD2 (l : Launch) (Z : State) (a0 : Array Value) (hw : ∀ d ∈ tables_1, d.before a0 Z = true) (ws : List Jvm.Cond) (d1 d2 : Addr) (v : Int64) (hB : Heap) (zr mz pa za rmo lt mir : Addr) (mc pk zc lc : Cell) (h0 : Heap) (n0 : Nat) (Z0 : n0 ≤ h0.size) (Eb : Ext hB h0) (WD : OwnWd Z a0 hB zr mz pa za rmo lt mir mc pk zc lc) (hv : 0 < v.toInt) (O1 : OwnD Z h0 d1 0) (O2 : OwnD Z h0 d2 v) :
    MetFree l (⟨"java/math/BigDecimal", "divide", "(Ljava/math/BigDecimal;II)Ljava/math/BigDecimal;"⟩ : MethodName) (head1 (Jvm.Cond.code (⟨"java/math/BigDecimal", "divide", "(Ljava/math/BigDecimal;II)Ljava/math/BigDecimal;"⟩ : MethodName) jdk_17_method_33_code (4 : Nat) (Option.some (Jvm.ClassFile.FieldType.object "java/math/BigDecimal")) :: ws) ({ frames := 7, cells := 1, slots := 5, locals := 117 } : Room)) (fun aZ UZ => aZ = #[(.ref d1), (.ref d2), (.int (0 : Int32)), (.int (6 : Int32))] ∧ Z.Warmed39 UZ.vm ∧ UZ.heap = h0) (fun _ _ _ _ _ => True) (fun _ UZ oZ VZ => ∃ vZ LZ, oZ = .returned vZ ∧ (QDv Z 0 h0 n0) vZ VZ.heap LZ ∧ FrameEnd UZ oZ VZ LZ ({ frames := 7, cells := 1, slots := 5, locals := 117 } : Room).cells ({ frames := 7, cells := 1, slots := 5, locals := 117 } : Room).slots) := by
  refine MetFree.of_bodySF (plainFor_of_name pn_5) hisR ?_
  intro p e s m args below meth c s₁ Bd hml0 hP hK
  obtain ⟨rfl, hZ, hh⟩ := hP
  have hx := Bd.exec
  have hby := Bd.bytes
  have hml : c.maxLocals = 4 := hml0
  have hown : s.vm.findClass "java/math/BigDecimal" = some m.cls := findClass_of_methodNamed Bd.named
  have hnm := (name_of_methodNamed Bd.named Bd.method).1
  have X0 : Stand p l e ({ frames := 7, cells := 1, slots := 5, locals := 117 } : Room) s m #[(.ref d1), (.ref d2), (.int (0 : Int32)), (.int (6 : Int32))] below meth c s₁ [] 0 0 := Stand.of_body Bd
  have e0 : s₁.heap = h0 := by rw [← hh, Bd.state]; rfl
  have N0 := Fr.nil n0
  show OwnG p e below (OwnE s (QDv Z 0 h0 n0) ({ frames := 7, cells := 1, slots := 5, locals := 117 } : Room).cells ({ frames := 7, cells := 1, slots := 5, locals := 117 } : Room).slots) _
  refine own_by (S' := s₁.setTop (mkF m 0 #[.val (.ref d1), .val (.ref d2), .val (.int (0 : Int32)), .val (.int (6 : Int32))] [])) (fun tZ kZ => castTop (ef_rmD2 m d1 d2) kZ) ?_
  refine own_by (S' := s₁.setTop (mkF m 1 #[.val (.ref d1), .val (.ref d2), .val (.int (0 : Int32)), .val (.int (6 : Int32))] [(.int (6 : Int32))])) (fun tZ kZ => XS.iloadN X0.here hx rfl (hb hby d23_0) rfl kZ) ?_
  refine own_by (S' := s₁.setTop (mkF m 4 #[.val (.ref d1), .val (.ref d2), .val (.int (0 : Int32)), .val (.int (6 : Int32))] [])) (fun tZ kZ => XS.ifNo X0.here hx rfl (hb hby d23_1) rfl ((if0 _ _).trans (flt (by decide)).1) kZ) ?_
  refine own_by (S' := s₁.setTop (mkF m 5 #[.val (.ref d1), .val (.ref d2), .val (.int (0 : Int32)), .val (.int (6 : Int32))] [(.int (6 : Int32))])) (fun tZ kZ => XS.iloadN X0.here hx rfl (hb hby d23_4) rfl kZ) ?_
  refine own_by (S' := s₁.setTop (mkF m 7 #[.val (.ref d1), .val (.ref d2), .val (.int (0 : Int32)), .val (.int (6 : Int32))] [(.int (7 : Int32)), (.int (6 : Int32))])) (fun tZ kZ => XS.bipush X0.here hx rfl (hb hby d23_5) kZ) ?_
  refine own_by (S' := s₁.setTop (mkF m 21 #[.val (.ref d1), .val (.ref d2), .val (.int (0 : Int32)), .val (.int (6 : Int32))] [])) (fun tZ kZ => XS.icmpYes X0.here hx rfl (pc0 := 7) (pc' := 21) rfl (hb hby d23_7) rfl (flt (by decide)).2.2.2 (by decide) (by decide) kZ) ?_
  refine own_by (S' := s₁.setTop (mkF m 22 #[.val (.ref d1), .val (.ref d2), .val (.int (0 : Int32)), .val (.int (6 : Int32))] [(.ref d1)])) (fun tZ kZ => XS.aloadN X0.here hx rfl (hb hby d23_21) rfl rfl kZ) ?_
  obtain ⟨T1, X1, e1, st1⟩ := getF X0 hx hZ hown (host := "") (Or.inl (hw _ (List.mem_of_getElem? (i := 161) rfl))) Via.refl e0 O1.2.1 (g := (mkF m 22 #[.val (.ref d1), .val (.ref d2), .val (.int (0 : Int32)), .val (.int (6 : Int32))] [(.ref d1)])) rfl rfl (hb hby d23_22)
  refine own_by (S' := T1.setTop (mkF m 25 #[.val (.ref d1), .val (.ref d2), .val (.int (0 : Int32)), .val (.int (6 : Int32))] [(.long (0 : Int64))])) st1 ?_
  refine own_by (S' := T1.setTop (mkF m 28 #[.val (.ref d1), .val (.ref d2), .val (.int (0 : Int32)), .val (.int (6 : Int32))] [(.long (-9223372036854775808 : Int64)), (.long (0 : Int64))])) (fun tZ kZ => X1.ldc2Long hx hown (mvT hZ (hw _ (List.mem_of_getElem? (i := 181) rfl))) (g := (mkF m 25 #[.val (.ref d1), .val (.ref d2), .val (.int (0 : Int32)), .val (.int (6 : Int32))] [(.long (0 : Int64))])) rfl (hb hby d23_25) _ kZ) ?_
  refine own_by (S' := T1.setTop (mkF m 29 #[.val (.ref d1), .val (.ref d2), .val (.int (0 : Int32)), .val (.int (6 : Int32))] [(.int (lcmpW (0 : Int64) (-9223372036854775808 : Int64)))])) (fun tZ kZ => XS.lcmp X1.here hx rfl (hb hby d23_28) rfl kZ) ?_
  refine own_by (S' := T1.setTop (mkF m 32 #[.val (.ref d1), .val (.ref d2), .val (.int (0 : Int32)), .val (.int (6 : Int32))] [])) (fun tZ kZ => XS.ifNo X1.here hx rfl (hb hby d23_29) rfl ((if0 _ _).trans (feq (by decide)).1) kZ) ?_
  refine own_by (S' := T1.setTop (mkF m 33 #[.val (.ref d1), .val (.ref d2), .val (.int (0 : Int32)), .val (.int (6 : Int32))] [(.ref d2)])) (fun tZ kZ => XS.aloadN X1.here hx rfl (hb hby d23_32) rfl rfl kZ) ?_
  obtain ⟨T2, X2, e2, st2⟩ := getF X1 hx hZ hown (host := "") (Or.inl (hw _ (List.mem_of_getElem? (i := 161) rfl))) Via.refl e1 O2.2.1 (g := (mkF m 33 #[.val (.ref d1), .val (.ref d2), .val (.int (0 : Int32)), .val (.int (6 : Int32))] [(.ref d2)])) rfl rfl (hb hby d23_33)
  refine own_by (S' := T2.setTop (mkF m 36 #[.val (.ref d1), .val (.ref d2), .val (.int (0 : Int32)), .val (.int (6 : Int32))] [(.long v)])) st2 ?_
  refine own_by (S' := T2.setTop (mkF m 39 #[.val (.ref d1), .val (.ref d2), .val (.int (0 : Int32)), .val (.int (6 : Int32))] [(.long (-9223372036854775808 : Int64)), (.long v)])) (fun tZ kZ => X2.ldc2Long hx hown (mvT hZ (hw _ (List.mem_of_getElem? (i := 181) rfl))) (g := (mkF m 36 #[.val (.ref d1), .val (.ref d2), .val (.int (0 : Int32)), .val (.int (6 : Int32))] [(.long v)])) rfl (hb hby d23_36) _ kZ) ?_
  refine own_by (S' := T2.setTop (mkF m 40 #[.val (.ref d1), .val (.ref d2), .val (.int (0 : Int32)), .val (.int (6 : Int32))] [(.int (lcmpW v (-9223372036854775808 : Int64)))])) (fun tZ kZ => XS.lcmp X2.here hx rfl (hb hby d23_39) rfl kZ) ?_
  refine own_by (S' := T2.setTop (mkF m 43 #[.val (.ref d1), .val (.ref d2), .val (.int (0 : Int32)), .val (.int (6 : Int32))] [])) (fun tZ kZ => XS.ifNo X2.here hx rfl (hb hby d23_40) rfl ((if0 _ _).trans (feq (by rw [lw_eq]; exact own_neMin (by omega))).1) kZ) ?_
  refine own_by (S' := T2.setTop (mkF m 44 #[.val (.ref d1), .val (.ref d2), .val (.int (0 : Int32)), .val (.int (6 : Int32))] [(.ref d1)])) (fun tZ kZ => XS.aloadN X2.here hx rfl (hb hby d23_43) rfl rfl kZ) ?_
  obtain ⟨T3, X3, e3, st3⟩ := getF X2 hx hZ hown (host := "") (Or.inl (hw _ (List.mem_of_getElem? (i := 161) rfl))) Via.refl e2 O1.2.1 (g := (mkF m 44 #[.val (.ref d1), .val (.ref d2), .val (.int (0 : Int32)), .val (.int (6 : Int32))] [(.ref d1)])) rfl rfl (hb hby d23_44)
  refine own_by (S' := T3.setTop (mkF m 47 #[.val (.ref d1), .val (.ref d2), .val (.int (0 : Int32)), .val (.int (6 : Int32))] [(.long (0 : Int64))])) st3 ?_
  refine own_by (S' := T3.setTop (mkF m 48 #[.val (.ref d1), .val (.ref d2), .val (.int (0 : Int32)), .val (.int (6 : Int32))] [(.ref d1), (.long (0 : Int64))])) (fun tZ kZ => XS.aloadN X3.here hx rfl (hb hby d23_47) rfl rfl kZ) ?_
  obtain ⟨T4, X4, e4, st4⟩ := getF X3 hx hZ hown (host := "") (Or.inl (hw _ (List.mem_of_getElem? (i := 142) rfl))) Via.refl e3 O1.2.2 (g := (mkF m 48 #[.val (.ref d1), .val (.ref d2), .val (.int (0 : Int32)), .val (.int (6 : Int32))] [(.ref d1), (.long (0 : Int64))])) rfl rfl (hb hby d23_48)
  refine own_by (S' := T4.setTop (mkF m 51 #[.val (.ref d1), .val (.ref d2), .val (.int (0 : Int32)), .val (.int (6 : Int32))] [(.int (0 : Int32)), (.long (0 : Int64))])) st4 ?_
  refine own_by (S' := T4.setTop (mkF m 52 #[.val (.ref d1), .val (.ref d2), .val (.int (0 : Int32)), .val (.int (6 : Int32))] [(.ref d2), (.int (0 : Int32)), (.long (0 : Int64))])) (fun tZ kZ => XS.aloadN X4.here hx rfl (hb hby d23_51) rfl rfl kZ) ?_
  obtain ⟨T5, X5, e5, st5⟩ := getF X4 hx hZ hown (host := "") (Or.inl (hw _ (List.mem_of_getElem? (i := 161) rfl))) Via.refl e4 O2.2.1 (g := (mkF m 52 #[.val (.ref d1), .val (.ref d2), .val (.int (0 : Int32)), .val (.int (6 : Int32))] [(.ref d2), (.int (0 : Int32)), (.long (0 : Int64))])) rfl rfl (hb hby d23_52)
  refine own_by (S' := T5.setTop (mkF m 55 #[.val (.ref d1), .val (.ref d2), .val (.int (0 : Int32)), .val (.int (6 : Int32))] [(.long v), (.int (0 : Int32)), (.long (0 : Int64))])) st5 ?_
  refine own_by (S' := T5.setTop (mkF m 56 #[.val (.ref d1), .val (.ref d2), .val (.int (0 : Int32)), .val (.int (6 : Int32))] [(.ref d2), (.long v), (.int (0 : Int32)), (.long (0 : Int64))])) (fun tZ kZ => XS.aloadN X5.here hx rfl (hb hby d23_55) rfl rfl kZ) ?_
  obtain ⟨T6, X6, e6, st6⟩ := getF X5 hx hZ hown (host := "") (Or.inl (hw _ (List.mem_of_getElem? (i := 142) rfl))) Via.refl e5 O2.2.2 (g := (mkF m 56 #[.val (.ref d1), .val (.ref d2), .val (.int (0 : Int32)), .val (.int (6 : Int32))] [(.ref d2), (.long v), (.int (0 : Int32)), (.long (0 : Int64))])) rfl rfl (hb hby d23_56)
  refine own_by (S' := T6.setTop (mkF m 59 #[.val (.ref d1), .val (.ref d2), .val (.int (0 : Int32)), .val (.int (6 : Int32))] [(.int (0 : Int32)), (.long v), (.int (0 : Int32)), (.long (0 : Int64))])) st6 ?_
  refine own_by (S' := T6.setTop (mkF m 60 #[.val (.ref d1), .val (.ref d2), .val (.int (0 : Int32)), .val (.int (6 : Int32))] [(.int (0 : Int32)), (.int (0 : Int32)), (.long v), (.int (0 : Int32)), (.long (0 : Int64))])) (fun tZ kZ => XS.iloadN X6.here hx rfl (hb hby d23_59) rfl kZ) ?_
  refine own_by (S' := T6.setTop (mkF m 61 #[.val (.ref d1), .val (.ref d2), .val (.int (0 : Int32)), .val (.int (6 : Int32))] [(.int (6 : Int32)), (.int (0 : Int32)), (.int (0 : Int32)), (.long v), (.int (0 : Int32)), (.long (0 : Int64))])) (fun tZ kZ => XS.iloadN X6.here hx rfl (hb hby d23_60) rfl kZ) ?_
  obtain ⟨_, _, ⟨T7, L7, k7, n7⟩, -, X7, ⟨Lc7, hQ7, l7, y7, z7⟩, st7⟩ := Jvm.LawKit.callS X6 hx (y := (⟨"java/math/BigDecimal", "divide", "(JIJIII)Ljava/math/BigDecimal;"⟩ : MethodName)) hown (mvT hZ (hw _ (List.mem_of_getElem? (i := 182) rfl))) (mvT hZ (hw _ (List.mem_of_getElem? (i := 183) rfl))) (mvT hZ (hw _ (List.mem_of_getElem? (i := 131) rfl))) (mvT hZ (hw _ (List.mem_of_getElem? (i := 184) rfl))) (by decide) (backOf (W := 0) (rmD6 l Z a0 hw [] v hB zr mz pa za rmo lt mir mc pk zc lc h0 n0 Z0 Eb WD hv) hZ (hw _ (List.mem_of_getElem? (i := 184) rfl)) (hw _ (List.mem_of_getElem? (i := 131) rfl)) (by decide) (by decide)) (g := (mkF m 61 #[.val (.ref d1), .val (.ref d2), .val (.int (0 : Int32)), .val (.int (6 : Int32))] [(.int (6 : Int32)), (.int (0 : Int32)), (.int (0 : Int32)), (.long v), (.int (0 : Int32)), (.long (0 : Int64))])) rfl (by rw [hml]; rfl) (argsL := [(.long (0 : Int64)), (.int (0 : Int32)), (.long v), (.int (0 : Int32)), (.int (0 : Int32)), (.int (6 : Int32))]) (rest := []) (lenOf pd_11 rfl) rfl (by show 2 * 0 + _ ≤ _; exact Nat.le_of_eq rfl) (hb hby d23_61) (fun _ _ => ⟨rfl, e6, (by decide : 0 + 1 ≤ _), (by decide : 0 + 5 ≤ _)⟩)
  dsimp only [Pt.U, Pt.locs, Pt.cells, Pt.slots] at X7 l7 y7 z7 st7 hQ7
  subst l7 y7 z7
  obtain ⟨r, rfl, N7q, Kc7, qd7⟩ := hQ7
  have N7 := Fr.app N0 N7q
  have Zs7 := Nat.le_trans Z0 Kc7.1
  have Ec7 := own_ext0 Kc7
  have K7 := (Keep.refl h0 []).ext Ec7
  refine own_by (S' := T7.setTop (mkF m 64 #[.val (.ref d1), .val (.ref d2), .val (.int (0 : Int32)), .val (.int (6 : Int32))] [(.ref r)])) (fun tZ kZ => st7 _ kZ) ?_
  exact own_retA X7 hx Bd.returns rfl rfl (hb hby d23_64) Bd.notSynchronized (by decide) (by decide) ⟨r, rfl, N7, K7, qd7⟩
theorem d22_0 : decode jdk_17_method_34_code 0 = .ok (.aload_n 0, 1) := by decide +kernel
theorem d22_1 : decode jdk_17_method_34_code 1 = .ok (.aload_n 1, 1) := by decide +kernel
theorem d22_2 : decode jdk_17_method_34_code 2 = .ok (.iload_n 2, 1) := by decide +kernel
theorem d22_3 : decode jdk_17_method_34_code 3 = .ok (.aload_n 3, 1) := by decide +kernel
theorem d22_4 : decode jdk_17_method_34_code 4 = .ok (.getfield 103, 3) := by decide +kernel
theorem d22_7 : decode jdk_17_method_34_code 7 = .ok (.invokevirtual 381, 3) := by decide +kernel
theorem d22_10 : decode jdk_17_method_34_code 10 = .ok (.areturn, 1) := by decide +kernel
theorem ef_rmD3 (m : MethodId) (d1 : Addr) (d2 : Addr) (rmo : Addr) : entryFrame m #[(.ref d1), (.ref d2), (.int (0 : Int32)), (.ref rmo)] 4 = mkF m 0 #[.val (.ref d1), .val (.ref d2), .val (.int (0 : Int32)), .val (.ref rmo)] [] := by first | (simp [entryFrame, mkF, argsToLocals, Value.category, maxLocals]; done) | rfl
set_option maxRecDepth 65536 in
set_option maxHeartbeats 40000000 in
theorem rmD3 (l : Launch) (Z : State) (a0 : Array Value) (hw : ∀ d ∈ tables_1, d.before a0 Z = true) (ws : List Jvm.Cond) (d1 d2 : Addr) (v : Int64) (hB : Heap) (zr mz pa za rmo lt mir : Addr) (mc pk zc lc : Cell) (h0 : Heap) (n0 : Nat) (Z0 : n0 ≤ h0.size) (Eb : Ext hB h0) (WD : OwnWd Z a0 hB zr mz pa za rmo lt mir mc pk zc lc) (hv : 0 < v.toInt) (O1 : OwnD Z h0 d1 0) (O2 : OwnD Z h0 d2 v) :
    MetFree l (⟨"java/math/BigDecimal", "divide", "(Ljava/math/BigDecimal;ILjava/math/RoundingMode;)Ljava/math/BigDecimal;"⟩ : MethodName) (head1 (Jvm.Cond.code (⟨"java/math/BigDecimal", "divide", "(Ljava/math/BigDecimal;ILjava/math/RoundingMode;)Ljava/math/BigDecimal;"⟩ : MethodName) jdk_17_method_34_code (4 : Nat) (Option.some (Jvm.ClassFile.FieldType.object "java/math/BigDecimal")) :: ws) ({ frames := 8, cells := 1, slots := 5, locals := 132 } : Room)) (fun aZ UZ => aZ = #[(.ref d1), (.ref d2), (.int (0 : Int32)), (.ref rmo)] ∧ Z.Warmed39 UZ.vm ∧ UZ.heap = h0) (fun _ _ _ _ _ => True) (fun _ UZ oZ VZ => ∃ vZ LZ, oZ = .returned vZ ∧ (QDv Z 0 h0 n0) vZ VZ.heap LZ ∧ FrameEnd UZ oZ VZ LZ ({ frames := 8, cells := 1, slots := 5, locals := 132 } : Room).cells ({ frames := 8, cells := 1, slots := 5, locals := 132 } : Room).slots) := by
  refine MetFree.of_bodySF (plainFor_of_name pn_5) hisR ?_
  intro p e s m args below meth c s₁ Bd hml0 hP hK
  obtain ⟨rfl, hZ, hh⟩ := hP
  have hx := Bd.exec
  have hby := Bd.bytes
  have hml : c.maxLocals = 4 := hml0
  have hown : s.vm.findClass "java/math/BigDecimal" = some m.cls := findClass_of_methodNamed Bd.named
  have hnm := (name_of_methodNamed Bd.named Bd.method).1
  have X0 : Stand p l e ({ frames := 8, cells := 1, slots := 5, locals := 132 } : Room) s m #[(.ref d1), (.ref d2), (.int (0 : Int32)), (.ref rmo)] below meth c s₁ [] 0 0 := Stand.of_body Bd
  have e0 : s₁.heap = h0 := by rw [← hh, Bd.state]; rfl
  have N0 := Fr.nil n0
  show OwnG p e below (OwnE s (QDv Z 0 h0 n0) ({ frames := 8, cells := 1, slots := 5, locals := 132 } : Room).cells ({ frames := 8, cells := 1, slots := 5, locals := 132 } : Room).slots) _
  refine own_by (S' := s₁.setTop (mkF m 0 #[.val (.ref d1), .val (.ref d2), .val (.int (0 : Int32)), .val (.ref rmo)] [])) (fun tZ kZ => castTop (ef_rmD3 m d1 d2 rmo) kZ) ?_
  obtain ⟨wS, wE, wF, wM, wA, wAz, wP, wPA, wPz, wPe, wT, wTA, wTz, wTe, wH, wHF, wL, wLA, wLz, wMi⟩ := id WD
  refine own_by (S' := s₁.setTop (mkF m 1 #[.val (.ref d1), .val (.ref d2), .val (.int (0 : Int32)), .val (.ref rmo)] [(.ref d1)])) (fun tZ kZ => XS.aloadN X0.here hx rfl (hb hby d22_0) rfl rfl kZ) ?_
  refine own_by (S' := s₁.setTop (mkF m 2 #[.val (.ref d1), .val (.ref d2), .val (.int (0 : Int32)), .val (.ref rmo)] [(.ref d2), (.ref d1)])) (fun tZ kZ => XS.aloadN X0.here hx rfl (hb hby d22_1) rfl rfl kZ) ?_
  refine own_by (S' := s₁.setTop (mkF m 3 #[.val (.ref d1), .val (.ref d2), .val (.int (0 : Int32)), .val (.ref rmo)] [(.int (0 : Int32)), (.ref d2), (.ref d1)])) (fun tZ kZ => XS.iloadN X0.here hx rfl (hb hby d22_2) rfl kZ) ?_
  refine own_by (S' := s₁.setTop (mkF m 4 #[.val (.ref d1), .val (.ref d2), .val (.int (0 : Int32)), .val (.ref rmo)] [(.ref rmo), (.int (0 : Int32)), (.ref d2), (.ref d1)])) (fun tZ kZ => XS.aloadN X0.here hx rfl (hb hby d22_3) rfl rfl kZ) ?_
  obtain ⟨T1, X1, e1, st1⟩ := getF X0 hx hZ hown (host := "") (Or.inl (hw _ (List.mem_of_getElem? (i := 174) rfl))) Via.refl e0 (wHF.ext Eb) (g := (mkF m 4 #[.val (.ref d1), .val (.ref d2), .val (.int (0 : Int32)), .val (.ref rmo)] [(.ref rmo), (.int (0 : Int32)), (.ref d2), (.ref d1)])) rfl rfl (hb hby d22_4)
  refine own_by (S' := T1.setTop (mkF m 7 #[.val (.ref d1), .val (.ref d2), .val (.int (0 : Int32)), .val (.ref rmo)] [(.int (6 : Int32)), (.int (0 : Int32)), (.ref d2), (.ref d1)])) st1 ?_
  obtain ⟨cq2, kq2, q2a, q2b, q2c⟩ := isOf hZ e1 O1.1
  obtain ⟨_, _, ⟨T2, L2, k2, n2⟩, -, X2, ⟨Lc2, hQ2, l2, y2, z2⟩, st2⟩ := X1.virtualBack hx (y := (⟨"java/math/BigDecimal", "divide", "(Ljava/math/BigDecimal;II)Ljava/math/BigDecimal;"⟩ : MethodName)) (z := (⟨"java/math/BigDecimal", "divide", "(Ljava/math/BigDecimal;II)Ljava/math/BigDecimal;"⟩ : MethodName)) hown (mvT hZ (hw _ (List.mem_of_getElem? (i := 176) rfl))) (mvT hZ (hw _ (List.mem_of_getElem? (i := 177) rfl))) (notFace_of_selects (args := #[]) (mvT hZ (hw _ (List.mem_of_getElem? (i := 179) rfl)))) (mvT hZ (hw _ (List.mem_of_getElem? (i := 179) rfl))) (mvT hZ (hw _ (List.mem_of_getElem? (i := 178) rfl))) (by decide) (backOf (W := 0) (rmD2 l Z a0 hw [] d1 d2 v hB zr mz pa za rmo lt mir mc pk zc lc h0 n0 Z0 Eb WD hv O1 O2) hZ (hw _ (List.mem_of_getElem? (i := 180) rfl)) (hw _ (List.mem_of_getElem? (i := 131) rfl)) (by decide) (by decide)) q2a q2c (g := (mkF m 7 #[.val (.ref d1), .val (.ref d2), .val (.int (0 : Int32)), .val (.ref rmo)] [(.int (6 : Int32)), (.int (0 : Int32)), (.ref d2), (.ref d1)])) rfl (by rw [hml]; rfl) (Steps.refl _) (argsL := [(.ref d2), (.int (0 : Int32)), (.int (6 : Int32))]) (rest := []) (lenOf pd_12 rfl) rfl (by show 2 * 0 + _ ≤ _; exact Nat.le_of_eq rfl) (hb hby d22_7) (fun _ _ => ⟨rfl, e1, (by decide : 0 + 1 ≤ _), (by decide : 0 + 5 ≤ _)⟩)
  dsimp only [Pt.U, Pt.locs, Pt.cells, Pt.slots] at X2 l2 y2 z2 st2 hQ2
  subst l2 y2 z2
  obtain ⟨r, rfl, N2q, Kc2, qd2⟩ := hQ2
  have N2 := Fr.app N0 N2q
  have Zs2 := Nat.le_trans Z0 Kc2.1
  have Ec2 := own_ext0 Kc2
  have K2 := (Keep.refl h0 []).ext Ec2
  refine own_by (S' := T2.setTop (mkF m 10 #[.val (.ref d1), .val (.ref d2), .val (.int (0 : Int32)), .val (.ref rmo)] [(.ref r)])) (fun tZ kZ => st2.trans kZ) ?_
  exact own_retA X2 hx Bd.returns rfl rfl (hb hby d22_10) Bd.notSynchronized (by decide) (by decide) ⟨r, rfl, N2, K2, qd2⟩
theorem d29_0 : decode jdk_17_method_84_code 0 = .ok (.aload_n 0, 1) := by decide +kernel
theorem d29_1 : decode jdk_17_method_84_code 1 = .ok (.getfield 24, 3) := by decide +kernel
theorem d29_4 : decode jdk_17_method_84_code 4 = .ok (.ldc2_w 125, 3) := by decide +kernel
theorem d29_7 : decode jdk_17_method_84_code 7 = .ok (.lcmp, 1) := by decide +kernel
theorem d29_8 : decode jdk_17_method_84_code 8 = .ok (.ifCond .eq 15, 3) := by decide +kernel
theorem d29_11 : decode jdk_17_method_84_code 11 = .ok (.aload_n 0, 1) := by decide +kernel
theorem d29_12 : decode jdk_17_method_84_code 12 = .ok (.getfield 17, 3) := by decide +kernel
theorem d29_15 : decode jdk_17_method_84_code 15 = .ok (.ifCond .ne 8, 3) := by decide +kernel
theorem d29_18 : decode jdk_17_method_84_code 18 = .ok (.aload_n 0, 1) := by decide +kernel
theorem d29_19 : decode jdk_17_method_84_code 19 = .ok (.getfield 24, 3) := by decide +kernel
theorem d29_22 : decode jdk_17_method_84_code 22 = .ok (.lreturn, 1) := by decide +kernel
theorem d29_23 : decode jdk_17_method_84_code 23 = .ok (.aload_n 0, 1) := by decide +kernel
theorem d29_24 : decode jdk_17_method_84_code 24 = .ok (.invokevirtual 270, 3) := by decide +kernel
theorem d29_27 : decode jdk_17_method_84_code 27 = .ok (.ifCond .ne 5, 3) := by decide +kernel
theorem d29_30 : decode jdk_17_method_84_code 30 = .ok (.lconst 0, 1) := by decide +kernel
theorem d29_31 : decode jdk_17_method_84_code 31 = .ok (.lreturn, 1) := by decide +kernel
theorem d29_32 : decode jdk_17_method_84_code 32 = .ok (.aload_n 0, 1) := by decide +kernel
theorem d29_33 : decode jdk_17_method_84_code 33 = .ok (.invokevirtual 682, 3) := by decide +kernel
theorem d29_36 : decode jdk_17_method_84_code 36 = .ok (.ifCond .eq 14, 3) := by decide +kernel
theorem d29_39 : decode jdk_17_method_84_code 39 = .ok (.new 384, 3) := by decide +kernel
theorem d29_42 : decode jdk_17_method_84_code 42 = .ok (.dup, 1) := by decide +kernel
theorem d29_43 : decode jdk_17_method_84_code 43 = .ok (.ldc_w 692, 3) := by decide +kernel
theorem d29_46 : decode jdk_17_method_84_code 46 = .ok (.invokespecial 388, 3) := by decide +kernel
theorem d29_49 : decode jdk_17_method_84_code 49 = .ok (.athrow, 1) := by decide +kernel
theorem d29_50 : decode jdk_17_method_84_code 50 = .ok (.aload_n 0, 1) := by decide +kernel
theorem d29_51 : decode jdk_17_method_84_code 51 = .ok (.invokevirtual 289, 3) := by decide +kernel
theorem d29_54 : decode jdk_17_method_84_code 54 = .ok (.bipush 19, 2) := by decide +kernel
theorem d29_56 : decode jdk_17_method_84_code 56 = .ok (.isub, 1) := by decide +kernel
theorem d29_57 : decode jdk_17_method_84_code 57 = .ok (.aload_n 0, 1) := by decide +kernel
theorem d29_58 : decode jdk_17_method_84_code 58 = .ok (.getfield 17, 3) := by decide +kernel
theorem d29_61 : decode jdk_17_method_84_code 61 = .ok (.if_icmp .le 14, 3) := by decide +kernel
theorem d29_64 : decode jdk_17_method_84_code 64 = .ok (.new 384, 3) := by decide +kernel
theorem d29_67 : decode jdk_17_method_84_code 67 = .ok (.dup, 1) := by decide +kernel
theorem d29_68 : decode jdk_17_method_84_code 68 = .ok (.ldc_w 694, 3) := by decide +kernel
theorem d29_71 : decode jdk_17_method_84_code 71 = .ok (.invokespecial 388, 3) := by decide +kernel
theorem d29_74 : decode jdk_17_method_84_code 74 = .ok (.athrow, 1) := by decide +kernel
theorem d29_75 : decode jdk_17_method_84_code 75 = .ok (.aload_n 0, 1) := by decide +kernel
theorem d29_76 : decode jdk_17_method_84_code 76 = .ok (.iconst 0, 1) := by decide +kernel
theorem d29_77 : decode jdk_17_method_84_code 77 = .ok (.bipush 7, 2) := by decide +kernel
theorem d29_79 : decode jdk_17_method_84_code 79 = .ok (.invokevirtual 419, 3) := by decide +kernel
theorem d29_82 : decode jdk_17_method_84_code 82 = .ok (.astore_n 1, 1) := by decide +kernel
theorem d29_83 : decode jdk_17_method_84_code 83 = .ok (.aload_n 1, 1) := by decide +kernel
theorem d29_84 : decode jdk_17_method_84_code 84 = .ok (.invokevirtual 289, 3) := by decide +kernel
theorem d29_87 : decode jdk_17_method_84_code 87 = .ok (.bipush 19, 2) := by decide +kernel
theorem d29_89 : decode jdk_17_method_84_code 89 = .ok (.if_icmp .lt 7, 3) := by decide +kernel
theorem d29_92 : decode jdk_17_method_84_code 92 = .ok (.aload_n 1, 1) := by decide +kernel
theorem d29_93 : decode jdk_17_method_84_code 93 = .ok (.invokestatic 696, 3) := by decide +kernel
theorem d29_96 : decode jdk_17_method_84_code 96 = .ok (.aload_n 1, 1) := by decide +kernel
theorem d29_97 : decode jdk_17_method_84_code 97 = .ok (.invokevirtual 302, 3) := by decide +kernel
theorem d29_100 : decode jdk_17_method_84_code 100 = .ok (.invokevirtual 688, 3) := by decide +kernel
theorem d29_103 : decode jdk_17_method_84_code 103 = .ok (.lreturn, 1) := by decide +kernel
theorem ef_rmLx (m : MethodId) (d1 : Addr) : entryFrame m #[(.ref d1)] 2 = mkF m 0 #[.val (.ref d1), .unset] [] := by first | (simp [entryFrame, mkF, argsToLocals, Value.category, maxLocals]; done) | rfl
set_option maxRecDepth 65536 in
set_option maxHeartbeats 40000000 in
theorem rmLx (l : Launch) (Z : State) (a0 : Array Value) (hw : ∀ d ∈ tables_1, d.before a0 Z = true) (ws : List Jvm.Cond) (d1 : Addr) (h0 : Heap) (n0 : Nat) (Z0 : n0 ≤ h0.size) (O1 : OwnD Z h0 d1 0) :
    MetFree l (⟨"java/math/BigDecimal", "longValueExact", "()J"⟩ : MethodName) (head1 (Jvm.Cond.code (⟨"java/math/BigDecimal", "longValueExact", "()J"⟩ : MethodName) jdk_17_method_84_code (2 : Nat) (Option.some Jvm.ClassFile.FieldType.long) :: ws) ({ frames := 0, cells := 0, slots := 0, locals := 0 } : Room)) (fun aZ UZ => aZ = #[(.ref d1)] ∧ Z.Warmed39 UZ.vm ∧ UZ.heap = h0) (fun _ _ _ _ _ => True) (fun _ UZ oZ VZ => ∃ vZ LZ, oZ = .returned vZ ∧ (QSame (some (.long 0)) h0 n0) vZ VZ.heap LZ ∧ FrameEnd UZ oZ VZ LZ ({ frames := 0, cells := 0, slots := 0, locals := 0 } : Room).cells ({ frames := 0, cells := 0, slots := 0, locals := 0 } : Room).slots) := by
  refine MetFree.of_bodySF (plainFor_of_name pn_5) hisR ?_
  intro p e s m args below meth c s₁ Bd hml0 hP hK
  obtain ⟨rfl, hZ, hh⟩ := hP
  have hx := Bd.exec
  have hby := Bd.bytes
  have hml : c.maxLocals = 2 := hml0
  have hown : s.vm.findClass "java/math/BigDecimal" = some m.cls := findClass_of_methodNamed Bd.named
  have hnm := (name_of_methodNamed Bd.named Bd.method).1
  have X0 : Stand p l e ({ frames := 0, cells := 0, slots := 0, locals := 0 } : Room) s m #[(.ref d1)] below meth c s₁ [] 0 0 := Stand.of_body Bd
  have e0 : s₁.heap = h0 := by rw [← hh, Bd.state]; rfl
  have N0 := Fr.nil n0
  show OwnG p e below (OwnE s (QSame (some (.long 0)) h0 n0) ({ frames := 0, cells := 0, slots := 0, locals := 0 } : Room).cells ({ frames := 0, cells := 0, slots := 0, locals := 0 } : Room).slots) _
  refine own_by (S' := s₁.setTop (mkF m 0 #[.val (.ref d1), .unset] [])) (fun tZ kZ => castTop (ef_rmLx m d1) kZ) ?_
  refine own_by (S' := s₁.setTop (mkF m 1 #[.val (.ref d1), .unset] [(.ref d1)])) (fun tZ kZ => XS.aloadN X0.here hx rfl (hb hby d29_0) rfl rfl kZ) ?_
  obtain ⟨T1, X1, e1, st1⟩ := getF X0 hx hZ hown (host := "") (Or.inl (hw _ (List.mem_of_getElem? (i := 161) rfl))) Via.refl e0 O1.2.1 (g := (mkF m 1 #[.val (.ref d1), .unset] [(.ref d1)])) rfl rfl (hb hby d29_1)
  refine own_by (S' := T1.setTop (mkF m 4 #[.val (.ref d1), .unset] [(.long (0 : Int64))])) st1 ?_
  refine own_by (S' := T1.setTop (mkF m 7 #[.val (.ref d1), .unset] [(.long (-9223372036854775808 : Int64)), (.long (0 : Int64))])) (fun tZ kZ => X1.ldc2Long hx hown (mvT hZ (hw _ (List.mem_of_getElem? (i := 181) rfl))) (g := (mkF m 4 #[.val (.ref d1), .unset] [(.long (0 : Int64))])) rfl (hb hby d29_4) _ kZ) ?_
  refine own_by (S' := T1.setTop (mkF m 8 #[.val (.ref d1), .unset] [(.int (lcmpW (0 : Int64) (-9223372036854775808 : Int64)))])) (fun tZ kZ => XS.lcmp X1.here hx rfl (hb hby d29_7) rfl kZ) ?_
  refine own_by (S' := T1.setTop (mkF m 11 #[.val (.ref d1), .unset] [])) (fun tZ kZ => XS.ifNo X1.here hx rfl (hb hby d29_8) rfl ((if0 _ _).trans (feq (by decide)).1) kZ) ?_
  refine own_by (S' := T1.setTop (mkF m 12 #[.val (.ref d1), .unset] [(.ref d1)])) (fun tZ kZ => XS.aloadN X1.here hx rfl (hb hby d29_11) rfl rfl kZ) ?_
  obtain ⟨T2, X2, e2, st2⟩ := getF X1 hx hZ hown (host := "") (Or.inl (hw _ (List.mem_of_getElem? (i := 142) rfl))) Via.refl e1 O1.2.2 (g := (mkF m 12 #[.val (.ref d1), .unset] [(.ref d1)])) rfl rfl (hb hby d29_12)
  refine own_by (S' := T2.setTop (mkF m 15 #[.val (.ref d1), .unset] [(.int (0 : Int32))])) st2 ?_
  refine own_by (S' := T2.setTop (mkF m 18 #[.val (.ref d1), .unset] [])) (fun tZ kZ => XS.ifNo X2.here hx rfl (hb hby d29_15) rfl ((if0 _ _).trans (teq rfl).2) kZ) ?_
  refine own_by (S' := T2.setTop (mkF m 19 #[.val (.ref d1), .unset] [(.ref d1)])) (fun tZ kZ => XS.aloadN X2.here hx rfl (hb hby d29_18) rfl rfl kZ) ?_
  obtain ⟨T3, X3, e3, st3⟩ := getF X2 hx hZ hown (host := "") (Or.inl (hw _ (List.mem_of_getElem? (i := 161) rfl))) Via.refl e2 O1.2.1 (g := (mkF m 19 #[.val (.ref d1), .unset] [(.ref d1)])) rfl rfl (hb hby d29_19)
  refine own_by (S' := T3.setTop (mkF m 22 #[.val (.ref d1), .unset] [(.long (0 : Int64))])) st3 ?_
  exact own_retL X3 hx Bd.returns  (hb hby d29_22) Bd.notSynchronized (by decide) (by decide) ⟨rfl, N0, e3⟩
theorem d16_0 : decode prog_140_method_21_code 0 = .ok (.aload_n 0, 1) := by decide +kernel
theorem d16_1 : decode prog_140_method_21_code 1 = .ok (.invokevirtual 79, 3) := by decide +kernel
theorem d16_4 : decode prog_140_method_21_code 4 = .ok (.lstore_n 1, 1) := by decide +kernel
theorem d16_5 : decode prog_140_method_21_code 5 = .ok (.lload_n 1, 1) := by decide +kernel
theorem d16_6 : decode prog_140_method_21_code 6 = .ok (.lconst 0, 1) := by decide +kernel
theorem d16_7 : decode prog_140_method_21_code 7 = .ok (.lcmp, 1) := by decide +kernel
theorem d16_8 : decode prog_140_method_21_code 8 = .ok (.ifCond .ne 7, 3) := by decide +kernel
theorem d16_11 : decode prog_140_method_21_code 11 = .ok (.lconst 0, 1) := by decide +kernel
theorem d16_12 : decode prog_140_method_21_code 12 = .ok (.goto 28, 3) := by decide +kernel
theorem d16_15 : decode prog_140_method_21_code 15 = .ok (.new 96, 3) := by decide +kernel
theorem d16_18 : decode prog_140_method_21_code 18 = .ok (.dup, 1) := by decide +kernel
theorem d16_19 : decode prog_140_method_21_code 19 = .ok (.aload_n 0, 1) := by decide +kernel
theorem d16_20 : decode prog_140_method_21_code 20 = .ok (.getfield 13, 3) := by decide +kernel
theorem d16_23 : decode prog_140_method_21_code 23 = .ok (.invokespecial 98, 3) := by decide +kernel
theorem d16_26 : decode prog_140_method_21_code 26 = .ok (.lload_n 1, 1) := by decide +kernel
theorem d16_27 : decode prog_140_method_21_code 27 = .ok (.invokestatic 101, 3) := by decide +kernel
theorem d16_30 : decode prog_140_method_21_code 30 = .ok (.iconst 0, 1) := by decide +kernel
theorem d16_31 : decode prog_140_method_21_code 31 = .ok (.getstatic 104, 3) := by decide +kernel
theorem d16_34 : decode prog_140_method_21_code 34 = .ok (.invokevirtual 110, 3) := by decide +kernel
theorem d16_37 : decode prog_140_method_21_code 37 = .ok (.invokevirtual 114, 3) := by decide +kernel
theorem d16_40 : decode prog_140_method_21_code 40 = .ok (.lreturn, 1) := by decide +kernel
theorem ef_rmAvg (m : MethodId) (o : Addr) : entryFrame m #[(.ref o)] 3 = mkF m 0 #[.val (.ref o), .unset, .unset] [] := by first | (simp [entryFrame, mkF, argsToLocals, Value.category, maxLocals]; done) | rfl
set_option maxRecDepth 65536 in
set_option maxHeartbeats 40000000 in
theorem rmAvg (l : Launch) (Z : State) (a0 : Array Value) (hw : ∀ d ∈ tables_1, d.before a0 Z = true) (ws : List Jvm.Cond) (o : Addr) (q rem res : Int64) (can : Int32) (hB : Heap) (zr mz pa za rmo lt mir : Addr) (mc pk zc lc : Cell) (h0 : Heap) (n0 : Nat) (Z0 : n0 ≤ h0.size) (Eb : Ext hB h0) (WD : OwnWd Z a0 hB zr mz pa za rmo lt mir mc pk zc lc) (hBn : hB.size ≤ n0) (OO : OwnO Z h0 o zr q rem res can) (hc : 0 ≤ (q - rem).toInt) :
    MetFree l (⟨"com/example/fairgate/fairgate/processor/Order", "avgPrice", "()J"⟩ : MethodName) (head1 (Jvm.Cond.code (⟨"com/example/fairgate/fairgate/processor/Order", "avgPrice", "()J"⟩ : MethodName) prog_140_method_21_code (3 : Nat) (Option.some Jvm.ClassFile.FieldType.long) :: ws) ({ frames := 9, cells := 3, slots := 15, locals := 147 } : Room)) (fun aZ UZ => aZ = #[(.ref o)] ∧ Z.Warmed39 UZ.vm ∧ UZ.heap = h0) (fun _ _ _ _ _ => True) (fun _ UZ oZ VZ => ∃ vZ LZ, oZ = .returned vZ ∧ (QAvg  h0 n0) vZ VZ.heap LZ ∧ FrameEnd UZ oZ VZ LZ ({ frames := 9, cells := 3, slots := 15, locals := 147 } : Room).cells ({ frames := 9, cells := 3, slots := 15, locals := 147 } : Room).slots) := by
  refine MetFree.of_bodySF (plainFor_of_name pn_2) hisR ?_
  intro p e s m args below meth c s₁ Bd hml0 hP hK
  obtain ⟨rfl, hZ, hh⟩ := hP
  have hx := Bd.exec
  have hby := Bd.bytes
  have hml : c.maxLocals = 3 := hml0
  have hown : s.vm.findClass "com/example/fairgate/fairgate/processor/Order" = some m.cls := findClass_of_methodNamed Bd.named
  have hnm := (name_of_methodNamed Bd.named Bd.method).1
  have X0 : Stand p l e ({ frames := 9, cells := 3, slots := 15, locals := 147 } : Room) s m #[(.ref o)] below meth c s₁ [] 0 0 := Stand.of_body Bd
  have e0 : s₁.heap = h0 := by rw [← hh, Bd.state]; rfl
  have N0 := Fr.nil n0
  show OwnG p e below (OwnE s (QAvg  h0 n0) ({ frames := 9, cells := 3, slots := 15, locals := 147 } : Room).cells ({ frames := 9, cells := 3, slots := 15, locals := 147 } : Room).slots) _
  refine own_by (S' := s₁.setTop (mkF m 0 #[.val (.ref o), .unset, .unset] [])) (fun tZ kZ => castTop (ef_rmAvg m o) kZ) ?_
  obtain ⟨wS, wE, wF, wM, wA, wAz, wP, wPA, wPz, wPe, wT, wTA, wTz, wTe, wH, wHF, wL, wLA, wLz, wMi⟩ := id WD
  refine own_by (S' := s₁.setTop (mkF m 1 #[.val (.ref o), .unset, .unset] [(.ref o)])) (fun tZ kZ => XS.aloadN X0.here hx rfl (hb hby d16_0) rfl rfl kZ) ?_
  obtain ⟨cq1, q1, q1'⟩ := OO.1.cell
  obtain ⟨_, _, ⟨T1, L1, k1, n1⟩, -, X1, ⟨Lc1, hQ1, l1, y1, z1⟩, st1⟩ := X0.privateBack hx (y := (⟨"com/example/fairgate/fairgate/processor/Order", "cumQty", "()J"⟩ : MethodName)) hown (mvT hZ (hw _ (List.mem_of_getElem? (i := 121) rfl))) (mvT hZ (hw _ (List.mem_of_getElem? (i := 122) rfl))) (mvT hZ (own_selp (y := (⟨"com/example/fairgate/fairgate/processor/Order", "cumQty", "()J"⟩ : MethodName)) (hw _ (List.mem_of_getElem? (i := 69) rfl)) rfl (hw _ (List.mem_of_getElem? (i := 123) rfl)) (hw _ (List.mem_of_getElem? (i := 122) rfl)) (by decide))) (Cond.privateMethod_at (mvP hZ (hw _ (List.mem_of_getElem? (i := 123) rfl)) (args := #[]))) (mvT hZ (hw _ (List.mem_of_getElem? (i := 124) rfl))) (by decide) (backOf (W := 0) (rmCum l Z a0 hw [] o zr q rem res can h0 n0 Z0 OO) hZ (hw _ (List.mem_of_getElem? (i := 124) rfl)) (hw _ (List.mem_of_getElem? (i := 7) rfl)) (by decide) (by decide)) (g := (mkF m 1 #[.val (.ref o), .unset, .unset] [(.ref o)])) rfl (by rw [hml]; rfl) (Steps.refl _) (a := o) (by rw [e0]; exact q1) q1' (argsL := []) (rest := []) (lenOf pd_13 rfl) rfl (by show 2 * 0 + _ ≤ _; exact Nat.le_of_eq rfl) (hb hby d16_1) (fun _ _ => ⟨rfl, e0, (by decide : 0 + 0 ≤ _), (by decide : 0 + 0 ≤ _)⟩)
  dsimp only [Pt.U, Pt.locs, Pt.cells, Pt.slots] at X1 l1 y1 z1 st1 hQ1
  subst l1 y1 z1
  obtain ⟨rfl, N1q, heq1⟩ := hQ1
  have N1 := Fr.app N0 N1q
  refine own_by (S' := T1.setTop (mkF m 4 #[.val (.ref o), .unset, .unset] [(.long (q - rem))])) (fun tZ kZ => st1.trans kZ) ?_
  refine own_by (S' := T1.setTop (mkF m 5 #[.val (.ref o), .val (.long (q - rem)), .second] [])) (fun tZ kZ => XS.lstoreN X1.here hx rfl (hb hby d16_4) rfl (l' := #[.val (.ref o), .val (.long (q - rem)), .second]) rfl kZ) ?_
  refine own_by (S' := T1.setTop (mkF m 6 #[.val (.ref o), .val (.long (q - rem)), .second] [(.long (q - rem))])) (fun tZ kZ => XS.lloadN X1.here hx rfl (hb hby d16_5) rfl kZ) ?_
  refine own_by (S' := T1.setTop (mkF m 7 #[.val (.ref o), .val (.long (q - rem)), .second] [(.long (0 : Int64)), (.long (q - rem))])) (fun tZ kZ => XS.lconst X1.here hx rfl (hb hby d16_6) kZ) ?_
  refine own_by (S' := T1.setTop (mkF m 8 #[.val (.ref o), .val (.long (q - rem)), .second] [(.int (lcmpW (q - rem) (0 : Int64)))])) (fun tZ kZ => XS.lcmp X1.here hx rfl (hb hby d16_7) rfl kZ) ?_
  by_cases hz : (lcmpW (q - rem) (0 : Int64)) = (0 : Int32)
  · refine own_by (S' := T1.setTop (mkF m 11 #[.val (.ref o), .val (.long (q - rem)), .second] [])) (fun tZ kZ => XS.ifNo X1.here hx rfl (hb hby d16_8) rfl ((if0 _ _).trans (teq hz).2) kZ) ?_
    refine own_by (S' := T1.setTop (mkF m 12 #[.val (.ref o), .val (.long (q - rem)), .second] [(.long (0 : Int64))])) (fun tZ kZ => XS.lconst X1.here hx rfl (hb hby d16_11) kZ) ?_
    refine own_by (S' := T1.setTop (mkF m 40 #[.val (.ref o), .val (.long (q - rem)), .second] [(.long (0 : Int64))])) (fun tZ kZ => XS.goto X1.here hx rfl (pc0 := 12) (pc' := 40) rfl (hb hby d16_12) (by decide) (by decide) kZ) ?_
    exact own_retL X1 hx Bd.returns  (hb hby d16_40) Bd.notSynchronized (by decide) (by decide) ⟨_, rfl, N1, by rw [heq1]; exact Keep.refl h0 []⟩
  · refine own_by (S' := T1.setTop (mkF m 15 #[.val (.ref o), .val (.long (q - rem)), .second] [])) (fun tZ kZ => XS.ifYes X1.here hx rfl (pc0 := 8) (pc' := 15) rfl (hb hby d16_8) rfl ((if0 _ _).trans (feq hz).2) (by decide) (by decide) kZ) ?_
    have hp : 0 < (q - rem).toInt := by
      have r : ¬ (q - rem).toInt = 0 := fun r => hz ((lw_eq _ _).mpr (Int64.toInt_inj.mp (r.trans own_e0.symm)))
      omega
    obtain ⟨T2, h2, X2, e2, E2, A2, D2, -, st2⟩ := newO X1 hx hZ hown (hw _ (List.mem_of_getElem? (i := 129) rfl)) (hw _ (List.mem_of_getElem? (i := 130) rfl)) (hw _ (List.mem_of_getElem? (i := 131) rfl)) heq1 (g := (mkF m 15 #[.val (.ref o), .val (.long (q - rem)), .second] [])) rfl (hb hby d16_15) (by decide) (by decide)
    obtain ⟨b2, g2⟩ : ∃ z, z = h0.size := ⟨_, rfl⟩
    rw [← g2] at A2 D2 st2
    have g_b2 : n0 ≤ b2 := Nat.le_trans Z0 (Nat.le_of_eq g2.symm)
    have sz_b2 : h0.size ≤ b2 := Nat.le_trans (Keep.refl h0 []).1 (Nat.le_of_eq g2.symm)
    have Zs2 : n0 ≤ h2.size := Nat.le_trans Z0 E2.1
    have K2 := (Keep.refl h0 []).ext E2
    have Ex_b2 := A2
    have F_scale_b2 : Fld Z h2 b2 "java/math/BigDecimal" "scale" "I" (.int (0 : Int32)) := D2 (Or.inr (hw _ (List.mem_of_getElem? (i := 143) rfl))) (ty := .int) (by decide)
    have F_intVal_b2 : Fld Z h2 b2 "java/math/BigDecimal" "intVal" "Ljava/math/BigInteger;" .null := D2 (Or.inr (hw _ (List.mem_of_getElem? (i := 155) rfl))) (ty := (.object "java/math/BigInteger")) (by decide)
    have F_intCompact_b2 : Fld Z h2 b2 "java/math/BigDecimal" "intCompact" "J" (.long (0 : Int64)) := D2 (Or.inr (hw _ (List.mem_of_getElem? (i := 162) rfl))) (ty := .long) (by decide)
    have F_precision_b2 : Fld Z h2 b2 "java/math/BigDecimal" "precision" "I" (.int (0 : Int32)) := D2 (Or.inl (hw _ (List.mem_of_getElem? (i := 245) rfl))) (ty := .int) (by decide)
    refine own_by (S' := T2.setTop (mkF m 18 #[.val (.ref o), .val (.long (q - rem)), .second] [(.ref b2)])) st2 ?_
    refine own_by (S' := T2.setTop (mkF m 19 #[.val (.ref o), .val (.long (q - rem)), .second] [(.ref b2), (.ref b2)])) (fun tZ kZ => XS.dup X2.here hx rfl (hb hby d16_18) rfl rfl kZ) ?_
    refine own_by (S' := T2.setTop (mkF m 20 #[.val (.ref o), .val (.long (q - rem)), .second] [(.ref o), (.ref b2), (.ref b2)])) (fun tZ kZ => XS.aloadN X2.here hx rfl (hb hby d16_19) rfl rfl kZ) ?_
    have ExK2 := own_ext0 K2
    obtain ⟨T3, X3, e3, st3⟩ := getF X2 hx hZ hown (host := "") (Or.inl (hw _ (List.mem_of_getElem? (i := 24) rfl))) Via.refl e2 (OO.2.2.2.2.2.1.ext ExK2) (g := (mkF m 20 #[.val (.ref o), .val (.long (q - rem)), .second] [(.ref o), (.ref b2), (.ref b2)])) rfl rfl (hb hby d16_20)
    refine own_by (S' := T3.setTop (mkF m 23 #[.val (.ref o), .val (.long (q - rem)), .second] [(.ref zr), (.ref b2), (.ref b2)])) st3 ?_
    have EB4 : Ext hB h2 := own_eb0 Eb K2
    obtain ⟨_, _, ⟨T5, L5, k5, n5⟩, -, X5, ⟨Lc5, hQ5, l5, y5, z5⟩, st5⟩ := X3.specialBack hx (y := (⟨"java/math/BigDecimal", "<init>", "(Ljava/math/BigInteger;)V"⟩ : MethodName)) rfl hown (mvT hZ (hw _ (List.mem_of_getElem? (i := 132) rfl))) (mvT hZ (hw _ (List.mem_of_getElem? (i := 133) rfl))) (mvT hZ (hw _ (List.mem_of_getElem? (i := 134) rfl))) (by decide) (backOf (W := 1) (rmD1I l Z a0 hw [] b2 hB zr mz pa za rmo lt mir mc pk zc lc h2 n0 Zs2 EB4 WD hBn Ex_b2 F_scale_b2 F_precision_b2 F_intCompact_b2 F_intVal_b2 g_b2) hZ (hw _ (List.mem_of_getElem? (i := 134) rfl)) (hw _ (List.mem_of_getElem? (i := 131) rfl)) (by decide) (by decide)) (g := (mkF m 23 #[.val (.ref o), .val (.long (q - rem)), .second] [(.ref zr), (.ref b2), (.ref b2)])) rfl (by rw [hml]; rfl) (Steps.refl _) (a := b2) (argsL := [(.ref zr)]) (rest := [(.ref b2)]) (lenOf pd_14 rfl) rfl (by show 2 * 0 + _ ≤ _; exact Nat.le_of_eq rfl) (hb hby d16_23) (fun _ _ => ⟨rfl, e3, (by decide : 1 + 0 ≤ _), (by decide : 5 + 0 ≤ _)⟩)
    dsimp only [Pt.U, Pt.locs, Pt.cells, Pt.slots] at X5 l5 y5 z5 st5 hQ5
    subst l5 y5 z5
    obtain ⟨rfl, N5q, Kc5, qd5⟩ := hQ5
    have N5 := Fr.app N1 N5q
    have Zs5 := Nat.le_trans Zs2 Kc5.1
    have K5 := K2.trans Kc5 (fun x hx => by
        simp only [List.mem_cons, List.not_mem_nil, or_false] at hx
        rcases hx with rfl
        · exact Or.inr sz_b2)
    have Ex_b2_5 := Ex_b2.keep Kc5
    refine own_by (S' := T5.setTop (mkF m 26 #[.val (.ref o), .val (.long (q - rem)), .second] [(.ref b2)])) (fun tZ kZ => st5.trans kZ) ?_
    refine own_by (S' := T5.setTop (mkF m 27 #[.val (.ref o), .val (.long (q - rem)), .second] [(.long (q - rem)), (.ref b2)])) (fun tZ kZ => XS.lloadN X5.here hx rfl (hb hby d16_26) rfl kZ) ?_
    have EB6 : Ext hB T5.heap := own_eb0 Eb K5
    obtain ⟨_, _, ⟨T7, L7, k7, n7⟩, -, X7, ⟨Lc7, hQ7, l7, y7, z7⟩, st7⟩ := Jvm.LawKit.callS X5 hx (y := (⟨"java/math/BigDecimal", "valueOf", "(J)Ljava/math/BigDecimal;"⟩ : MethodName)) hown (mvT hZ (hw _ (List.mem_of_getElem? (i := 163) rfl))) (mvT hZ (hw _ (List.mem_of_getElem? (i := 164) rfl))) (mvT hZ (hw _ (List.mem_of_getElem? (i := 131) rfl))) (mvT hZ (hw _ (List.mem_of_getElem? (i := 165) rfl))) (by decide) (backOf (W := 1) (rmDv l Z a0 hw [] (q - rem) hB zr mz pa za rmo lt mir mc pk zc lc T5.heap n0 Zs5 EB6 WD hc) hZ (hw _ (List.mem_of_getElem? (i := 165) rfl)) (hw _ (List.mem_of_getElem? (i := 131) rfl)) (by decide) (by decide)) (g := (mkF m 27 #[.val (.ref o), .val (.long (q - rem)), .second] [(.long (q - rem)), (.ref b2)])) rfl (by rw [hml]; rfl) (argsL := [(.long (q - rem))]) (rest := [(.ref b2)]) (lenOf pd_6 rfl) rfl (by show 2 * 0 + _ ≤ _; exact Nat.le_of_eq rfl) (hb hby d16_27) (fun _ _ => ⟨rfl, rfl, (by decide : 1 + 1 ≤ _), (by decide : 5 + 5 ≤ _)⟩)
    dsimp only [Pt.U, Pt.locs, Pt.cells, Pt.slots] at X7 l7 y7 z7 st7 hQ7
    subst l7 y7 z7
    obtain ⟨r, rfl, N7q, Kc7, qe7⟩ := hQ7
    have N7 := Fr.app N5 N7q
    have Zs7 := Nat.le_trans Zs5 Kc7.1
    have Ec7 := own_ext0 Kc7
    have K7 := K5.ext Ec7
    have qd5_7 := qd5.ext Ec7
    refine own_by (S' := T7.setTop (mkF m 30 #[.val (.ref o), .val (.long (q - rem)), .second] [(.ref r), (.ref b2)])) (fun tZ kZ => st7 _ kZ) ?_
    refine own_by (S' := T7.setTop (mkF m 31 #[.val (.ref o), .val (.long (q - rem)), .second] [(.int (0 : Int32)), (.ref r), (.ref b2)])) (fun tZ kZ => XS.iconst X7.here hx rfl (hb hby d16_30) kZ) ?_
    have EB8 : Ext hB T7.heap := own_eb0 Eb K7
    obtain ⟨T9, X9, e9, st9⟩ := getS2 X7 hx hZ hown (host := "") (Or.inl (hw _ (List.mem_of_getElem? (i := 167) rfl))) Via.refl rfl (wH.ext EB8) (g := (mkF m 31 #[.val (.ref o), .val (.long (q - rem)), .second] [(.int (0 : Int32)), (.ref r), (.ref b2)])) rfl (hb hby d16_31)
    refine own_by (S' := T9.setTop (mkF m 34 #[.val (.ref o), .val (.long (q - rem)), .second] [(.ref rmo), (.int (0 : Int32)), (.ref r), (.ref b2)])) st9 ?_
    obtain ⟨cq10, kq10, q10a, q10b, q10c⟩ := isOf hZ e9 qd5_7.1
    obtain ⟨_, _, ⟨T10, L10, k10, n10⟩, -, X10, ⟨Lc10, hQ10, l10, y10, z10⟩, st10⟩ := X9.virtualBack hx (y := (⟨"java/math/BigDecimal", "divide", "(Ljava/math/BigDecimal;ILjava/math/RoundingMode;)Ljava/math/BigDecimal;"⟩ : MethodName)) (z := (⟨"java/math/BigDecimal", "divide", "(Ljava/math/BigDecimal;ILjava/math/RoundingMode;)Ljava/math/BigDecimal;"⟩ : MethodName)) hown (mvT hZ (hw _ (List.mem_of_getElem? (i := 169) rfl))) (mvT hZ (hw _ (List.mem_of_getElem? (i := 170) rfl))) (notFace_of_selects (args := #[]) (mvT hZ (hw _ (List.mem_of_getElem? (i := 172) rfl)))) (mvT hZ (hw _ (List.mem_of_getElem? (i := 172) rfl))) (mvT hZ (hw _ (List.mem_of_getElem? (i := 171) rfl))) (by decide) (backOf (W := 0) (rmD3 l Z a0 hw [] b2 r (q - rem) hB zr mz pa za rmo lt mir mc pk zc lc T7.heap n0 Zs7 EB8 WD hp qd5_7 qe7) hZ (hw _ (List.mem_of_getElem? (i := 173) rfl)) (hw _ (List.mem_of_getElem? (i := 131) rfl)) (by decide) (by decide)) q10a q10c (g := (mkF m 34 #[.val (.ref o), .val (.long (q - rem)), .second] [(.ref rmo), (.int (0 : Int32)), (.ref r), (.ref b2)])) rfl (by rw [hml]; rfl) (Steps.refl _) (argsL := [(.ref r), (.int (0 : Int32)), (.ref rmo)]) (rest := []) (lenOf pd_15 rfl) rfl (by show 2 * 0 + _ ≤ _; exact Nat.le_of_eq rfl) (hb hby d16_34) (fun _ _ => ⟨rfl, e9, (by decide : 2 + 1 ≤ _), (by decide : 10 + 5 ≤ _)⟩)
    dsimp only [Pt.U, Pt.locs, Pt.cells, Pt.slots] at X10 l10 y10 z10 st10 hQ10
    subst l10 y10 z10
    obtain ⟨r3, rfl, N10q, Kc10, qf10⟩ := hQ10
    have N10 := Fr.app N7 N10q
    have Zs10 := Nat.le_trans Zs7 Kc10.1
    have Ec10 := own_ext0 Kc10
    have K10 := K7.ext Ec10
    have qd5_10 := qd5_7.ext Ec10
    refine own_by (S' := T10.setTop (mkF m 37 #[.val (.ref o), .val (.long (q - rem)), .second] [(.ref r3)])) (fun tZ kZ => st10.trans kZ) ?_
    obtain ⟨cq11, kq11, q11a, q11b, q11c⟩ := isOf hZ rfl qf10.1
    obtain ⟨_, _, ⟨T11, L11, k11, n11⟩, -, X11, ⟨Lc11, hQ11, l11, y11, z11⟩, st11⟩ := X10.virtualBack hx (y := (⟨"java/math/BigDecimal", "longValueExact", "()J"⟩ : MethodName)) (z := (⟨"java/math/BigDecimal", "longValueExact", "()J"⟩ : MethodName)) hown (mvT hZ (hw _ (List.mem_of_getElem? (i := 199) rfl))) (mvT hZ (hw _ (List.mem_of_getElem? (i := 200) rfl))) (notFace_of_selects (args := #[]) (mvT hZ (hw _ (List.mem_of_getElem? (i := 202) rfl)))) (mvT hZ (hw _ (List.mem_of_getElem? (i := 202) rfl))) (mvT hZ (hw _ (List.mem_of_getElem? (i := 201) rfl))) (by decide) (backOf (W := 0) (rmLx l Z a0 hw [] r3 T10.heap n0 Zs10 qf10) hZ (hw _ (List.mem_of_getElem? (i := 203) rfl)) (hw _ (List.mem_of_getElem? (i := 131) rfl)) (by decide) (by decide)) q11a q11c (g := (mkF m 37 #[.val (.ref o), .val (.long (q - rem)), .second] [(.ref r3)])) rfl (by rw [hml]; rfl) (Steps.refl _) (argsL := []) (rest := []) (lenOf pd_13 rfl) rfl (by show 2 * 0 + _ ≤ _; exact Nat.le_of_eq rfl) (hb hby d16_37) (fun _ _ => ⟨rfl, rfl, (by decide : 3 + 0 ≤ _), (by decide : 15 + 0 ≤ _)⟩)
    dsimp only [Pt.U, Pt.locs, Pt.cells, Pt.slots] at X11 l11 y11 z11 st11 hQ11
    subst l11 y11 z11
    obtain ⟨rfl, N11q, heq11⟩ := hQ11
    have N11 := Fr.app N10 N11q
    refine own_by (S' := T11.setTop (mkF m 40 #[.val (.ref o), .val (.long (q - rem)), .second] [(.long (0 : Int64))])) (fun tZ kZ => st11.trans kZ) ?_
    exact own_retL X11 hx Bd.returns  (hb hby d16_40) Bd.notSynchronized (by decide) (by decide) ⟨_, rfl, N11, by rw [heq11]; exact K10⟩
theorem d30_0 : decode prog_135_method_1_code 0 = .ok (.aload_n 0, 1) := by decide +kernel
theorem d30_1 : decode prog_135_method_1_code 1 = .ok (.invokespecial 1, 3) := by decide +kernel
theorem d30_4 : decode prog_135_method_1_code 4 = .ok (.aload_n 0, 1) := by decide +kernel
theorem d30_5 : decode prog_135_method_1_code 5 = .ok (.aload_n 1, 1) := by decide +kernel
theorem d30_6 : decode prog_135_method_1_code 6 = .ok (.putfield 7, 3) := by decide +kernel
theorem d30_9 : decode prog_135_method_1_code 9 = .ok (.aload_n 0, 1) := by decide +kernel
theorem d30_10 : decode prog_135_method_1_code 10 = .ok (.aload_n 2, 1) := by decide +kernel
theorem d30_11 : decode prog_135_method_1_code 11 = .ok (.putfield 13, 3) := by decide +kernel
theorem d30_14 : decode prog_135_method_1_code 14 = .ok (.aload_n 0, 1) := by decide +kernel
theorem d30_15 : decode prog_135_method_1_code 15 = .ok (.aload_n 3, 1) := by decide +kernel
theorem d30_16 : decode prog_135_method_1_code 16 = .ok (.putfield 17, 3) := by decide +kernel
theorem d30_19 : decode prog_135_method_1_code 19 = .ok (.aload_n 0, 1) := by decide +kernel
theorem d30_20 : decode prog_135_method_1_code 20 = .ok (.lload 4, 2) := by decide +kernel
theorem d30_22 : decode prog_135_method_1_code 22 = .ok (.putfield 21, 3) := by decide +kernel
theorem d30_25 : decode prog_135_method_1_code 25 = .ok (.aload_n 0, 1) := by decide +kernel
theorem d30_26 : decode prog_135_method_1_code 26 = .ok (.lload 6, 2) := by decide +kernel
theorem d30_28 : decode prog_135_method_1_code 28 = .ok (.putfield 25, 3) := by decide +kernel
theorem d30_31 : decode prog_135_method_1_code 31 = .ok (.aload_n 0, 1) := by decide +kernel
theorem d30_32 : decode prog_135_method_1_code 32 = .ok (.lload 8, 2) := by decide +kernel
theorem d30_34 : decode prog_135_method_1_code 34 = .ok (.putfield 28, 3) := by decide +kernel
theorem d30_37 : decode prog_135_method_1_code 37 = .ok (.return_, 1) := by decide +kernel
theorem pn_6 : plainName "com/example/fairgate/fairgate/processor/Fill" = true := by first | (simp [plainName, overriddenIn]; done) | decide +kernel
theorem ef_rmFI (m : MethodId) (b : Addr) (u : Addr) (y1 : Int64) (y2 : Int64) (y3 : Int64) : entryFrame m #[(.ref b), (.ref u), .null, .null, (.long y1), (.long y2), (.long y3)] 10 = mkF m 0 #[.val (.ref b), .val (.ref u), .val .null, .val .null, .val (.long y1), .second, .val (.long y2), .second, .val (.long y3), .second] [] := by first | (simp [entryFrame, mkF, argsToLocals, Value.category, maxLocals]; done) | rfl
set_option maxRecDepth 65536 in
set_option maxHeartbeats 40000000 in
theorem rmFI (l : Launch) (Z : State) (a0 : Array Value) (hw : ∀ d ∈ tables_1, d.before a0 Z = true) (ws : List Jvm.Cond) (b u : Addr) (y1 y2 y3 : Int64) (h0 : Heap) (n0 : Nat) (Z0 : n0 ≤ h0.size) (Ex_b : Exa Z h0 b "com/example/fairgate/fairgate/processor/Fill") (F_trade_b : Fld Z h0 b "com/example/fairgate/fairgate/processor/Fill" "trade" "Lcom/example/fairgate/fairgate/processor/Trade;" .null) (F_order_b : Fld Z h0 b "com/example/fairgate/fairgate/processor/Fill" "order" "Lcom/example/fairgate/fairgate/processor/OrderKey;" .null) (F_edge_b : Fld Z h0 b "com/example/fairgate/fairgate/processor/Fill" "edge" "Lcom/example/fairgate/fairgate/core/EntryPoint;" .null) (F_cumQty_b : Fld Z h0 b "com/example/fairgate/fairgate/processor/Fill" "cumQty" "J" (.long 0)) (F_leavesQty_b : Fld Z h0 b "com/example/fairgate/fairgate/processor/Fill" "leavesQty" "J" (.long 0)) (F_avgPrice_b : Fld Z h0 b "com/example/fairgate/fairgate/processor/Fill" "avgPrice" "J" (.long 0)) (g_b : n0 ≤ b) :
    MetFree l (⟨"com/example/fairgate/fairgate/processor/Fill", "<init>", "(Lcom/example/fairgate/fairgate/processor/Trade;Lcom/example/fairgate/fairgate/processor/OrderKey;Lcom/example/fairgate/fairgate/core/EntryPoint;JJJ)V"⟩ : MethodName) (head1 (Jvm.Cond.code (⟨"com/example/fairgate/fairgate/processor/Fill", "<init>", "(Lcom/example/fairgate/fairgate/processor/Trade;Lcom/example/fairgate/fairgate/processor/OrderKey;Lcom/example/fairgate/fairgate/core/EntryPoint;JJJ)V"⟩ : MethodName) prog_135_method_1_code (10 : Nat) (Option.none : Option Jvm.ClassFile.FieldType) :: ws) ({ frames := 2, cells := 0, slots := 0, locals := 24 } : Room)) (fun aZ UZ => aZ = #[(.ref b), (.ref u), .null, .null, (.long y1), (.long y2), (.long y3)] ∧ Z.Warmed39 UZ.vm ∧ UZ.heap = h0) (fun _ _ _ _ _ => True) (fun _ UZ oZ VZ => ∃ vZ LZ, oZ = .returned vZ ∧ (QK b h0 n0) vZ VZ.heap LZ ∧ FrameEnd UZ oZ VZ LZ ({ frames := 2, cells := 0, slots := 0, locals := 24 } : Room).cells ({ frames := 2, cells := 0, slots := 0, locals := 24 } : Room).slots) := by
  refine MetFree.of_bodySF (plainFor_of_name pn_6) hisR ?_
  intro p e s m args below meth c s₁ Bd hml0 hP hK
  obtain ⟨rfl, hZ, hh⟩ := hP
  have hx := Bd.exec
  have hby := Bd.bytes
  have hml : c.maxLocals = 10 := hml0
  have hown : s.vm.findClass "com/example/fairgate/fairgate/processor/Fill" = some m.cls := findClass_of_methodNamed Bd.named
  have hnm := (name_of_methodNamed Bd.named Bd.method).1
  have X0 : Stand p l e ({ frames := 2, cells := 0, slots := 0, locals := 24 } : Room) s m #[(.ref b), (.ref u), .null, .null, (.long y1), (.long y2), (.long y3)] below meth c s₁ [] 0 0 := Stand.of_body Bd
  have e0 : s₁.heap = h0 := by rw [← hh, Bd.state]; rfl
  have N0 := Fr.nil n0
  show OwnG p e below (OwnE s (QK b h0 n0) ({ frames := 2, cells := 0, slots := 0, locals := 24 } : Room).cells ({ frames := 2, cells := 0, slots := 0, locals := 24 } : Room).slots) _
  refine own_by (S' := s₁.setTop (mkF m 0 #[.val (.ref b), .val (.ref u), .val .null, .val .null, .val (.long y1), .second, .val (.long y2), .second, .val (.long y3), .second] [])) (fun tZ kZ => castTop (ef_rmFI m b u y1 y2 y3) kZ) ?_
  refine own_by (S' := s₁.setTop (mkF m 1 #[.val (.ref b), .val (.ref u), .val .null, .val .null, .val (.long y1), .second, .val (.long y2), .second, .val (.long y3), .second] [(.ref b)])) (fun tZ kZ => XS.aloadN X0.here hx rfl (hb hby d30_0) rfl rfl kZ) ?_
  obtain ⟨_, _, ⟨T1, L1, k1, n1⟩, -, X1, ⟨Lc1, hQ1, l1, y1, z1⟩, st1⟩ := X0.specialBack hx (y := (⟨"java/lang/Record", "<init>", "()V"⟩ : MethodName)) rfl hown (mvT hZ (hw _ (List.mem_of_getElem? (i := 207) rfl))) (mvT hZ (hw _ (List.mem_of_getElem? (i := 49) rfl))) (mvT hZ (hw _ (List.mem_of_getElem? (i := 52) rfl))) (by decide) (backOf (W := 0) (rmRec l Z a0 hw [] b h0 n0 Z0) hZ (hw _ (List.mem_of_getElem? (i := 52) rfl)) (hw _ (List.mem_of_getElem? (i := 51) rfl)) (by decide) (by decide)) (g := (mkF m 1 #[.val (.ref b), .val (.ref u), .val .null, .val .null, .val (.long y1), .second, .val (.long y2), .second, .val (.long y3), .second] [(.ref b)])) rfl (by rw [hml]; rfl) (Steps.refl _) (a := b) (argsL := []) (rest := []) (lenOf pd_0 rfl) rfl (by show 2 * 0 + _ ≤ _; exact Nat.le_of_eq rfl) (hb hby d30_1) (fun _ _ => ⟨rfl, e0, (by decide : 0 + 0 ≤ _), (by decide : 0 + 0 ≤ _)⟩)
  dsimp only [Pt.U, Pt.locs, Pt.cells, Pt.slots] at X1 l1 y1 z1 st1 hQ1
  subst l1 y1 z1
  obtain ⟨rfl, N1q, heq1⟩ := hQ1
  have N1 := Fr.app N0 N1q
  refine own_by (S' := T1.setTop (mkF m 4 #[.val (.ref b), .val (.ref u), .val .null, .val .null, .val (.long y1), .second, .val (.long y2), .second, .val (.long y3), .second] [])) (fun tZ kZ => st1.trans kZ) ?_
  refine own_by (S' := T1.setTop (mkF m 5 #[.val (.ref b), .val (.ref u), .val .null, .val .null, .val (.long y1), .second, .val (.long y2), .second, .val (.long y3), .second] [(.ref b)])) (fun tZ kZ => XS.aloadN X1.here hx rfl (hb hby d30_4) rfl rfl kZ) ?_
  refine own_by (S' := T1.setTop (mkF m 6 #[.val (.ref b), .val (.ref u), .val .null, .val .null, .val (.long y1), .second, .val (.long y2), .second, .val (.long y3), .second] [(.ref u), (.ref b)])) (fun tZ kZ => XS.aloadN X1.here hx rfl (hb hby d30_5) rfl rfl kZ) ?_
  obtain ⟨T2, h2, X2, e2, W2, st2⟩ := putF X1 hx hZ hown (host := "") (Or.inl (hw _ (List.mem_of_getElem? (i := 208) rfl))) Via.refl heq1 F_trade_b Ex_b (Or.inr ⟨(hw _ (List.mem_of_getElem? (i := 209) rfl)), rfl, hnm⟩) (hw _ (List.mem_of_getElem? (i := 119) rfl)) (ty := (.object "com/example/fairgate/fairgate/processor/Trade")) (by decide) rfl rfl (g := (mkF m 6 #[.val (.ref b), .val (.ref u), .val .null, .val .null, .val (.long y1), .second, .val (.long y2), .second, .val (.long y3), .second] [(.ref u), (.ref b)])) rfl rfl (hb hby d30_6)
  have N2 := Fr.snoc X2 N1 g_b
  have Ex_b_2 := Ex_b.wr W2
  have F_trade_b_2 := F_trade_b.same W2
  have F_order_b_2 := F_order_b.other W2 (Or.inr (slot_ne (Or.inr (hw _ (List.mem_of_getElem? (i := 211) rfl))) (Or.inr (hw _ (List.mem_of_getElem? (i := 209) rfl))) (by decide) (t := (.object "com/example/fairgate/fairgate/processor/OrderKey")) (t' := (.object "com/example/fairgate/fairgate/processor/Trade")) (by decide) (by decide)))
  have F_edge_b_2 := F_edge_b.other W2 (Or.inr (slot_ne (Or.inr (hw _ (List.mem_of_getElem? (i := 213) rfl))) (Or.inr (hw _ (List.mem_of_getElem? (i := 209) rfl))) (by decide) (t := (.object "com/example/fairgate/fairgate/core/EntryPoint")) (t' := (.object "com/example/fairgate/fairgate/processor/Trade")) (by decide) (by decide)))
  have F_cumQty_b_2 := F_cumQty_b.other W2 (Or.inr (slot_ne (Or.inr (hw _ (List.mem_of_getElem? (i := 215) rfl))) (Or.inr (hw _ (List.mem_of_getElem? (i := 209) rfl))) (by decide) (t := .long) (t' := (.object "com/example/fairgate/fairgate/processor/Trade")) (by decide) (by decide)))
  have F_leavesQty_b_2 := F_leavesQty_b.other W2 (Or.inr (slot_ne (Or.inr (hw _ (List.mem_of_getElem? (i := 217) rfl))) (Or.inr (hw _ (List.mem_of_getElem? (i := 209) rfl))) (by decide) (t := .long) (t' := (.object "com/example/fairgate/fairgate/processor/Trade")) (by decide) (by decide)))
  have F_avgPrice_b_2 := F_avgPrice_b.other W2 (Or.inr (slot_ne (Or.inr (hw _ (List.mem_of_getElem? (i := 219) rfl))) (Or.inr (hw _ (List.mem_of_getElem? (i := 209) rfl))) (by decide) (t := .long) (t' := (.object "com/example/fairgate/fairgate/processor/Trade")) (by decide) (by decide)))
  have Zs2 : n0 ≤ h2.size := Nat.le_trans Z0 (Keep.of_wr W2).1
  have K2 := (Keep.refl h0 [b]).wr W2 (Or.inl (List.mem_of_getElem? (i := 0) rfl))
  refine own_by (S' := T2.setTop (mkF m 9 #[.val (.ref b), .val (.ref u), .val .null, .val .null, .val (.long y1), .second, .val (.long y2), .second, .val (.long y3), .second] [])) st2 ?_
  refine own_by (S' := T2.setTop (mkF m 10 #[.val (.ref b), .val (.ref u), .val .null, .val .null, .val (.long y1), .second, .val (.long y2), .second, .val (.long y3), .second] [(.ref b)])) (fun tZ kZ => XS.aloadN X2.here hx rfl (hb hby d30_9) rfl rfl kZ) ?_
  refine own_by (S' := T2.setTop (mkF m 11 #[.val (.ref b), .val (.ref u), .val .null, .val .null, .val (.long y1), .second, .val (.long y2), .second, .val (.long y3), .second] [.null, (.ref b)])) (fun tZ kZ => XS.aloadN X2.here hx rfl (hb hby d30_10) rfl rfl kZ) ?_
  obtain ⟨T3, h3, X3, e3, W3, st3⟩ := putF X2 hx hZ hown (host := "") (Or.inl (hw _ (List.mem_of_getElem? (i := 210) rfl))) Via.refl e2 F_order_b_2 Ex_b_2 (Or.inr ⟨(hw _ (List.mem_of_getElem? (i := 211) rfl)), rfl, hnm⟩) (hw _ (List.mem_of_getElem? (i := 119) rfl)) (ty := (.object "com/example/fairgate/fairgate/processor/OrderKey")) (by decide) rfl rfl (g := (mkF m 11 #[.val (.ref b), .val (.ref u), .val .null, .val .null, .val (.long y1), .second, .val (.long y2), .second, .val (.long y3), .second] [.null, (.ref b)])) rfl rfl (hb hby d30_11)
  have N3 := Fr.snoc X3 N2 g_b
  have Ex_b_3 := Ex_b_2.wr W3
  have F_trade_b_3 := F_trade_b_2.other W3 (Or.inr (slot_ne (Or.inr (hw _ (List.mem_of_getElem? (i := 209) rfl))) (Or.inr (hw _ (List.mem_of_getElem? (i := 211) rfl))) (by decide) (t := (.object "com/example/fairgate/fairgate/processor/Trade")) (t' := (.object "com/example/fairgate/fairgate/processor/OrderKey")) (by decide) (by decide)))
  have F_order_b_3 := F_order_b_2.same W3
  have F_edge_b_3 := F_edge_b_2.other W3 (Or.inr (slot_ne (Or.inr (hw _ (List.mem_of_getElem? (i := 213) rfl))) (Or.inr (hw _ (List.mem_of_getElem? (i := 211) rfl))) (by decide) (t := (.object "com/example/fairgate/fairgate/core/EntryPoint")) (t' := (.object "com/example/fairgate/fairgate/processor/OrderKey")) (by decide) (by decide)))
  have F_cumQty_b_3 := F_cumQty_b_2.other W3 (Or.inr (slot_ne (Or.inr (hw _ (List.mem_of_getElem? (i := 215) rfl))) (Or.inr (hw _ (List.mem_of_getElem? (i := 211) rfl))) (by decide) (t := .long) (t' := (.object "com/example/fairgate/fairgate/processor/OrderKey")) (by decide) (by decide)))
  have F_leavesQty_b_3 := F_leavesQty_b_2.other W3 (Or.inr (slot_ne (Or.inr (hw _ (List.mem_of_getElem? (i := 217) rfl))) (Or.inr (hw _ (List.mem_of_getElem? (i := 211) rfl))) (by decide) (t := .long) (t' := (.object "com/example/fairgate/fairgate/processor/OrderKey")) (by decide) (by decide)))
  have F_avgPrice_b_3 := F_avgPrice_b_2.other W3 (Or.inr (slot_ne (Or.inr (hw _ (List.mem_of_getElem? (i := 219) rfl))) (Or.inr (hw _ (List.mem_of_getElem? (i := 211) rfl))) (by decide) (t := .long) (t' := (.object "com/example/fairgate/fairgate/processor/OrderKey")) (by decide) (by decide)))
  have Zs3 : n0 ≤ h3.size := Nat.le_trans Zs2 (Keep.of_wr W3).1
  have K3 := K2.wr W3 (Or.inl (List.mem_of_getElem? (i := 0) rfl))
  refine own_by (S' := T3.setTop (mkF m 14 #[.val (.ref b), .val (.ref u), .val .null, .val .null, .val (.long y1), .second, .val (.long y2), .second, .val (.long y3), .second] [])) st3 ?_
  refine own_by (S' := T3.setTop (mkF m 15 #[.val (.ref b), .val (.ref u), .val .null, .val .null, .val (.long y1), .second, .val (.long y2), .second, .val (.long y3), .second] [(.ref b)])) (fun tZ kZ => XS.aloadN X3.here hx rfl (hb hby d30_14) rfl rfl kZ) ?_
  refine own_by (S' := T3.setTop (mkF m 16 #[.val (.ref b), .val (.ref u), .val .null, .val .null, .val (.long y1), .second, .val (.long y2), .second, .val (.long y3), .second] [.null, (.ref b)])) (fun tZ kZ => XS.aloadN X3.here hx rfl (hb hby d30_15) rfl rfl kZ) ?_
  obtain ⟨T4, h4, X4, e4, W4, st4⟩ := putF X3 hx hZ hown (host := "") (Or.inl (hw _ (List.mem_of_getElem? (i := 212) rfl))) Via.refl e3 F_edge_b_3 Ex_b_3 (Or.inr ⟨(hw _ (List.mem_of_getElem? (i := 213) rfl)), rfl, hnm⟩) (hw _ (List.mem_of_getElem? (i := 119) rfl)) (ty := (.object "com/example/fairgate/fairgate/core/EntryPoint")) (by decide) rfl rfl (g := (mkF m 16 #[.val (.ref b), .val (.ref u), .val .null, .val .null, .val (.long y1), .second, .val (.long y2), .second, .val (.long y3), .second] [.null, (.ref b)])) rfl rfl (hb hby d30_16)
  have N4 := Fr.snoc X4 N3 g_b
  have Ex_b_4 := Ex_b_3.wr W4
  have F_trade_b_4 := F_trade_b_3.other W4 (Or.inr (slot_ne (Or.inr (hw _ (List.mem_of_getElem? (i := 209) rfl))) (Or.inr (hw _ (List.mem_of_getElem? (i := 213) rfl))) (by decide) (t := (.object "com/example/fairgate/fairgate/processor/Trade")) (t' := (.object "com/example/fairgate/fairgate/core/EntryPoint")) (by decide) (by decide)))
  have F_order_b_4 := F_order_b_3.other W4 (Or.inr (slot_ne (Or.inr (hw _ (List.mem_of_getElem? (i := 211) rfl))) (Or.inr (hw _ (List.mem_of_getElem? (i := 213) rfl))) (by decide) (t := (.object "com/example/fairgate/fairgate/processor/OrderKey")) (t' := (.object "com/example/fairgate/fairgate/core/EntryPoint")) (by decide) (by decide)))
  have F_edge_b_4 := F_edge_b_3.same W4
  have F_cumQty_b_4 := F_cumQty_b_3.other W4 (Or.inr (slot_ne (Or.inr (hw _ (List.mem_of_getElem? (i := 215) rfl))) (Or.inr (hw _ (List.mem_of_getElem? (i := 213) rfl))) (by decide) (t := .long) (t' := (.object "com/example/fairgate/fairgate/core/EntryPoint")) (by decide) (by decide)))
  have F_leavesQty_b_4 := F_leavesQty_b_3.other W4 (Or.inr (slot_ne (Or.inr (hw _ (List.mem_of_getElem? (i := 217) rfl))) (Or.inr (hw _ (List.mem_of_getElem? (i := 213) rfl))) (by decide) (t := .long) (t' := (.object "com/example/fairgate/fairgate/core/EntryPoint")) (by decide) (by decide)))
  have F_avgPrice_b_4 := F_avgPrice_b_3.other W4 (Or.inr (slot_ne (Or.inr (hw _ (List.mem_of_getElem? (i := 219) rfl))) (Or.inr (hw _ (List.mem_of_getElem? (i := 213) rfl))) (by decide) (t := .long) (t' := (.object "com/example/fairgate/fairgate/core/EntryPoint")) (by decide) (by decide)))
  have Zs4 : n0 ≤ h4.size := Nat.le_trans Zs3 (Keep.of_wr W4).1
  have K4 := K3.wr W4 (Or.inl (List.mem_of_getElem? (i := 0) rfl))
  refine own_by (S' := T4.setTop (mkF m 19 #[.val (.ref b), .val (.ref u), .val .null, .val .null, .val (.long y1), .second, .val (.long y2), .second, .val (.long y3), .second] [])) st4 ?_
  refine own_by (S' := T4.setTop (mkF m 20 #[.val (.ref b), .val (.ref u), .val .null, .val .null, .val (.long y1), .second, .val (.long y2), .second, .val (.long y3), .second] [(.ref b)])) (fun tZ kZ => XS.aloadN X4.here hx rfl (hb hby d30_19) rfl rfl kZ) ?_
  refine own_by (S' := T4.setTop (mkF m 22 #[.val (.ref b), .val (.ref u), .val .null, .val .null, .val (.long y1), .second, .val (.long y2), .second, .val (.long y3), .second] [(.long y1), (.ref b)])) (fun tZ kZ => XS.lload X4.here hx rfl (hb hby d30_20) rfl kZ) ?_
  obtain ⟨T5, h5, X5, e5, W5, st5⟩ := putF X4 hx hZ hown (host := "") (Or.inl (hw _ (List.mem_of_getElem? (i := 214) rfl))) Via.refl e4 F_cumQty_b_4 Ex_b_4 (Or.inr ⟨(hw _ (List.mem_of_getElem? (i := 215) rfl)), rfl, hnm⟩) (hw _ (List.mem_of_getElem? (i := 119) rfl)) (ty := .long) (by decide) rfl rfl (g := (mkF m 22 #[.val (.ref b), .val (.ref u), .val .null, .val .null, .val (.long y1), .second, .val (.long y2), .second, .val (.long y3), .second] [(.long y1), (.ref b)])) rfl rfl (hb hby d30_22)
  have N5 := Fr.snoc X5 N4 g_b
  have Ex_b_5 := Ex_b_4.wr W5
  have F_trade_b_5 := F_trade_b_4.other W5 (Or.inr (slot_ne (Or.inr (hw _ (List.mem_of_getElem? (i := 209) rfl))) (Or.inr (hw _ (List.mem_of_getElem? (i := 215) rfl))) (by decide) (t := (.object "com/example/fairgate/fairgate/processor/Trade")) (t' := .long) (by decide) (by decide)))
  have F_order_b_5 := F_order_b_4.other W5 (Or.inr (slot_ne (Or.inr (hw _ (List.mem_of_getElem? (i := 211) rfl))) (Or.inr (hw _ (List.mem_of_getElem? (i := 215) rfl))) (by decide) (t := (.object "com/example/fairgate/fairgate/processor/OrderKey")) (t' := .long) (by decide) (by decide)))
  have F_edge_b_5 := F_edge_b_4.other W5 (Or.inr (slot_ne (Or.inr (hw _ (List.mem_of_getElem? (i := 213) rfl))) (Or.inr (hw _ (List.mem_of_getElem? (i := 215) rfl))) (by decide) (t := (.object "com/example/fairgate/fairgate/core/EntryPoint")) (t' := .long) (by decide) (by decide)))
  have F_cumQty_b_5 := F_cumQty_b_4.same W5
  have F_leavesQty_b_5 := F_leavesQty_b_4.other W5 (Or.inr (slot_ne (Or.inr (hw _ (List.mem_of_getElem? (i := 217) rfl))) (Or.inr (hw _ (List.mem_of_getElem? (i := 215) rfl))) (by decide) (t := .long) (t' := .long) (by decide) (by decide)))
  have F_avgPrice_b_5 := F_avgPrice_b_4.other W5 (Or.inr (slot_ne (Or.inr (hw _ (List.mem_of_getElem? (i := 219) rfl))) (Or.inr (hw _ (List.mem_of_getElem? (i := 215) rfl))) (by decide) (t := .long) (t' := .long) (by decide) (by decide)))
  have Zs5 : n0 ≤ h5.size := Nat.le_trans Zs4 (Keep.of_wr W5).1
  have K5 := K4.wr W5 (Or.inl (List.mem_of_getElem? (i := 0) rfl))
  refine own_by (S' := T5.setTop (mkF m 25 #[.val (.ref b), .val (.ref u), .val .null, .val .null, .val (.long y1), .second, .val (.long y2), .second, .val (.long y3), .second] [])) st5 ?_
  refine own_by (S' := T5.setTop (mkF m 26 #[.val (.ref b), .val (.ref u), .val .null, .val .null, .val (.long y1), .second, .val (.long y2), .second, .val (.long y3), .second] [(.ref b)])) (fun tZ kZ => XS.aloadN X5.here hx rfl (hb hby d30_25) rfl rfl kZ) ?_
  refine own_by (S' := T5.setTop (mkF m 28 #[.val (.ref b), .val (.ref u), .val .null, .val .null, .val (.long y1), .second, .val (.long y2), .second, .val (.long y3), .second] [(.long y2), (.ref b)])) (fun tZ kZ => XS.lload X5.here hx rfl (hb hby d30_26) rfl kZ) ?_
  obtain ⟨T6, h6, X6, e6, W6, st6⟩ := putF X5 hx hZ hown (host := "") (Or.inl (hw _ (List.mem_of_getElem? (i := 216) rfl))) Via.refl e5 F_leavesQty_b_5 Ex_b_5 (Or.inr ⟨(hw _ (List.mem_of_getElem? (i := 217) rfl)), rfl, hnm⟩) (hw _ (List.mem_of_getElem? (i := 119) rfl)) (ty := .long) (by decide) rfl rfl (g := (mkF m 28 #[.val (.ref b), .val (.ref u), .val .null, .val .null, .val (.long y1), .second, .val (.long y2), .second, .val (.long y3), .second] [(.long y2), (.ref b)])) rfl rfl (hb hby d30_28)
  have N6 := Fr.snoc X6 N5 g_b
  have Ex_b_6 := Ex_b_5.wr W6
  have F_trade_b_6 := F_trade_b_5.other W6 (Or.inr (slot_ne (Or.inr (hw _ (List.mem_of_getElem? (i := 209) rfl))) (Or.inr (hw _ (List.mem_of_getElem? (i := 217) rfl))) (by decide) (t := (.object "com/example/fairgate/fairgate/processor/Trade")) (t' := .long) (by decide) (by decide)))
  have F_order_b_6 := F_order_b_5.other W6 (Or.inr (slot_ne (Or.inr (hw _ (List.mem_of_getElem? (i := 211) rfl))) (Or.inr (hw _ (List.mem_of_getElem? (i := 217) rfl))) (by decide) (t := (.object "com/example/fairgate/fairgate/processor/OrderKey")) (t' := .long) (by decide) (by decide)))
  have F_edge_b_6 := F_edge_b_5.other W6 (Or.inr (slot_ne (Or.inr (hw _ (List.mem_of_getElem? (i := 213) rfl))) (Or.inr (hw _ (List.mem_of_getElem? (i := 217) rfl))) (by decide) (t := (.object "com/example/fairgate/fairgate/core/EntryPoint")) (t' := .long) (by decide) (by decide)))
  have F_cumQty_b_6 := F_cumQty_b_5.other W6 (Or.inr (slot_ne (Or.inr (hw _ (List.mem_of_getElem? (i := 215) rfl))) (Or.inr (hw _ (List.mem_of_getElem? (i := 217) rfl))) (by decide) (t := .long) (t' := .long) (by decide) (by decide)))
  have F_leavesQty_b_6 := F_leavesQty_b_5.same W6
  have F_avgPrice_b_6 := F_avgPrice_b_5.other W6 (Or.inr (slot_ne (Or.inr (hw _ (List.mem_of_getElem? (i := 219) rfl))) (Or.inr (hw _ (List.mem_of_getElem? (i := 217) rfl))) (by decide) (t := .long) (t' := .long) (by decide) (by decide)))
  have Zs6 : n0 ≤ h6.size := Nat.le_trans Zs5 (Keep.of_wr W6).1
  have K6 := K5.wr W6 (Or.inl (List.mem_of_getElem? (i := 0) rfl))
  refine own_by (S' := T6.setTop (mkF m 31 #[.val (.ref b), .val (.ref u), .val .null, .val .null, .val (.long y1), .second, .val (.long y2), .second, .val (.long y3), .second] [])) st6 ?_
  refine own_by (S' := T6.setTop (mkF m 32 #[.val (.ref b), .val (.ref u), .val .null, .val .null, .val (.long y1), .second, .val (.long y2), .second, .val (.long y3), .second] [(.ref b)])) (fun tZ kZ => XS.aloadN X6.here hx rfl (hb hby d30_31) rfl rfl kZ) ?_
  refine own_by (S' := T6.setTop (mkF m 34 #[.val (.ref b), .val (.ref u), .val .null, .val .null, .val (.long y1), .second, .val (.long y2), .second, .val (.long y3), .second] [(.long y3), (.ref b)])) (fun tZ kZ => XS.lload X6.here hx rfl (hb hby d30_32) rfl kZ) ?_
  obtain ⟨T7, h7, X7, e7, W7, st7⟩ := putF X6 hx hZ hown (host := "") (Or.inl (hw _ (List.mem_of_getElem? (i := 218) rfl))) Via.refl e6 F_avgPrice_b_6 Ex_b_6 (Or.inr ⟨(hw _ (List.mem_of_getElem? (i := 219) rfl)), rfl, hnm⟩) (hw _ (List.mem_of_getElem? (i := 119) rfl)) (ty := .long) (by decide) rfl rfl (g := (mkF m 34 #[.val (.ref b), .val (.ref u), .val .null, .val .null, .val (.long y1), .second, .val (.long y2), .second, .val (.long y3), .second] [(.long y3), (.ref b)])) rfl rfl (hb hby d30_34)
  have N7 := Fr.snoc X7 N6 g_b
  have Ex_b_7 := Ex_b_6.wr W7
  have F_trade_b_7 := F_trade_b_6.other W7 (Or.inr (slot_ne (Or.inr (hw _ (List.mem_of_getElem? (i := 209) rfl))) (Or.inr (hw _ (List.mem_of_getElem? (i := 219) rfl))) (by decide) (t := (.object "com/example/fairgate/fairgate/processor/Trade")) (t' := .long) (by decide) (by decide)))
  have F_order_b_7 := F_order_b_6.other W7 (Or.inr (slot_ne (Or.inr (hw _ (List.mem_of_getElem? (i := 211) rfl))) (Or.inr (hw _ (List.mem_of_getElem? (i := 219) rfl))) (by decide) (t := (.object "com/example/fairgate/fairgate/processor/OrderKey")) (t' := .long) (by decide) (by decide)))
  have F_edge_b_7 := F_edge_b_6.other W7 (Or.inr (slot_ne (Or.inr (hw _ (List.mem_of_getElem? (i := 213) rfl))) (Or.inr (hw _ (List.mem_of_getElem? (i := 219) rfl))) (by decide) (t := (.object "com/example/fairgate/fairgate/core/EntryPoint")) (t' := .long) (by decide) (by decide)))
  have F_cumQty_b_7 := F_cumQty_b_6.other W7 (Or.inr (slot_ne (Or.inr (hw _ (List.mem_of_getElem? (i := 215) rfl))) (Or.inr (hw _ (List.mem_of_getElem? (i := 219) rfl))) (by decide) (t := .long) (t' := .long) (by decide) (by decide)))
  have F_leavesQty_b_7 := F_leavesQty_b_6.other W7 (Or.inr (slot_ne (Or.inr (hw _ (List.mem_of_getElem? (i := 217) rfl))) (Or.inr (hw _ (List.mem_of_getElem? (i := 219) rfl))) (by decide) (t := .long) (t' := .long) (by decide) (by decide)))
  have F_avgPrice_b_7 := F_avgPrice_b_6.same W7
  have Zs7 : n0 ≤ h7.size := Nat.le_trans Zs6 (Keep.of_wr W7).1
  have K7 := K6.wr W7 (Or.inl (List.mem_of_getElem? (i := 0) rfl))
  refine own_by (S' := T7.setTop (mkF m 37 #[.val (.ref b), .val (.ref u), .val .null, .val .null, .val (.long y1), .second, .val (.long y2), .second, .val (.long y3), .second] [])) st7 ?_
  exact own_ret0 X7 hx Bd.returns (hb hby d30_37) Bd.notSynchronized (by decide) (by decide) (show QK b h0 n0 none T7.heap _ from by rw [e7]; exact ⟨rfl, N7, K7⟩)
theorem d8_0 : decode prog_140_method_14_code 0 = .ok (.aload_n 0, 1) := by decide +kernel
theorem d8_1 : decode prog_140_method_14_code 1 = .ok (.dup, 1) := by decide +kernel
theorem d8_2 : decode prog_140_method_14_code 2 = .ok (.getfield 45, 3) := by decide +kernel
theorem d8_5 : decode prog_140_method_14_code 5 = .ok (.aload_n 1, 1) := by decide +kernel
theorem d8_6 : decode prog_140_method_14_code 6 = .ok (.invokevirtual 59, 3) := by decide +kernel
theorem d8_9 : decode prog_140_method_14_code 9 = .ok (.lsub, 1) := by decide +kernel
theorem d8_10 : decode prog_140_method_14_code 10 = .ok (.putfield 45, 3) := by decide +kernel
theorem d8_13 : decode prog_140_method_14_code 13 = .ok (.aload_n 0, 1) := by decide +kernel
theorem d8_14 : decode prog_140_method_14_code 14 = .ok (.dup, 1) := by decide +kernel
theorem d8_15 : decode prog_140_method_14_code 15 = .ok (.getfield 51, 3) := by decide +kernel
theorem d8_18 : decode prog_140_method_14_code 18 = .ok (.aload_n 1, 1) := by decide +kernel
theorem d8_19 : decode prog_140_method_14_code 19 = .ok (.invokevirtual 59, 3) := by decide +kernel
theorem d8_22 : decode prog_140_method_14_code 22 = .ok (.lsub, 1) := by decide +kernel
theorem d8_23 : decode prog_140_method_14_code 23 = .ok (.putfield 51, 3) := by decide +kernel
theorem d8_26 : decode prog_140_method_14_code 26 = .ok (.aload_n 0, 1) := by decide +kernel
theorem d8_27 : decode prog_140_method_14_code 27 = .ok (.aload_n 0, 1) := by decide +kernel
theorem d8_28 : decode prog_140_method_14_code 28 = .ok (.getfield 13, 3) := by decide +kernel
theorem d8_31 : decode prog_140_method_14_code 31 = .ok (.aload_n 1, 1) := by decide +kernel
theorem d8_32 : decode prog_140_method_14_code 32 = .ok (.invokevirtual 64, 3) := by decide +kernel
theorem d8_35 : decode prog_140_method_14_code 35 = .ok (.invokestatic 66, 3) := by decide +kernel
theorem d8_38 : decode prog_140_method_14_code 38 = .ok (.aload_n 1, 1) := by decide +kernel
theorem d8_39 : decode prog_140_method_14_code 39 = .ok (.invokevirtual 59, 3) := by decide +kernel
theorem d8_42 : decode prog_140_method_14_code 42 = .ok (.invokestatic 66, 3) := by decide +kernel
theorem d8_45 : decode prog_140_method_14_code 45 = .ok (.invokevirtual 70, 3) := by decide +kernel
theorem d8_48 : decode prog_140_method_14_code 48 = .ok (.invokevirtual 74, 3) := by decide +kernel
theorem d8_51 : decode prog_140_method_14_code 51 = .ok (.putfield 13, 3) := by decide +kernel
theorem d8_54 : decode prog_140_method_14_code 54 = .ok (.new 77, 3) := by decide +kernel
theorem d8_57 : decode prog_140_method_14_code 57 = .ok (.dup, 1) := by decide +kernel
theorem d8_58 : decode prog_140_method_14_code 58 = .ok (.aload_n 1, 1) := by decide +kernel
theorem d8_59 : decode prog_140_method_14_code 59 = .ok (.aload_n 0, 1) := by decide +kernel
theorem d8_60 : decode prog_140_method_14_code 60 = .ok (.getfield 18, 3) := by decide +kernel
theorem d8_63 : decode prog_140_method_14_code 63 = .ok (.aload_n 0, 1) := by decide +kernel
theorem d8_64 : decode prog_140_method_14_code 64 = .ok (.getfield 22, 3) := by decide +kernel
theorem d8_67 : decode prog_140_method_14_code 67 = .ok (.aload_n 0, 1) := by decide +kernel
theorem d8_68 : decode prog_140_method_14_code 68 = .ok (.invokevirtual 79, 3) := by decide +kernel
theorem d8_71 : decode prog_140_method_14_code 71 = .ok (.aload_n 0, 1) := by decide +kernel
theorem d8_72 : decode prog_140_method_14_code 72 = .ok (.getfield 45, 3) := by decide +kernel
theorem d8_75 : decode prog_140_method_14_code 75 = .ok (.aload_n 0, 1) := by decide +kernel
theorem d8_76 : decode prog_140_method_14_code 76 = .ok (.invokevirtual 82, 3) := by decide +kernel
theorem d8_79 : decode prog_140_method_14_code 79 = .ok (.invokespecial 85, 3) := by decide +kernel
theorem d8_82 : decode prog_140_method_14_code 82 = .ok (.areturn, 1) := by decide +kernel
theorem ef_rmFill (m : MethodId) (o : Addr) (u : Addr) : entryFrame m #[(.ref o), (.ref u)] 2 = mkF m 0 #[.val (.ref o), .val (.ref u)] [] := by first | (simp [entryFrame, mkF, argsToLocals, Value.category, maxLocals]; done) | rfl
set_option maxRecDepth 65536 in
set_option maxHeartbeats 40000000 in
theorem rmFill (l : Launch) (Z : State) (a0 : Array Value) (hw : ∀ d ∈ tables_1, d.before a0 Z = true) (ws : List Jvm.Cond) (o u : Addr) (q res y : Int64) (hB : Heap) (zr mz pa za rmo lt mir : Addr) (mc pk zc lc : Cell) (h0 : Heap) (n0 : Nat) (Z0 : n0 ≤ h0.size) (Eb : Ext hB h0) (WD : OwnWd Z a0 hB zr mz pa za rmo lt mir mc pk zc lc) (hBn : hB.size ≤ n0) (OO : OwnO Z h0 o zr q q res 0) (OT : OwnT Z h0 u y) (nou : u ≠ o) (g_o : n0 ≤ o) (hy : 0 ≤ y.toInt) :
    MetFree l (⟨"com/example/fairgate/fairgate/processor/Order", "fill", "(Lcom/example/fairgate/fairgate/processor/Trade;)Lcom/example/fairgate/fairgate/processor/Fill;"⟩ : MethodName) (head1 (Jvm.Cond.code (⟨"com/example/fairgate/fairgate/processor/Order", "fill", "(Lcom/example/fairgate/fairgate/processor/Trade;)Lcom/example/fairgate/fairgate/processor/Fill;"⟩ : MethodName) prog_140_method_14_code (2 : Nat) (Option.some (Jvm.ClassFile.FieldType.object "com/example/fairgate/fairgate/processor/Fill")) :: ws) ({ frames := 10, cells := 6, slots := 29, locals := 170 } : Room)) (fun aZ UZ => aZ = #[(.ref o), (.ref u)] ∧ Z.Warmed39 UZ.vm ∧ UZ.heap = h0) (fun _ _ _ _ _ => True) (fun _ UZ oZ VZ => ∃ vZ LZ, oZ = .returned vZ ∧ (QFill Z o zr q (q - y) (res - y) 0 h0 n0) vZ VZ.heap LZ ∧ FrameEnd UZ oZ VZ LZ ({ frames := 10, cells := 6, slots := 29, locals := 170 } : Room).cells ({ frames := 10, cells := 6, slots := 29, locals := 170 } : Room).slots) := by
  refine MetFree.of_bodySF (plainFor_of_name pn_2) hisR ?_
  intro p e s m args below meth c s₁ Bd hml0 hP hK
  obtain ⟨rfl, hZ, hh⟩ := hP
  have hx := Bd.exec
  have hby := Bd.bytes
  have hml : c.maxLocals = 2 := hml0
  have hown : s.vm.findClass "com/example/fairgate/fairgate/processor/Order" = some m.cls := findClass_of_methodNamed Bd.named
  have hnm := (name_of_methodNamed Bd.named Bd.method).1
  have X0 : Stand p l e ({ frames := 10, cells := 6, slots := 29, locals := 170 } : Room) s m #[(.ref o), (.ref u)] below meth c s₁ [] 0 0 := Stand.of_body Bd
  have e0 : s₁.heap = h0 := by rw [← hh, Bd.state]; rfl
  have N0 := Fr.nil n0
  show OwnG p e below (OwnE s (QFill Z o zr q (q - y) (res - y) 0 h0 n0) ({ frames := 10, cells := 6, slots := 29, locals := 170 } : Room).cells ({ frames := 10, cells := 6, slots := 29, locals := 170 } : Room).slots) _
  refine own_by (S' := s₁.setTop (mkF m 0 #[.val (.ref o), .val (.ref u)] [])) (fun tZ kZ => castTop (ef_rmFill m o u) kZ) ?_
  obtain ⟨Ex_o, F_qty_o, F_remaining_o, F_reserved_o, F_cancelled_o, F_traded_o, F_key_o, F_edge_o⟩ := id OO
  obtain ⟨wS, wE, wF, wM, wA, wAz, wP, wPA, wPz, wPe, wT, wTA, wTz, wTe, wH, wHF, wL, wLA, wLz, wMi⟩ := id WD
  refine own_by (S' := s₁.setTop (mkF m 1 #[.val (.ref o), .val (.ref u)] [(.ref o)])) (fun tZ kZ => XS.aloadN X0.here hx rfl (hb hby d8_0) rfl rfl kZ) ?_
  refine own_by (S' := s₁.setTop (mkF m 2 #[.val (.ref o), .val (.ref u)] [(.ref o), (.ref o)])) (fun tZ kZ => XS.dup X0.here hx rfl (hb hby d8_1) rfl rfl kZ) ?_
  obtain ⟨T1, X1, e1, st1⟩ := getF X0 hx hZ hown (host := "") (Or.inl (hw _ (List.mem_of_getElem? (i := 40) rfl))) Via.refl e0 F_remaining_o (g := (mkF m 2 #[.val (.ref o), .val (.ref u)] [(.ref o), (.ref o)])) rfl rfl (hb hby d8_2)
  refine own_by (S' := T1.setTop (mkF m 5 #[.val (.ref o), .val (.ref u)] [(.long q), (.ref o)])) st1 ?_
  refine own_by (S' := T1.setTop (mkF m 6 #[.val (.ref o), .val (.ref u)] [(.ref u), (.long q), (.ref o)])) (fun tZ kZ => XS.aloadN X1.here hx rfl (hb hby d8_5) rfl rfl kZ) ?_
  obtain ⟨cq2, kq2, q2a, q2b, q2c⟩ := isOf hZ e1 OT.1
  obtain ⟨_, _, ⟨T2, L2, k2, n2⟩, -, X2, ⟨Lc2, hQ2, l2, y2, z2⟩, st2⟩ := X1.virtualBack hx (y := (⟨"com/example/fairgate/fairgate/processor/Trade", "qty", "()J"⟩ : MethodName)) (z := (⟨"com/example/fairgate/fairgate/processor/Trade", "qty", "()J"⟩ : MethodName)) hown (mvT hZ (hw _ (List.mem_of_getElem? (i := 85) rfl))) (mvT hZ (hw _ (List.mem_of_getElem? (i := 86) rfl))) (notFace_of_selects (args := #[]) (mvT hZ (hw _ (List.mem_of_getElem? (i := 88) rfl)))) (mvT hZ (hw _ (List.mem_of_getElem? (i := 88) rfl))) (mvT hZ (hw _ (List.mem_of_getElem? (i := 87) rfl))) (by decide) (backOf (W := 3) (rmTq l Z a0 hw [] u y h0 n0 Z0 OT) hZ (hw _ (List.mem_of_getElem? (i := 89) rfl)) (hw _ (List.mem_of_getElem? (i := 44) rfl)) (by decide) (by decide)) q2a q2c (g := (mkF m 6 #[.val (.ref o), .val (.ref u)] [(.ref u), (.long q), (.ref o)])) rfl (by rw [hml]; rfl) (Steps.refl _) (argsL := []) (rest := [(.long q), (.ref o)]) (lenOf pd_13 rfl) rfl (by show 2 * 0 + _ ≤ _; exact Nat.le_of_eq rfl) (hb hby d8_6) (fun _ _ => ⟨rfl, e1, (by decide : 0 + 0 ≤ _), (by decide : 0 + 0 ≤ _)⟩)
  dsimp only [Pt.U, Pt.locs, Pt.cells, Pt.slots] at X2 l2 y2 z2 st2 hQ2
  subst l2 y2 z2
  obtain ⟨rfl, N2q, heq2⟩ := hQ2
  have N2 := Fr.app N0 N2q
  refine own_by (S' := T2.setTop (mkF m 9 #[.val (.ref o), .val (.ref u)] [(.long y), (.long q), (.ref o)])) (fun tZ kZ => st2.trans kZ) ?_
  refine own_by (S' := T2.setTop (mkF m 10 #[.val (.ref o), .val (.ref u)] [(.long (q - y)), (.ref o)])) (fun tZ kZ => XS.lsub X2.here hx rfl (hb hby d8_9) rfl kZ) ?_
  obtain ⟨T3, h3, X3, e3, W3, st3⟩ := putF X2 hx hZ hown (host := "") (Or.inl (hw _ (List.mem_of_getElem? (i := 40) rfl))) Via.refl heq2 F_remaining_o Ex_o (Or.inl (hw _ (List.mem_of_getElem? (i := 41) rfl))) (hw _ (List.mem_of_getElem? (i := 6) rfl)) (ty := .long) (by decide) rfl rfl (g := (mkF m 10 #[.val (.ref o), .val (.ref u)] [(.long (q - y)), (.ref o)])) rfl rfl (hb hby d8_10)
  have N3 := Fr.snoc X3 N2 g_o
  have Ex_o_3 := Ex_o.wr W3
  have F_traded_o_3 := F_traded_o.other W3 (Or.inr (slot_ne (Or.inl (hw _ (List.mem_of_getElem? (i := 25) rfl))) (Or.inl (hw _ (List.mem_of_getElem? (i := 41) rfl))) (by decide) (t := (.object "java/math/BigInteger")) (t' := .long) (by decide) (by decide)))
  have F_key_o_3 := F_key_o.other W3 (Or.inr (slot_ne (Or.inr (hw _ (List.mem_of_getElem? (i := 27) rfl))) (Or.inl (hw _ (List.mem_of_getElem? (i := 41) rfl))) (by decide) (t := (.object "com/example/fairgate/fairgate/processor/OrderKey")) (t' := .long) (by decide) (by decide)))
  have F_edge_o_3 := F_edge_o.other W3 (Or.inr (slot_ne (Or.inr (hw _ (List.mem_of_getElem? (i := 29) rfl))) (Or.inl (hw _ (List.mem_of_getElem? (i := 41) rfl))) (by decide) (t := (.object "com/example/fairgate/fairgate/core/EntryPoint")) (t' := .long) (by decide) (by decide)))
  have F_qty_o_3 := F_qty_o.other W3 (Or.inr (slot_ne (Or.inr (hw _ (List.mem_of_getElem? (i := 35) rfl))) (Or.inl (hw _ (List.mem_of_getElem? (i := 41) rfl))) (by decide) (t := .long) (t' := .long) (by decide) (by decide)))
  have F_remaining_o_3 := F_remaining_o.same W3
  have F_reserved_o_3 := F_reserved_o.other W3 (Or.inr (slot_ne (Or.inl (hw _ (List.mem_of_getElem? (i := 74) rfl))) (Or.inl (hw _ (List.mem_of_getElem? (i := 41) rfl))) (by decide) (t := .long) (t' := .long) (by decide) (by decide)))
  have F_cancelled_o_3 := F_cancelled_o.other W3 (Or.inr (slot_ne (Or.inl (hw _ (List.mem_of_getElem? (i := 72) rfl))) (Or.inl (hw _ (List.mem_of_getElem? (i := 41) rfl))) (by decide) (t := .boolean) (t' := .long) (by decide) (by decide)))
  have OT_3 := OT.other W3 nou
  have Zs3 : n0 ≤ h3.size := Nat.le_trans Z0 (Keep.of_wr W3).1
  have K3 := (Keep.refl h0 [o]).wr W3 (Or.inl (List.mem_of_getElem? (i := 0) rfl))
  refine own_by (S' := T3.setTop (mkF m 13 #[.val (.ref o), .val (.ref u)] [])) st3 ?_
  refine own_by (S' := T3.setTop (mkF m 14 #[.val (.ref o), .val (.ref u)] [(.ref o)])) (fun tZ kZ => XS.aloadN X3.here hx rfl (hb hby d8_13) rfl rfl kZ) ?_
  refine own_by (S' := T3.setTop (mkF m 15 #[.val (.ref o), .val (.ref u)] [(.ref o), (.ref o)])) (fun tZ kZ => XS.dup X3.here hx rfl (hb hby d8_14) rfl rfl kZ) ?_
  obtain ⟨T4, X4, e4, st4⟩ := getF X3 hx hZ hown (host := "") (Or.inl (hw _ (List.mem_of_getElem? (i := 73) rfl))) Via.refl e3 F_reserved_o_3 (g := (mkF m 15 #[.val (.ref o), .val (.ref u)] [(.ref o), (.ref o)])) rfl rfl (hb hby d8_15)
  refine own_by (S' := T4.setTop (mkF m 18 #[.val (.ref o), .val (.ref u)] [(.long res), (.ref o)])) st4 ?_
  refine own_by (S' := T4.setTop (mkF m 19 #[.val (.ref o), .val (.ref u)] [(.ref u), (.long res), (.ref o)])) (fun tZ kZ => XS.aloadN X4.here hx rfl (hb hby d8_18) rfl rfl kZ) ?_
  obtain ⟨cq5, kq5, q5a, q5b, q5c⟩ := isOf hZ e4 OT_3.1
  obtain ⟨_, _, ⟨T5, L5, k5, n5⟩, -, X5, ⟨Lc5, hQ5, l5, y5, z5⟩, st5⟩ := X4.virtualBack hx (y := (⟨"com/example/fairgate/fairgate/processor/Trade", "qty", "()J"⟩ : MethodName)) (z := (⟨"com/example/fairgate/fairgate/processor/Trade", "qty", "()J"⟩ : MethodName)) hown (mvT hZ (hw _ (List.mem_of_getElem? (i := 85) rfl))) (mvT hZ (hw _ (List.mem_of_getElem? (i := 86) rfl))) (notFace_of_selects (args := #[]) (mvT hZ (hw _ (List.mem_of_getElem? (i := 88) rfl)))) (mvT hZ (hw _ (List.mem_of_getElem? (i := 88) rfl))) (mvT hZ (hw _ (List.mem_of_getElem? (i := 87) rfl))) (by decide) (backOf (W := 3) (rmTq l Z a0 hw [] u y h3 n0 Zs3 OT_3) hZ (hw _ (List.mem_of_getElem? (i := 89) rfl)) (hw _ (List.mem_of_getElem? (i := 44) rfl)) (by decide) (by decide)) q5a q5c (g := (mkF m 19 #[.val (.ref o), .val (.ref u)] [(.ref u), (.long res), (.ref o)])) rfl (by rw [hml]; rfl) (Steps.refl _) (argsL := []) (rest := [(.long res), (.ref o)]) (lenOf pd_13 rfl) rfl (by show 2 * 0 + _ ≤ _; exact Nat.le_of_eq rfl) (hb hby d8_19) (fun _ _ => ⟨rfl, e4, (by decide : 0 + 0 ≤ _), (by decide : 0 + 0 ≤ _)⟩)
  dsimp only [Pt.U, Pt.locs, Pt.cells, Pt.slots] at X5 l5 y5 z5 st5 hQ5
  subst l5 y5 z5
  obtain ⟨rfl, N5q, heq5⟩ := hQ5
  have N5 := Fr.app N3 N5q
  refine own_by (S' := T5.setTop (mkF m 22 #[.val (.ref o), .val (.ref u)] [(.long y), (.long res), (.ref o)])) (fun tZ kZ => st5.trans kZ) ?_
  refine own_by (S' := T5.setTop (mkF m 23 #[.val (.ref o), .val (.ref u)] [(.long (res - y)), (.ref o)])) (fun tZ kZ => XS.lsub X5.here hx rfl (hb hby d8_22) rfl kZ) ?_
  obtain ⟨T6, h6, X6, e6, W6, st6⟩ := putF X5 hx hZ hown (host := "") (Or.inl (hw _ (List.mem_of_getElem? (i := 73) rfl))) Via.refl heq5 F_reserved_o_3 Ex_o_3 (Or.inl (hw _ (List.mem_of_getElem? (i := 74) rfl))) (hw _ (List.mem_of_getElem? (i := 6) rfl)) (ty := .long) (by decide) rfl rfl (g := (mkF m 23 #[.val (.ref o), .val (.ref u)] [(.long (res - y)), (.ref o)])) rfl rfl (hb hby d8_23)
  have N6 := Fr.snoc X6 N5 g_o
  have Ex_o_6 := Ex_o_3.wr W6
  have F_traded_o_6 := F_traded_o_3.other W6 (Or.inr (slot_ne (Or.inl (hw _ (List.mem_of_getElem? (i := 25) rfl))) (Or.inl (hw _ (List.mem_of_getElem? (i := 74) rfl))) (by decide) (t := (.object "java/math/BigInteger")) (t' := .long) (by decide) (by decide)))
  have F_key_o_6 := F_key_o_3.other W6 (Or.inr (slot_ne (Or.inr (hw _ (List.mem_of_getElem? (i := 27) rfl))) (Or.inl (hw _ (List.mem_of_getElem? (i := 74) rfl))) (by decide) (t := (.object "com/example/fairgate/fairgate/processor/OrderKey")) (t' := .long) (by decide) (by decide)))
  have F_edge_o_6 := F_edge_o_3.other W6 (Or.inr (slot_ne (Or.inr (hw _ (List.mem_of_getElem? (i := 29) rfl))) (Or.inl (hw _ (List.mem_of_getElem? (i := 74) rfl))) (by decide) (t := (.object "com/example/fairgate/fairgate/core/EntryPoint")) (t' := .long) (by decide) (by decide)))
  have F_qty_o_6 := F_qty_o_3.other W6 (Or.inr (slot_ne (Or.inr (hw _ (List.mem_of_getElem? (i := 35) rfl))) (Or.inl (hw _ (List.mem_of_getElem? (i := 74) rfl))) (by decide) (t := .long) (t' := .long) (by decide) (by decide)))
  have F_remaining_o_6 := F_remaining_o_3.other W6 (Or.inr (slot_ne (Or.inl (hw _ (List.mem_of_getElem? (i := 41) rfl))) (Or.inl (hw _ (List.mem_of_getElem? (i := 74) rfl))) (by decide) (t := .long) (t' := .long) (by decide) (by decide)))
  have F_reserved_o_6 := F_reserved_o_3.same W6
  have F_cancelled_o_6 := F_cancelled_o_3.other W6 (Or.inr (slot_ne (Or.inl (hw _ (List.mem_of_getElem? (i := 72) rfl))) (Or.inl (hw _ (List.mem_of_getElem? (i := 74) rfl))) (by decide) (t := .boolean) (t' := .long) (by decide) (by decide)))
  have OT_6 := OT_3.other W6 nou
  have Zs6 : n0 ≤ h6.size := Nat.le_trans Zs3 (Keep.of_wr W6).1
  have K6 := K3.wr W6 (Or.inl (List.mem_of_getElem? (i := 0) rfl))
  refine own_by (S' := T6.setTop (mkF m 26 #[.val (.ref o), .val (.ref u)] [])) st6 ?_
  refine own_by (S' := T6.setTop (mkF m 27 #[.val (.ref o), .val (.ref u)] [(.ref o)])) (fun tZ kZ => XS.aloadN X6.here hx rfl (hb hby d8_26) rfl rfl kZ) ?_
  refine own_by (S' := T6.setTop (mkF m 28 #[.val (.ref o), .val (.ref u)] [(.ref o), (.ref o)])) (fun tZ kZ => XS.aloadN X6.here hx rfl (hb hby d8_27) rfl rfl kZ) ?_
  obtain ⟨T7, X7, e7, st7⟩ := getF X6 hx hZ hown (host := "") (Or.inl (hw _ (List.mem_of_getElem? (i := 24) rfl))) Via.refl e6 F_traded_o_6 (g := (mkF m 28 #[.val (.ref o), .val (.ref u)] [(.ref o), (.ref o)])) rfl rfl (hb hby d8_28)
  refine own_by (S' := T7.setTop (mkF m 31 #[.val (.ref o), .val (.ref u)] [(.ref zr), (.ref o)])) st7 ?_
  refine own_by (S' := T7.setTop (mkF m 32 #[.val (.ref o), .val (.ref u)] [(.ref u), (.ref zr), (.ref o)])) (fun tZ kZ => XS.aloadN X7.here hx rfl (hb hby d8_31) rfl rfl kZ) ?_
  obtain ⟨cq8, kq8, q8a, q8b, q8c⟩ := isOf hZ e7 OT_6.1
  obtain ⟨_, _, ⟨T8, L8, k8, n8⟩, -, X8, ⟨Lc8, hQ8, l8, y8, z8⟩, st8⟩ := X7.virtualBack hx (y := (⟨"com/example/fairgate/fairgate/processor/Trade", "price", "()J"⟩ : MethodName)) (z := (⟨"com/example/fairgate/fairgate/processor/Trade", "price", "()J"⟩ : MethodName)) hown (mvT hZ (hw _ (List.mem_of_getElem? (i := 90) rfl))) (mvT hZ (hw _ (List.mem_of_getElem? (i := 91) rfl))) (notFace_of_selects (args := #[]) (mvT hZ (hw _ (List.mem_of_getElem? (i := 93) rfl)))) (mvT hZ (hw _ (List.mem_of_getElem? (i := 93) rfl))) (mvT hZ (hw _ (List.mem_of_getElem? (i := 92) rfl))) (by decide) (backOf (W := 2) (rmTp l Z a0 hw [] u y h6 n0 Zs6 OT_6) hZ (hw _ (List.mem_of_getElem? (i := 94) rfl)) (hw _ (List.mem_of_getElem? (i := 44) rfl)) (by decide) (by decide)) q8a q8c (g := (mkF m 32 #[.val (.ref o), .val (.ref u)] [(.ref u), (.ref zr), (.ref o)])) rfl (by rw [hml]; rfl) (Steps.refl _) (argsL := []) (rest := [(.ref zr), (.ref o)]) (lenOf pd_13 rfl) rfl (by show 2 * 0 + _ ≤ _; exact Nat.le_of_eq rfl) (hb hby d8_32) (fun _ _ => ⟨rfl, e7, (by decide : 0 + 0 ≤ _), (by decide : 0 + 0 ≤ _)⟩)
  dsimp only [Pt.U, Pt.locs, Pt.cells, Pt.slots] at X8 l8 y8 z8 st8 hQ8
  subst l8 y8 z8
  obtain ⟨rfl, N8q, heq8⟩ := hQ8
  have N8 := Fr.app N6 N8q
  refine own_by (S' := T8.setTop (mkF m 35 #[.val (.ref o), .val (.ref u)] [(.long (0 : Int64)), (.ref zr), (.ref o)])) (fun tZ kZ => st8.trans kZ) ?_
  have EB9 : Ext hB h6 := own_eb Eb K6 (by
      intro x hx
      simp only [List.mem_cons, List.not_mem_nil, or_false] at hx
      rcases hx with rfl
      · exact Nat.le_trans hBn g_o)
  obtain ⟨_, _, ⟨T10, L10, k10, n10⟩, -, X10, ⟨Lc10, hQ10, l10, y10, z10⟩, st10⟩ := Jvm.LawKit.callS X8 hx (y := (⟨"java/math/BigInteger", "valueOf", "(J)Ljava/math/BigInteger;"⟩ : MethodName)) hown (mvT hZ (hw _ (List.mem_of_getElem? (i := 95) rfl))) (mvT hZ (hw _ (List.mem_of_getElem? (i := 96) rfl))) (mvT hZ (hw _ (List.mem_of_getElem? (i := 23) rfl))) (mvT hZ (hw _ (List.mem_of_getElem? (i := 97) rfl))) (by decide) (backOf (W := 2) (rmV0 l Z a0 hw [] hB zr mz pa za rmo lt mir mc pk zc lc h6 n0 Zs6 EB9 WD) hZ (hw _ (List.mem_of_getElem? (i := 97) rfl)) (hw _ (List.mem_of_getElem? (i := 23) rfl)) (by decide) (by decide)) (g := (mkF m 35 #[.val (.ref o), .val (.ref u)] [(.long (0 : Int64)), (.ref zr), (.ref o)])) rfl (by rw [hml]; rfl) (argsL := [(.long (0 : Int64))]) (rest := [(.ref zr), (.ref o)]) (lenOf pd_16 rfl) rfl (by show 2 * 0 + _ ≤ _; exact Nat.le_of_eq rfl) (hb hby d8_35) (fun _ _ => ⟨rfl, heq8, (by decide : 0 + 0 ≤ _), (by decide : 0 + 0 ≤ _)⟩)
  dsimp only [Pt.U, Pt.locs, Pt.cells, Pt.slots] at X10 l10 y10 z10 st10 hQ10
  subst l10 y10 z10
  obtain ⟨rfl, N10q, heq10⟩ := hQ10
  have N10 := Fr.app N8 N10q
  refine own_by (S' := T10.setTop (mkF m 38 #[.val (.ref o), .val (.ref u)] [(.ref zr), (.ref zr), (.ref o)])) (fun tZ kZ => st10 _ kZ) ?_
  refine own_by (S' := T10.setTop (mkF m 39 #[.val (.ref o), .val (.ref u)] [(.ref u), (.ref zr), (.ref zr), (.ref o)])) (fun tZ kZ => XS.aloadN X10.here hx rfl (hb hby d8_38) rfl rfl kZ) ?_
  obtain ⟨cq11, kq11, q11a, q11b, q11c⟩ := isOf hZ heq10 OT_6.1
  obtain ⟨_, _, ⟨T11, L11, k11, n11⟩, -, X11, ⟨Lc11, hQ11, l11, y11, z11⟩, st11⟩ := X10.virtualBack hx (y := (⟨"com/example/fairgate/fairgate/processor/Trade", "qty", "()J"⟩ : MethodName)) (z := (⟨"com/example/fairgate/fairgate/processor/Trade", "qty", "()J"⟩ : MethodName)) hown (mvT hZ (hw _ (List.mem_of_getElem? (i := 85) rfl))) (mvT hZ (hw _ (List.mem_of_getElem? (i := 86) rfl))) (notFace_of_selects (args := #[]) (mvT hZ (hw _ (List.mem_of_getElem? (i := 88) rfl)))) (mvT hZ (hw _ (List.mem_of_getElem? (i := 88) rfl))) (mvT hZ (hw _ (List.mem_of_getElem? (i := 87) rfl))) (by decide) (backOf (W := 3) (rmTq l Z a0 hw [] u y h6 n0 Zs6 OT_6) hZ (hw _ (List.mem_of_getElem? (i := 89) rfl)) (hw _ (List.mem_of_getElem? (i := 44) rfl)) (by decide) (by decide)) q11a q11c (g := (mkF m 39 #[.val (.ref o), .val (.ref u)] [(.ref u), (.ref zr), (.ref zr), (.ref o)])) rfl (by rw [hml]; rfl) (Steps.refl _) (argsL := []) (rest := [(.ref zr), (.ref zr), (.ref o)]) (lenOf pd_13 rfl) rfl (by show 2 * 0 + _ ≤ _; exact Nat.le_of_eq rfl) (hb hby d8_39) (fun _ _ => ⟨rfl, heq10, (by decide : 0 + 0 ≤ _), (by decide : 0 + 0 ≤ _)⟩)
  dsimp only [Pt.U, Pt.locs, Pt.cells, Pt.slots] at X11 l11 y11 z11 st11 hQ11
  subst l11 y11 z11
  obtain ⟨rfl, N11q, heq11⟩ := hQ11
  have N11 := Fr.app N10 N11q
  refine own_by (S' := T11.setTop (mkF m 42 #[.val (.ref o), .val (.ref u)] [(.long y), (.ref zr), (.ref zr), (.ref o)])) (fun tZ kZ => st11.trans kZ) ?_
  obtain ⟨_, _, ⟨T12, L12, k12, n12⟩, -, X12, ⟨Lc12, hQ12, l12, y12, z12⟩, st12⟩ := Jvm.LawKit.callS X11 hx (y := (⟨"java/math/BigInteger", "valueOf", "(J)Ljava/math/BigInteger;"⟩ : MethodName)) hown (mvT hZ (hw _ (List.mem_of_getElem? (i := 95) rfl))) (mvT hZ (hw _ (List.mem_of_getElem? (i := 96) rfl))) (mvT hZ (hw _ (List.mem_of_getElem? (i := 23) rfl))) (mvT hZ (hw _ (List.mem_of_getElem? (i := 97) rfl))) (by decide) (backOf (W := 3) (rmVo l Z a0 hw [] y hB zr mz pa za rmo lt mir mc pk zc lc h6 n0 Zs6 EB9 WD hy) hZ (hw _ (List.mem_of_getElem? (i := 97) rfl)) (hw _ (List.mem_of_getElem? (i := 23) rfl)) (by decide) (by decide)) (g := (mkF m 42 #[.val (.ref o), .val (.ref u)] [(.long y), (.ref zr), (.ref zr), (.ref o)])) rfl (by rw [hml]; rfl) (argsL := [(.long y)]) (rest := [(.ref zr), (.ref zr), (.ref o)]) (lenOf pd_16 rfl) rfl (by show 2 * 0 + _ ≤ _; exact Nat.le_of_eq rfl) (hb hby d8_42) (fun _ _ => ⟨rfl, heq11, (by decide : 0 + 2 ≤ _), (by decide : 0 + 8 ≤ _)⟩)
  dsimp only [Pt.U, Pt.locs, Pt.cells, Pt.slots] at X12 l12 y12 z12 st12 hQ12
  subst l12 y12 z12
  obtain ⟨ry, sg, rfl, N12q, Kc12, qe12, qf12⟩ := hQ12
  have N12 := Fr.app N11 N12q
  have Zs12 := Nat.le_trans Zs6 Kc12.1
  have Ec12 := own_ext0 Kc12
  have K12 := K6.ext Ec12
  have Ex_o_12 := Ex_o_6.ext Ec12
  have F_traded_o_12 := F_traded_o_6.ext Ec12
  have F_key_o_12 := F_key_o_6.ext Ec12
  have F_edge_o_12 := F_edge_o_6.ext Ec12
  have F_qty_o_12 := F_qty_o_6.ext Ec12
  have F_remaining_o_12 := F_remaining_o_6.ext Ec12
  have F_reserved_o_12 := F_reserved_o_6.ext Ec12
  have F_cancelled_o_12 := F_cancelled_o_6.ext Ec12
  have OT_12 := OT_6.ext Ec12
  refine own_by (S' := T12.setTop (mkF m 45 #[.val (.ref o), .val (.ref u)] [(.ref ry), (.ref zr), (.ref zr), (.ref o)])) (fun tZ kZ => st12 _ kZ) ?_
  have EB13 : Ext hB T12.heap := own_eb Eb K12 (by
      intro x hx
      simp only [List.mem_cons, List.not_mem_nil, or_false] at hx
      rcases hx with rfl
      · exact Nat.le_trans hBn g_o)
  obtain ⟨cq14, kq14, q14a, q14b, q14c⟩ := isOf hZ rfl (wE.ext EB13)
  obtain ⟨_, _, ⟨T14, L14, k14, n14⟩, -, X14, ⟨Lc14, hQ14, l14, y14, z14⟩, st14⟩ := X12.virtualBack hx (y := (⟨"java/math/BigInteger", "multiply", "(Ljava/math/BigInteger;)Ljava/math/BigInteger;"⟩ : MethodName)) (z := (⟨"java/math/BigInteger", "multiply", "(Ljava/math/BigInteger;)Ljava/math/BigInteger;"⟩ : MethodName)) hown (mvT hZ (hw _ (List.mem_of_getElem? (i := 101) rfl))) (mvT hZ (hw _ (List.mem_of_getElem? (i := 102) rfl))) (notFace_of_selects (args := #[]) (mvT hZ (hw _ (List.mem_of_getElem? (i := 104) rfl)))) (mvT hZ (hw _ (List.mem_of_getElem? (i := 104) rfl))) (mvT hZ (hw _ (List.mem_of_getElem? (i := 103) rfl))) (by decide) (backOf (W := 2) (rmM1 l Z a0 hw [] ry sg hB zr mz pa za rmo lt mir mc pk zc lc T12.heap n0 Zs12 EB13 WD qf12) hZ (hw _ (List.mem_of_getElem? (i := 105) rfl)) (hw _ (List.mem_of_getElem? (i := 23) rfl)) (by decide) (by decide)) q14a q14c (g := (mkF m 45 #[.val (.ref o), .val (.ref u)] [(.ref ry), (.ref zr), (.ref zr), (.ref o)])) rfl (by rw [hml]; rfl) (Steps.refl _) (argsL := [(.ref ry)]) (rest := [(.ref zr), (.ref o)]) (lenOf pd_3 rfl) rfl (by show 2 * 0 + _ ≤ _; exact Nat.le_of_eq rfl) (hb hby d8_45) (fun _ _ => ⟨rfl, rfl, (by decide : 2 + 0 ≤ _), (by decide : 8 + 0 ≤ _)⟩)
  dsimp only [Pt.U, Pt.locs, Pt.cells, Pt.slots] at X14 l14 y14 z14 st14 hQ14
  subst l14 y14 z14
  obtain ⟨rfl, N14q, heq14⟩ := hQ14
  have N14 := Fr.app N12 N14q
  refine own_by (S' := T14.setTop (mkF m 48 #[.val (.ref o), .val (.ref u)] [(.ref zr), (.ref zr), (.ref o)])) (fun tZ kZ => st14.trans kZ) ?_
  obtain ⟨cq15, kq15, q15a, q15b, q15c⟩ := isOf hZ heq14 (wE.ext EB13)
  obtain ⟨_, _, ⟨T15, L15, k15, n15⟩, -, X15, ⟨Lc15, hQ15, l15, y15, z15⟩, st15⟩ := X14.virtualBack hx (y := (⟨"java/math/BigInteger", "add", "(Ljava/math/BigInteger;)Ljava/math/BigInteger;"⟩ : MethodName)) (z := (⟨"java/math/BigInteger", "add", "(Ljava/math/BigInteger;)Ljava/math/BigInteger;"⟩ : MethodName)) hown (mvT hZ (hw _ (List.mem_of_getElem? (i := 113) rfl))) (mvT hZ (hw _ (List.mem_of_getElem? (i := 114) rfl))) (notFace_of_selects (args := #[]) (mvT hZ (hw _ (List.mem_of_getElem? (i := 116) rfl)))) (mvT hZ (hw _ (List.mem_of_getElem? (i := 116) rfl))) (mvT hZ (hw _ (List.mem_of_getElem? (i := 115) rfl))) (by decide) (backOf (W := 1) (rmAdd l Z a0 hw [] hB zr mz pa za rmo lt mir mc pk zc lc T12.heap n0 Zs12 EB13 WD) hZ (hw _ (List.mem_of_getElem? (i := 117) rfl)) (hw _ (List.mem_of_getElem? (i := 23) rfl)) (by decide) (by decide)) q15a q15c (g := (mkF m 48 #[.val (.ref o), .val (.ref u)] [(.ref zr), (.ref zr), (.ref o)])) rfl (by rw [hml]; rfl) (Steps.refl _) (argsL := [(.ref zr)]) (rest := [(.ref o)]) (lenOf pd_3 rfl) rfl (by show 2 * 0 + _ ≤ _; exact Nat.le_of_eq rfl) (hb hby d8_48) (fun _ _ => ⟨rfl, heq14, (by decide : 2 + 0 ≤ _), (by decide : 8 + 0 ≤ _)⟩)
  dsimp only [Pt.U, Pt.locs, Pt.cells, Pt.slots] at X15 l15 y15 z15 st15 hQ15
  subst l15 y15 z15
  obtain ⟨rfl, N15q, heq15⟩ := hQ15
  have N15 := Fr.app N14 N15q
  refine own_by (S' := T15.setTop (mkF m 51 #[.val (.ref o), .val (.ref u)] [(.ref zr), (.ref o)])) (fun tZ kZ => st15.trans kZ) ?_
  obtain ⟨T16, h16, X16, e16, W16, st16⟩ := putF X15 hx hZ hown (host := "") (Or.inl (hw _ (List.mem_of_getElem? (i := 24) rfl))) Via.refl heq15 F_traded_o_12 Ex_o_12 (Or.inl (hw _ (List.mem_of_getElem? (i := 25) rfl))) (hw _ (List.mem_of_getElem? (i := 6) rfl)) (ty := (.object "java/math/BigInteger")) (by decide) rfl rfl (g := (mkF m 51 #[.val (.ref o), .val (.ref u)] [(.ref zr), (.ref o)])) rfl rfl (hb hby d8_51)
  have N16 := Fr.snoc X16 N15 g_o
  have Ex_o_16 := Ex_o_12.wr W16
  have F_traded_o_16 := F_traded_o_12.same W16
  have F_key_o_16 := F_key_o_12.other W16 (Or.inr (slot_ne (Or.inr (hw _ (List.mem_of_getElem? (i := 27) rfl))) (Or.inl (hw _ (List.mem_of_getElem? (i := 25) rfl))) (by decide) (t := (.object "com/example/fairgate/fairgate/processor/OrderKey")) (t' := (.object "java/math/BigInteger")) (by decide) (by decide)))
  have F_edge_o_16 := F_edge_o_12.other W16 (Or.inr (slot_ne (Or.inr (hw _ (List.mem_of_getElem? (i := 29) rfl))) (Or.inl (hw _ (List.mem_of_getElem? (i := 25) rfl))) (by decide) (t := (.object "com/example/fairgate/fairgate/core/EntryPoint")) (t' := (.object "java/math/BigInteger")) (by decide) (by decide)))
  have F_qty_o_16 := F_qty_o_12.other W16 (Or.inr (slot_ne (Or.inr (hw _ (List.mem_of_getElem? (i := 35) rfl))) (Or.inl (hw _ (List.mem_of_getElem? (i := 25) rfl))) (by decide) (t := .long) (t' := (.object "java/math/BigInteger")) (by decide) (by decide)))
  have F_remaining_o_16 := F_remaining_o_12.other W16 (Or.inr (slot_ne (Or.inl (hw _ (List.mem_of_getElem? (i := 41) rfl))) (Or.inl (hw _ (List.mem_of_getElem? (i := 25) rfl))) (by decide) (t := .long) (t' := (.object "java/math/BigInteger")) (by decide) (by decide)))
  have F_reserved_o_16 := F_reserved_o_12.other W16 (Or.inr (slot_ne (Or.inl (hw _ (List.mem_of_getElem? (i := 74) rfl))) (Or.inl (hw _ (List.mem_of_getElem? (i := 25) rfl))) (by decide) (t := .long) (t' := (.object "java/math/BigInteger")) (by decide) (by decide)))
  have F_cancelled_o_16 := F_cancelled_o_12.other W16 (Or.inr (slot_ne (Or.inl (hw _ (List.mem_of_getElem? (i := 72) rfl))) (Or.inl (hw _ (List.mem_of_getElem? (i := 25) rfl))) (by decide) (t := .boolean) (t' := (.object "java/math/BigInteger")) (by decide) (by decide)))
  have OT_16 := OT_12.other W16 nou
  have Zs16 : n0 ≤ h16.size := Nat.le_trans Zs12 (Keep.of_wr W16).1
  have K16 := K12.wr W16 (Or.inl (List.mem_of_getElem? (i := 0) rfl))
  refine own_by (S' := T16.setTop (mkF m 54 #[.val (.ref o), .val (.ref u)] [])) st16 ?_
  obtain ⟨T17, h17, X17, e17, E17, A17, D17, -, st17⟩ := newO X16 hx hZ hown (hw _ (List.mem_of_getElem? (i := 118) rfl)) (hw _ (List.mem_of_getElem? (i := 119) rfl)) (hw _ (List.mem_of_getElem? (i := 120) rfl)) e16 (g := (mkF m 54 #[.val (.ref o), .val (.ref u)] [])) rfl (hb hby d8_54) (by decide) (by decide)
  obtain ⟨b17, g17⟩ : ∃ z, z = h16.size := ⟨_, rfl⟩
  rw [← g17] at A17 D17 st17
  have ne_o_b17 : o ≠ b17 := Nat.ne_of_lt (Nat.lt_of_lt_of_le Ex_o_16.lt (Nat.le_of_eq g17.symm))
  have ne_u_b17 : u ≠ b17 := Nat.ne_of_lt (Nat.lt_of_lt_of_le OT_16.lt (Nat.le_of_eq g17.symm))
  have g_b17 : n0 ≤ b17 := Nat.le_trans Zs16 (Nat.le_of_eq g17.symm)
  have sz_b17 : h0.size ≤ b17 := Nat.le_trans K16.1 (Nat.le_of_eq g17.symm)
  have Ex_o_17 := Ex_o_16.ext E17
  have F_traded_o_17 := F_traded_o_16.ext E17
  have F_key_o_17 := F_key_o_16.ext E17
  have F_edge_o_17 := F_edge_o_16.ext E17
  have F_qty_o_17 := F_qty_o_16.ext E17
  have F_remaining_o_17 := F_remaining_o_16.ext E17
  have F_reserved_o_17 := F_reserved_o_16.ext E17
  have F_cancelled_o_17 := F_cancelled_o_16.ext E17
  have OT_17 := OT_16.ext E17
  have Zs17 : n0 ≤ h17.size := Nat.le_trans Zs16 E17.1
  have K17 := K16.ext E17
  have Ex_b17 := A17
  have F_trade_b17 : Fld Z h17 b17 "com/example/fairgate/fairgate/processor/Fill" "trade" "Lcom/example/fairgate/fairgate/processor/Trade;" .null := D17 (Or.inr (hw _ (List.mem_of_getElem? (i := 209) rfl))) (ty := (.object "com/example/fairgate/fairgate/processor/Trade")) (by decide)
  have F_order_b17 : Fld Z h17 b17 "com/example/fairgate/fairgate/processor/Fill" "order" "Lcom/example/fairgate/fairgate/processor/OrderKey;" .null := D17 (Or.inr (hw _ (List.mem_of_getElem? (i := 211) rfl))) (ty := (.object "com/example/fairgate/fairgate/processor/OrderKey")) (by decide)
  have F_edge_b17 : Fld Z h17 b17 "com/example/fairgate/fairgate/processor/Fill" "edge" "Lcom/example/fairgate/fairgate/core/EntryPoint;" .null := D17 (Or.inr (hw _ (List.mem_of_getElem? (i := 213) rfl))) (ty := (.object "com/example/fairgate/fairgate/core/EntryPoint")) (by decide)
  have F_cumQty_b17 : Fld Z h17 b17 "com/example/fairgate/fairgate/processor/Fill" "cumQty" "J" (.long (0 : Int64)) := D17 (Or.inr (hw _ (List.mem_of_getElem? (i := 215) rfl))) (ty := .long) (by decide)
  have F_leavesQty_b17 : Fld Z h17 b17 "com/example/fairgate/fairgate/processor/Fill" "leavesQty" "J" (.long (0 : Int64)) := D17 (Or.inr (hw _ (List.mem_of_getElem? (i := 217) rfl))) (ty := .long) (by decide)
  have F_avgPrice_b17 : Fld Z h17 b17 "com/example/fairgate/fairgate/processor/Fill" "avgPrice" "J" (.long (0 : Int64)) := D17 (Or.inr (hw _ (List.mem_of_getElem? (i := 219) rfl))) (ty := .long) (by decide)
  refine own_by (S' := T17.setTop (mkF m 57 #[.val (.ref o), .val (.ref u)] [(.ref b17)])) st17 ?_
  refine own_by (S' := T17.setTop (mkF m 58 #[.val (.ref o), .val (.ref u)] [(.ref b17), (.ref b17)])) (fun tZ kZ => XS.dup X17.here hx rfl (hb hby d8_57) rfl rfl kZ) ?_
  refine own_by (S' := T17.setTop (mkF m 59 #[.val (.ref o), .val (.ref u)] [(.ref u), (.ref b17), (.ref b17)])) (fun tZ kZ => XS.aloadN X17.here hx rfl (hb hby d8_58) rfl rfl kZ) ?_
  refine own_by (S' := T17.setTop (mkF m 60 #[.val (.ref o), .val (.ref u)] [(.ref o), (.ref u), (.ref b17), (.ref b17)])) (fun tZ kZ => XS.aloadN X17.here hx rfl (hb hby d8_59) rfl rfl kZ) ?_
  obtain ⟨T18, X18, e18, st18⟩ := getF X17 hx hZ hown (host := "") (Or.inl (hw _ (List.mem_of_getElem? (i := 26) rfl))) Via.refl e17 F_key_o_17 (g := (mkF m 60 #[.val (.ref o), .val (.ref u)] [(.ref o), (.ref u), (.ref b17), (.ref b17)])) rfl rfl (hb hby d8_60)
  refine own_by (S' := T18.setTop (mkF m 63 #[.val (.ref o), .val (.ref u)] [.null, (.ref u), (.ref b17), (.ref b17)])) st18 ?_
  refine own_by (S' := T18.setTop (mkF m 64 #[.val (.ref o), .val (.ref u)] [(.ref o), .null, (.ref u), (.ref b17), (.ref b17)])) (fun tZ kZ => XS.aloadN X18.here hx rfl (hb hby d8_63) rfl rfl kZ) ?_
  obtain ⟨T19, X19, e19, st19⟩ := getF X18 hx hZ hown (host := "") (Or.inl (hw _ (List.mem_of_getElem? (i := 28) rfl))) Via.refl e18 F_edge_o_17 (g := (mkF m 64 #[.val (.ref o), .val (.ref u)] [(.ref o), .null, (.ref u), (.ref b17), (.ref b17)])) rfl rfl (hb hby d8_64)
  refine own_by (S' := T19.setTop (mkF m 67 #[.val (.ref o), .val (.ref u)] [.null, .null, (.ref u), (.ref b17), (.ref b17)])) st19 ?_
  refine own_by (S' := T19.setTop (mkF m 68 #[.val (.ref o), .val (.ref u)] [(.ref o), .null, .null, (.ref u), (.ref b17), (.ref b17)])) (fun tZ kZ => XS.aloadN X19.here hx rfl (hb hby d8_67) rfl rfl kZ) ?_
  have OO2 : OwnO Z h17 o zr q (q - y) (res - y) 0 := ⟨Ex_o_17, F_qty_o_17, F_remaining_o_17, F_reserved_o_17, F_cancelled_o_17, F_traded_o_17, F_key_o_17, F_edge_o_17⟩
  obtain ⟨cq20, q20, q20'⟩ := OO2.1.cell
  obtain ⟨_, _, ⟨T20, L20, k20, n20⟩, -, X20, ⟨Lc20, hQ20, l20, y20, z20⟩, st20⟩ := X19.privateBack hx (y := (⟨"com/example/fairgate/fairgate/processor/Order", "cumQty", "()J"⟩ : MethodName)) hown (mvT hZ (hw _ (List.mem_of_getElem? (i := 121) rfl))) (mvT hZ (hw _ (List.mem_of_getElem? (i := 122) rfl))) (mvT hZ (own_selp (y := (⟨"com/example/fairgate/fairgate/processor/Order", "cumQty", "()J"⟩ : MethodName)) (hw _ (List.mem_of_getElem? (i := 69) rfl)) rfl (hw _ (List.mem_of_getElem? (i := 123) rfl)) (hw _ (List.mem_of_getElem? (i := 122) rfl)) (by decide))) (Cond.privateMethod_at (mvP hZ (hw _ (List.mem_of_getElem? (i := 123) rfl)) (args := #[]))) (mvT hZ (hw _ (List.mem_of_getElem? (i := 124) rfl))) (by decide) (backOf (W := 5) (rmCum l Z a0 hw [] o zr q (q - y) (res - y) 0 h17 n0 Zs17 OO2) hZ (hw _ (List.mem_of_getElem? (i := 124) rfl)) (hw _ (List.mem_of_getElem? (i := 7) rfl)) (by decide) (by decide)) (g := (mkF m 68 #[.val (.ref o), .val (.ref u)] [(.ref o), .null, .null, (.ref u), (.ref b17), (.ref b17)])) rfl (by rw [hml]; rfl) (Steps.refl _) (a := o) (by rw [e19]; exact q20) q20' (argsL := []) (rest := [.null, .null, (.ref u), (.ref b17), (.ref b17)]) (lenOf pd_13 rfl) rfl (by show 2 * 0 + _ ≤ _; exact Nat.le_of_eq rfl) (hb hby d8_68) (fun _ _ => ⟨rfl, e19, (by decide : 3 + 0 ≤ _), (by decide : 14 + 0 ≤ _)⟩)
  dsimp only [Pt.U, Pt.locs, Pt.cells, Pt.slots] at X20 l20 y20 z20 st20 hQ20
  subst l20 y20 z20
  obtain ⟨rfl, N20q, heq20⟩ := hQ20
  have N20 := Fr.app N16 N20q
  refine own_by (S' := T20.setTop (mkF m 71 #[.val (.ref o), .val (.ref u)] [(.long (q - (q - y))), .null, .null, (.ref u), (.ref b17), (.ref b17)])) (fun tZ kZ => st20.trans kZ) ?_
  refine own_by (S' := T20.setTop (mkF m 72 #[.val (.ref o), .val (.ref u)] [(.ref o), (.long (q - (q - y))), .null, .null, (.ref u), (.ref b17), (.ref b17)])) (fun tZ kZ => XS.aloadN X20.here hx rfl (hb hby d8_71) rfl rfl kZ) ?_
  obtain ⟨T21, X21, e21, st21⟩ := getF X20 hx hZ hown (host := "") (Or.inl (hw _ (List.mem_of_getElem? (i := 40) rfl))) Via.refl heq20 F_remaining_o_17 (g := (mkF m 72 #[.val (.ref o), .val (.ref u)] [(.ref o), (.long (q - (q - y))), .null, .null, (.ref u), (.ref b17), (.ref b17)])) rfl rfl (hb hby d8_72)
  refine own_by (S' := T21.setTop (mkF m 75 #[.val (.ref o), .val (.ref u)] [(.long (q - y)), (.long (q - (q - y))), .null, .null, (.ref u), (.ref b17), (.ref b17)])) st21 ?_
  refine own_by (S' := T21.setTop (mkF m 76 #[.val (.ref o), .val (.ref u)] [(.ref o), (.long (q - y)), (.long (q - (q - y))), .null, .null, (.ref u), (.ref b17), (.ref b17)])) (fun tZ kZ => XS.aloadN X21.here hx rfl (hb hby d8_75) rfl rfl kZ) ?_
  have EB22 : Ext hB h17 := own_eb Eb K17 (by
      intro x hx
      simp only [List.mem_cons, List.not_mem_nil, or_false] at hx
      rcases hx with rfl
      · exact Nat.le_trans hBn g_o)
  obtain ⟨cq23, q23, q23'⟩ := OO2.1.cell
  obtain ⟨_, _, ⟨T23, L23, k23, n23⟩, -, X23, ⟨Lc23, hQ23, l23, y23, z23⟩, st23⟩ := X21.privateBack hx (y := (⟨"com/example/fairgate/fairgate/processor/Order", "avgPrice", "()J"⟩ : MethodName)) hown (mvT hZ (hw _ (List.mem_of_getElem? (i := 125) rfl))) (mvT hZ (hw _ (List.mem_of_getElem? (i := 126) rfl))) (mvT hZ (own_selp (y := (⟨"com/example/fairgate/fairgate/processor/Order", "avgPrice", "()J"⟩ : MethodName)) (hw _ (List.mem_of_getElem? (i := 69) rfl)) rfl (hw _ (List.mem_of_getElem? (i := 127) rfl)) (hw _ (List.mem_of_getElem? (i := 126) rfl)) (by decide))) (Cond.privateMethod_at (mvP hZ (hw _ (List.mem_of_getElem? (i := 127) rfl)) (args := #[]))) (mvT hZ (hw _ (List.mem_of_getElem? (i := 128) rfl))) (by decide) (backOf (W := 9) (rmAvg l Z a0 hw [] o q (q - y) (res - y) 0 hB zr mz pa za rmo lt mir mc pk zc lc h17 n0 Zs17 EB22 WD hBn OO2 (by rw [own_cum]; exact hy)) hZ (hw _ (List.mem_of_getElem? (i := 128) rfl)) (hw _ (List.mem_of_getElem? (i := 7) rfl)) (by decide) (by decide)) (g := (mkF m 76 #[.val (.ref o), .val (.ref u)] [(.ref o), (.long (q - y)), (.long (q - (q - y))), .null, .null, (.ref u), (.ref b17), (.ref b17)])) rfl (by rw [hml]; rfl) (Steps.refl _) (a := o) (by rw [e21]; exact q23) q23' (argsL := []) (rest := [(.long (q - y)), (.long (q - (q - y))), .null, .null, (.ref u), (.ref b17), (.ref b17)]) (lenOf pd_13 rfl) rfl (by show 2 * 0 + _ ≤ _; exact Nat.le_of_eq rfl) (hb hby d8_76) (fun _ _ => ⟨rfl, e21, (by decide : 3 + 3 ≤ _), (by decide : 14 + 15 ≤ _)⟩)
  dsimp only [Pt.U, Pt.locs, Pt.cells, Pt.slots] at X23 l23 y23 z23 st23 hQ23
  subst l23 y23 z23
  obtain ⟨av, rfl, N23q, Kc23⟩ := hQ23
  have N23 := Fr.app N20 N23q
  have Zs23 := Nat.le_trans Zs17 Kc23.1
  have Ec23 := own_ext0 Kc23
  have K23 := K17.ext Ec23
  have Ex_o_23 := Ex_o_17.ext Ec23
  have F_traded_o_23 := F_traded_o_17.ext Ec23
  have F_key_o_23 := F_key_o_17.ext Ec23
  have F_edge_o_23 := F_edge_o_17.ext Ec23
  have F_qty_o_23 := F_qty_o_17.ext Ec23
  have F_remaining_o_23 := F_remaining_o_17.ext Ec23
  have F_reserved_o_23 := F_reserved_o_17.ext Ec23
  have F_cancelled_o_23 := F_cancelled_o_17.ext Ec23
  have OT_23 := OT_17.ext Ec23
  have Ex_b17_23 := Ex_b17.ext Ec23
  have F_trade_b17_23 := F_trade_b17.ext Ec23
  have F_order_b17_23 := F_order_b17.ext Ec23
  have F_edge_b17_23 := F_edge_b17.ext Ec23
  have F_cumQty_b17_23 := F_cumQty_b17.ext Ec23
  have F_leavesQty_b17_23 := F_leavesQty_b17.ext Ec23
  have F_avgPrice_b17_23 := F_avgPrice_b17.ext Ec23
  refine own_by (S' := T23.setTop (mkF m 79 #[.val (.ref o), .val (.ref u)] [(.long av), (.long (q - y)), (.long (q - (q - y))), .null, .null, (.ref u), (.ref b17), (.ref b17)])) (fun tZ kZ => st23.trans kZ) ?_
  obtain ⟨_, _, ⟨T24, L24, k24, n24⟩, -, X24, ⟨Lc24, hQ24, l24, y24, z24⟩, st24⟩ := X23.specialBack hx (y := (⟨"com/example/fairgate/fairgate/processor/Fill", "<init>", "(Lcom/example/fairgate/fairgate/processor/Trade;Lcom/example/fairgate/fairgate/processor/OrderKey;Lcom/example/fairgate/fairgate/core/EntryPoint;JJJ)V"⟩ : MethodName)) rfl hown (mvT hZ (hw _ (List.mem_of_getElem? (i := 204) rfl))) (mvT hZ (hw _ (List.mem_of_getElem? (i := 205) rfl))) (mvT hZ (hw _ (List.mem_of_getElem? (i := 206) rfl))) (by decide) (backOf (W := 1) (rmFI l Z a0 hw [] b17 u _ _ _ T23.heap n0 Zs23 Ex_b17_23 F_trade_b17_23 F_order_b17_23 F_edge_b17_23 F_cumQty_b17_23 F_leavesQty_b17_23 F_avgPrice_b17_23 g_b17) hZ (hw _ (List.mem_of_getElem? (i := 206) rfl)) (hw _ (List.mem_of_getElem? (i := 120) rfl)) (by decide) (by decide)) (g := (mkF m 79 #[.val (.ref o), .val (.ref u)] [(.long av), (.long (q - y)), (.long (q - (q - y))), .null, .null, (.ref u), (.ref b17), (.ref b17)])) rfl (by rw [hml]; rfl) (Steps.refl _) (a := b17) (argsL := [(.ref u), .null, .null, (.long (q - (q - y))), (.long (q - y)), (.long av)]) (rest := [(.ref b17)]) (lenOf pd_17 rfl) rfl (by show 2 * 0 + _ ≤ _; exact Nat.le_of_eq rfl) (hb hby d8_79) (fun _ _ => ⟨rfl, rfl, (by decide : 6 + 0 ≤ _), (by decide : 29 + 0 ≤ _)⟩)
  dsimp only [Pt.U, Pt.locs, Pt.cells, Pt.slots] at X24 l24 y24 z24 st24 hQ24
  subst l24 y24 z24
  obtain ⟨rfl, N24q, Kc24⟩ := hQ24
  have N24 := Fr.app N23 N24q
  have Zs24 := Nat.le_trans Zs23 Kc24.1
  have K24 := K23.trans Kc24 (fun x hx => by
      simp only [List.mem_cons, List.not_mem_nil, or_false] at hx
      rcases hx with rfl
      · exact Or.inr sz_b17)
  have Ex_o_24 := Ex_o_23.keep Kc24
  have F_traded_o_24 := F_traded_o_23.keep Kc24 (by
      simp only [List.mem_cons, List.not_mem_nil, or_false, not_or]
      exact ne_o_b17)
  have F_key_o_24 := F_key_o_23.keep Kc24 (by
      simp only [List.mem_cons, List.not_mem_nil, or_false, not_or]
      exact ne_o_b17)
  have F_edge_o_24 := F_edge_o_23.keep Kc24 (by
      simp only [List.mem_cons, List.not_mem_nil, or_false, not_or]
      exact ne_o_b17)
  have F_qty_o_24 := F_qty_o_23.keep Kc24 (by
      simp only [List.mem_cons, List.not_mem_nil, or_false, not_or]
      exact ne_o_b17)
  have F_remaining_o_24 := F_remaining_o_23.keep Kc24 (by
      simp only [List.mem_cons, List.not_mem_nil, or_false, not_or]
      exact ne_o_b17)
  have F_reserved_o_24 := F_reserved_o_23.keep Kc24 (by
      simp only [List.mem_cons, List.not_mem_nil, or_false, not_or]
      exact ne_o_b17)
  have F_cancelled_o_24 := F_cancelled_o_23.keep Kc24 (by
      simp only [List.mem_cons, List.not_mem_nil, or_false, not_or]
      exact ne_o_b17)
  have OT_24 := OT_23.keep Kc24 (by
      simp only [List.mem_cons, List.not_mem_nil, or_false, not_or]
      exact ne_u_b17)
  have Ex_b17_24 := Ex_b17_23.keep Kc24
  refine own_by (S' := T24.setTop (mkF m 82 #[.val (.ref o), .val (.ref u)] [(.ref b17)])) (fun tZ kZ => st24.trans kZ) ?_
  exact own_retA X24 hx Bd.returns rfl rfl (hb hby d8_82) Bd.notSynchronized (by decide) (by decide) ⟨b17, rfl, N24, K24, ⟨Ex_o_24, F_qty_o_24, F_remaining_o_24, F_reserved_o_24, F_cancelled_o_24, F_traded_o_24, F_key_o_24, F_edge_o_24⟩⟩
def Q0 (h0 : Heap) (n0 : Nat) (v : Option Value) (h : Heap) (L : List Loc) : Prop := v = some (.int 1) ∧ Fr n0 L
theorem pn_7 : plainName "com/example/fairgate/fairgate/processor/OrderAvailablePinLaw" = true := by first | (simp [plainName, overriddenIn]; done) | decide +kernel
theorem ef_rm0 (m : MethodId) (p1 : Int64) (p2 : Int64) (p3 : Int64) (p4 : Int64) (p5 : Int32) : entryFrame m #[(.long p1), (.long p2), (.long p3), (.long p4), (.int p5)] maxLocals = mkF m 0 #[.val (.long p1), .second, .val (.long p2), .second, .val (.long p3), .second, .val (.long p4), .second, .val (.int p5), .unset, .unset, .unset, .unset, .unset, .unset, .unset, .unset, .unset, .unset, .unset, .unset, .unset, .unset, .unset, .unset, .unset, .unset, .unset, .unset, .unset, .unset, .unset, .unset, .unset, .unset, .unset, .unset] [] := by first | (simp [entryFrame, mkF, argsToLocals, Value.category, maxLocals]; done) | rfl
set_option maxRecDepth 65536 in
set_option maxHeartbeats 40000000 in
theorem rm0 (l : Launch) (Z : State) (a0 : Array Value) (hw : ∀ d ∈ tables_1, d.before a0 Z = true) (ws : List Jvm.Cond) (p1 p2 p3 p4 : Int64) (p5 : Int32) (hB : Heap) (zr mz pa za rmo lt mir : Addr) (mc pk zc lc : Cell) (h0 : Heap) (n0 : Nat) (Z0 : n0 ≤ h0.size) (Eb : Ext hB h0) (WD : OwnWd Z a0 hB zr mz pa za rmo lt mir mc pk zc lc) (hBn : hB.size ≤ n0) :
    MetFree l x (head1 (Jvm.Cond.code x code maxLocals ret :: ws) room_1) (fun aZ UZ => aZ = #[(.long p1), (.long p2), (.long p3), (.long p4), (.int p5)] ∧ Z.Warmed39 UZ.vm ∧ UZ.heap = h0) (fun _ _ _ _ _ => True) (fun _ UZ oZ VZ => ∃ vZ LZ, oZ = .returned vZ ∧ (Q0  h0 n0) vZ VZ.heap LZ ∧ ReturnedEndW UZ oZ VZ LZ room_1.cells room_1.slots) := by
  refine MetFree.of_bodySF (plainFor_of_name pn_7) hisR ?_
  intro p e s m args below meth c s₁ Bd hml0 hP hK
  obtain ⟨rfl, hZ, hh⟩ := hP
  have hx := Bd.exec
  have hby := Bd.bytes
  have hml : c.maxLocals = 37 := hml0
  have hown : s.vm.findClass "com/example/fairgate/fairgate/processor/OrderAvailablePinLaw" = some m.cls := findClass_of_methodNamed Bd.named
  have hnm := (name_of_methodNamed Bd.named Bd.method).1
  have X0 : Stand p l e room_1 (s.setVm s.vm) m #[(.long p1), (.long p2), (.long p3), (.long p4), (.int p5)] below meth c s₁ [] 0 0 := Stand.of_body Bd
  have e0 : s₁.heap = h0 := by rw [← hh, Bd.state]; rfl
  have N0 := Fr.nil n0
  show OwnG p e below (OwnEW s (Q0  h0 n0) room_1.cells room_1.slots) _
  refine own_by (S' := s₁.setTop (mkF m 0 #[.val (.long p1), .second, .val (.long p2), .second, .val (.long p3), .second, .val (.long p4), .second, .val (.int p5), .unset, .unset, .unset, .unset, .unset, .unset, .unset, .unset, .unset, .unset, .unset, .unset, .unset, .unset, .unset, .unset, .unset, .unset, .unset, .unset, .unset, .unset, .unset, .unset, .unset, .unset, .unset, .unset] [])) (fun tZ kZ => castTop (ef_rm0 m p1 p2 p3 p4 p5) kZ) ?_
  have hS0 : s.Since s.vm 0 := State.WarmedH.since (State.WarmedH.refl s) 0
  have hk0 : 0 ≤ h0.size := Nat.zero_le _
  have hZ0 : Z.Warmed39 (s.setVm s.vm).vm := hZ
  have hown0 : (s.setVm s.vm).vm.findClass "com/example/fairgate/fairgate/processor/OrderAvailablePinLaw" = some m.cls := hown
  refine own_by (S' := s₁.setTop (mkF m 1 #[.val (.long p1), .second, .val (.long p2), .second, .val (.long p3), .second, .val (.long p4), .second, .val (.int p5), .unset, .unset, .unset, .unset, .unset, .unset, .unset, .unset, .unset, .unset, .unset, .unset, .unset, .unset, .unset, .unset, .unset, .unset, .unset, .unset, .unset, .unset, .unset, .unset, .unset, .unset, .unset, .unset] [(.long (1 : Int64))])) (fun tZ kZ => XS.lconst X0.here hx rfl (hb hby at_0) kZ) ?_
  refine own_by (S' := s₁.setTop (mkF m 2 #[.val (.long p1), .second, .val (.long p2), .second, .val (.long p3), .second, .val (.long p4), .second, .val (.int p5), .unset, .unset, .unset, .unset, .unset, .unset, .unset, .unset, .unset, .unset, .unset, .unset, .unset, .unset, .unset, .unset, .unset, .unset, .unset, .unset, .unset, .unset, .unset, .unset, .unset, .unset, .unset, .unset] [(.long p1), (.long (1 : Int64))])) (fun tZ kZ => XS.lloadN X0.here hx rfl (hb hby at_1) rfl kZ) ?_
  refine own_by (S' := s₁.setTop (mkF m 5 #[.val (.long p1), .second, .val (.long p2), .second, .val (.long p3), .second, .val (.long p4), .second, .val (.int p5), .unset, .unset, .unset, .unset, .unset, .unset, .unset, .unset, .unset, .unset, .unset, .unset, .unset, .unset, .unset, .unset, .unset, .unset, .unset, .unset, .unset, .unset, .unset, .unset, .unset, .unset, .unset, .unset] [(.long (9223372036854775807 : Int64)), (.long p1), (.long (1 : Int64))])) (fun tZ kZ => X0.ldc2Long hx hown0 (mvT hZ0 (hw _ (List.mem_of_getElem? (i := 0) rfl))) (g := (mkF m 2 #[.val (.long p1), .second, .val (.long p2), .second, .val (.long p3), .second, .val (.long p4), .second, .val (.int p5), .unset, .unset, .unset, .unset, .unset, .unset, .unset, .unset, .unset, .unset, .unset, .unset, .unset, .unset, .unset, .unset, .unset, .unset, .unset, .unset, .unset, .unset, .unset, .unset, .unset, .unset, .unset, .unset] [(.long p1), (.long (1 : Int64))])) rfl (hb hby at_2) _ kZ) ?_
  refine own_by (S' := s₁.setTop (mkF m 6 #[.val (.long p1), .second, .val (.long p2), .second, .val (.long p3), .second, .val (.long p4), .second, .val (.int p5), .unset, .unset, .unset, .unset, .unset, .unset, .unset, .unset, .unset, .unset, .unset, .unset, .unset, .unset, .unset, .unset, .unset, .unset, .unset, .unset, .unset, .unset, .unset, .unset, .unset, .unset, .unset, .unset] [(.long (p1 &&& (9223372036854775807 : Int64))), (.long (1 : Int64))])) (fun tZ kZ => XS.land X0.here hx rfl (hb hby at_5) rfl kZ) ?_
  obtain ⟨_, _, ⟨T1, L1, k1, n1⟩, -, X1, ⟨Lc1, hQ1, l1, y1, z1⟩, st1⟩ := Jvm.LawKit.callS X0 hx (y := (⟨"java/lang/Math", "max", "(JJ)J"⟩ : MethodName)) hown0 (mvT hZ0 (hw _ (List.mem_of_getElem? (i := 1) rfl))) (mvT hZ0 (hw _ (List.mem_of_getElem? (i := 2) rfl))) (mvT hZ0 (hw _ (List.mem_of_getElem? (i := 3) rfl))) (mvT hZ0 (hw _ (List.mem_of_getElem? (i := 4) rfl))) (by decide) (backOf (W := 0) (rmMax l Z a0 hw [] _ _ h0 n0 Z0) hZ0 (hw _ (List.mem_of_getElem? (i := 4) rfl)) (hw _ (List.mem_of_getElem? (i := 3) rfl)) (by decide) (by decide)) (g := (mkF m 6 #[.val (.long p1), .second, .val (.long p2), .second, .val (.long p3), .second, .val (.long p4), .second, .val (.int p5), .unset, .unset, .unset, .unset, .unset, .unset, .unset, .unset, .unset, .unset, .unset, .unset, .unset, .unset, .unset, .unset, .unset, .unset, .unset, .unset, .unset, .unset, .unset, .unset, .unset, .unset, .unset, .unset] [(.long (p1 &&& (9223372036854775807 : Int64))), (.long (1 : Int64))])) rfl (by rw [hml]; rfl) (argsL := [(.long (1 : Int64)), (.long (p1 &&& (9223372036854775807 : Int64)))]) (rest := []) (lenOf pd_18 rfl) rfl (by show 2 * 0 + _ ≤ _; exact Nat.le_of_eq rfl) (hb hby at_6) (fun _ _ => ⟨rfl, e0, (by decide : 0 + 0 ≤ _), (by decide : 0 + 0 ≤ _)⟩)
  dsimp only [Pt.U, Pt.locs, Pt.cells, Pt.slots] at X1 l1 y1 z1 st1 hQ1
  subst l1 y1 z1
  obtain ⟨rfl, N1q, heq1⟩ := hQ1
  have N1 := Fr.app N0 N1q
  refine own_by (S' := T1.setTop (mkF m 9 #[.val (.long p1), .second, .val (.long p2), .second, .val (.long p3), .second, .val (.long p4), .second, .val (.int p5), .unset, .unset, .unset, .unset, .unset, .unset, .unset, .unset, .unset, .unset, .unset, .unset, .unset, .unset, .unset, .unset, .unset, .unset, .unset, .unset, .unset, .unset, .unset, .unset, .unset, .unset, .unset, .unset] [(.long (if lcmpW (1 : Int64) (p1 &&& (9223372036854775807 : Int64)) < 0 then (p1 &&& (9223372036854775807 : Int64)) else (1 : Int64)))])) (fun tZ kZ => st1 _ kZ) ?_
  have hmx := own_mx (q := p1)
  obtain ⟨qv, hqv⟩ : ∃ z : Int64, z = (if lcmpW (1 : Int64) (p1 &&& (9223372036854775807 : Int64)) < 0 then (p1 &&& (9223372036854775807 : Int64)) else (1 : Int64)) := ⟨_, rfl⟩
  rw [← hqv]
  rw [← hqv] at hmx
  refine own_by (S' := T1.setTop (mkF m 11 #[.val (.long p1), .second, .val (.long p2), .second, .val (.long p3), .second, .val (.long p4), .second, .val (.int p5), .val (.long qv), .second, .unset, .unset, .unset, .unset, .unset, .unset, .unset, .unset, .unset, .unset, .unset, .unset, .unset, .unset, .unset, .unset, .unset, .unset, .unset, .unset, .unset, .unset, .unset, .unset, .unset, .unset] [])) (fun tZ kZ => XS.lstore X1.here hx rfl (hb hby at_9) rfl (l' := #[.val (.long p1), .second, .val (.long p2), .second, .val (.long p3), .second, .val (.long p4), .second, .val (.int p5), .val (.long qv), .second, .unset, .unset, .unset, .unset, .unset, .unset, .unset, .unset, .unset, .unset, .unset, .unset, .unset, .unset, .unset, .unset, .unset, .unset, .unset, .unset, .unset, .unset, .unset, .unset, .unset, .unset]) rfl kZ) ?_
  refine own_by (S' := T1.setTop (mkF m 13 #[.val (.long p1), .second, .val (.long p2), .second, .val (.long p3), .second, .val (.long p4), .second, .val (.int p5), .val (.long qv), .second, .unset, .unset, .unset, .unset, .unset, .unset, .unset, .unset, .unset, .unset, .unset, .unset, .unset, .unset, .unset, .unset, .unset, .unset, .unset, .unset, .unset, .unset, .unset, .unset, .unset, .unset] [(.int p5)])) (fun tZ kZ => XS.iload X1.here hx rfl (hb hby at_11) rfl kZ) ?_
  refine own_by (S' := T1.setTop (mkF m 14 #[.val (.long p1), .second, .val (.long p2), .second, .val (.long p3), .second, .val (.long p4), .second, .val (.int p5), .val (.long qv), .second, .unset, .unset, .unset, .unset, .unset, .unset, .unset, .unset, .unset, .unset, .unset, .unset, .unset, .unset, .unset, .unset, .unset, .unset, .unset, .unset, .unset, .unset, .unset, .unset, .unset, .unset] [(.int (2 : Int32)), (.int p5)])) (fun tZ kZ => XS.iconst X1.here hx rfl (hb hby at_13) kZ) ?_
  refine own_by (S' := T1.setTop (mkF m 15 #[.val (.long p1), .second, .val (.long p2), .second, .val (.long p3), .second, .val (.long p4), .second, .val (.int p5), .val (.long qv), .second, .unset, .unset, .unset, .unset, .unset, .unset, .unset, .unset, .unset, .unset, .unset, .unset, .unset, .unset, .unset, .unset, .unset, .unset, .unset, .unset, .unset, .unset, .unset, .unset, .unset, .unset] [(.int (p5 &&& (2 : Int32)))])) (fun tZ kZ => XS.iand X1.here hx rfl (hb hby at_14) rfl kZ) ?_
  have J31 : ∀ (rs : Int64) (hrs : 0 ≤ rs.toInt), OwnG p e below (OwnEW s (Q0  h0 n0) room_1.cells room_1.slots) (T1.setTop (mkF m 31 #[.val (.long p1), .second, .val (.long p2), .second, .val (.long p3), .second, .val (.long p4), .second, .val (.int p5), .val (.long qv), .second, .unset, .unset, .unset, .unset, .unset, .unset, .unset, .unset, .unset, .unset, .unset, .unset, .unset, .unset, .unset, .unset, .unset, .unset, .unset, .unset, .unset, .unset, .unset, .unset, .unset, .unset] [(.long rs)])) := by
    intro rs hrs
    refine own_by (S' := T1.setTop (mkF m 33 #[.val (.long p1), .second, .val (.long p2), .second, .val (.long p3), .second, .val (.long p4), .second, .val (.int p5), .val (.long qv), .second, .val (.long rs), .second, .unset, .unset, .unset, .unset, .unset, .unset, .unset, .unset, .unset, .unset, .unset, .unset, .unset, .unset, .unset, .unset, .unset, .unset, .unset, .unset, .unset, .unset, .unset, .unset] [])) (fun tZ kZ => XS.lstore X1.here hx rfl (hb hby at_31) rfl (l' := #[.val (.long p1), .second, .val (.long p2), .second, .val (.long p3), .second, .val (.long p4), .second, .val (.int p5), .val (.long qv), .second, .val (.long rs), .second, .unset, .unset, .unset, .unset, .unset, .unset, .unset, .unset, .unset, .unset, .unset, .unset, .unset, .unset, .unset, .unset, .unset, .unset, .unset, .unset, .unset, .unset, .unset, .unset]) rfl kZ) ?_
    refine own_by (S' := T1.setTop (mkF m 35 #[.val (.long p1), .second, .val (.long p2), .second, .val (.long p3), .second, .val (.long p4), .second, .val (.int p5), .val (.long qv), .second, .val (.long rs), .second, .unset, .unset, .unset, .unset, .unset, .unset, .unset, .unset, .unset, .unset, .unset, .unset, .unset, .unset, .unset, .unset, .unset, .unset, .unset, .unset, .unset, .unset, .unset, .unset] [(.int p5)])) (fun tZ kZ => XS.iload X1.here hx rfl (hb hby at_33) rfl kZ) ?_
    refine own_by (S' := T1.setTop (mkF m 36 #[.val (.long p1), .second, .val (.long p2), .second, .val (.long p3), .second, .val (.long p4), .second, .val (.int p5), .val (.long qv), .second, .val (.long rs), .second, .unset, .unset, .unset, .unset, .unset, .unset, .unset, .unset, .unset, .unset, .unset, .unset, .unset, .unset, .unset, .unset, .unset, .unset, .unset, .unset, .unset, .unset, .unset, .unset] [(.int (4 : Int32)), (.int p5)])) (fun tZ kZ => XS.iconst X1.here hx rfl (hb hby at_35) kZ) ?_
    refine own_by (S' := T1.setTop (mkF m 37 #[.val (.long p1), .second, .val (.long p2), .second, .val (.long p3), .second, .val (.long p4), .second, .val (.int p5), .val (.long qv), .second, .val (.long rs), .second, .unset, .unset, .unset, .unset, .unset, .unset, .unset, .unset, .unset, .unset, .unset, .unset, .unset, .unset, .unset, .unset, .unset, .unset, .unset, .unset, .unset, .unset, .unset, .unset] [(.int (p5 &&& (4 : Int32)))])) (fun tZ kZ => XS.iand X1.here hx rfl (hb hby at_36) rfl kZ) ?_
    have J65 : ∀ (fq : Int64) (hfq : 0 ≤ fq.toInt), OwnG p e below (OwnEW s (Q0  h0 n0) room_1.cells room_1.slots) (T1.setTop (mkF m 65 #[.val (.long p1), .second, .val (.long p2), .second, .val (.long p3), .second, .val (.long p4), .second, .val (.int p5), .val (.long qv), .second, .val (.long rs), .second, .unset, .unset, .unset, .unset, .unset, .unset, .unset, .unset, .unset, .unset, .unset, .unset, .unset, .unset, .unset, .unset, .unset, .unset, .unset, .unset, .unset, .unset, .unset, .unset] [(.long fq)])) := by
      intro fq hfq
      refine own_by (S' := T1.setTop (mkF m 67 #[.val (.long p1), .second, .val (.long p2), .second, .val (.long p3), .second, .val (.long p4), .second, .val (.int p5), .val (.long qv), .second, .val (.long rs), .second, .val (.long fq), .second, .unset, .unset, .unset, .unset, .unset, .unset, .unset, .unset, .unset, .unset, .unset, .unset, .unset, .unset, .unset, .unset, .unset, .unset, .unset, .unset, .unset, .unset] [])) (fun tZ kZ => XS.lstore X1.here hx rfl (hb hby at_65) rfl (l' := #[.val (.long p1), .second, .val (.long p2), .second, .val (.long p3), .second, .val (.long p4), .second, .val (.int p5), .val (.long qv), .second, .val (.long rs), .second, .val (.long fq), .second, .unset, .unset, .unset, .unset, .unset, .unset, .unset, .unset, .unset, .unset, .unset, .unset, .unset, .unset, .unset, .unset, .unset, .unset, .unset, .unset, .unset, .unset]) rfl kZ) ?_
      refine own_by (S' := T1.setTop (mkF m 69 #[.val (.long p1), .second, .val (.long p2), .second, .val (.long p3), .second, .val (.long p4), .second, .val (.int p5), .val (.long qv), .second, .val (.long rs), .second, .val (.long fq), .second, .unset, .unset, .unset, .unset, .unset, .unset, .unset, .unset, .unset, .unset, .unset, .unset, .unset, .unset, .unset, .unset, .unset, .unset, .unset, .unset, .unset, .unset] [(.long rs)])) (fun tZ kZ => XS.lload X1.here hx rfl (hb hby at_67) rfl kZ) ?_
      refine own_by (S' := T1.setTop (mkF m 71 #[.val (.long p1), .second, .val (.long p2), .second, .val (.long p3), .second, .val (.long p4), .second, .val (.int p5), .val (.long qv), .second, .val (.long rs), .second, .val (.long fq), .second, .unset, .unset, .unset, .unset, .unset, .unset, .unset, .unset, .unset, .unset, .unset, .unset, .unset, .unset, .unset, .unset, .unset, .unset, .unset, .unset, .unset, .unset] [(.long fq), (.long rs)])) (fun tZ kZ => XS.lload X1.here hx rfl (hb hby at_69) rfl kZ) ?_
      refine own_by (S' := T1.setTop (mkF m 72 #[.val (.long p1), .second, .val (.long p2), .second, .val (.long p3), .second, .val (.long p4), .second, .val (.int p5), .val (.long qv), .second, .val (.long rs), .second, .val (.long fq), .second, .unset, .unset, .unset, .unset, .unset, .unset, .unset, .unset, .unset, .unset, .unset, .unset, .unset, .unset, .unset, .unset, .unset, .unset, .unset, .unset, .unset, .unset] [(.long (rs - fq))])) (fun tZ kZ => XS.lsub X1.here hx rfl (hb hby at_71) rfl kZ) ?_
      obtain ⟨lf, hlf⟩ : ∃ z : Int64, z = (rs - fq) := ⟨_, rfl⟩
      rw [← hlf]
      refine own_by (S' := T1.setTop (mkF m 74 #[.val (.long p1), .second, .val (.long p2), .second, .val (.long p3), .second, .val (.long p4), .second, .val (.int p5), .val (.long qv), .second, .val (.long rs), .second, .val (.long fq), .second, .val (.long lf), .second, .unset, .unset, .unset, .unset, .unset, .unset, .unset, .unset, .unset, .unset, .unset, .unset, .unset, .unset, .unset, .unset, .unset, .unset, .unset, .unset] [])) (fun tZ kZ => XS.lstore X1.here hx rfl (hb hby at_72) rfl (l' := #[.val (.long p1), .second, .val (.long p2), .second, .val (.long p3), .second, .val (.long p4), .second, .val (.int p5), .val (.long qv), .second, .val (.long rs), .second, .val (.long fq), .second, .val (.long lf), .second, .unset, .unset, .unset, .unset, .unset, .unset, .unset, .unset, .unset, .unset, .unset, .unset, .unset, .unset, .unset, .unset, .unset, .unset, .unset, .unset]) rfl kZ) ?_
      refine own_by (S' := T1.setTop (mkF m 76 #[.val (.long p1), .second, .val (.long p2), .second, .val (.long p3), .second, .val (.long p4), .second, .val (.int p5), .val (.long qv), .second, .val (.long rs), .second, .val (.long fq), .second, .val (.long lf), .second, .unset, .unset, .unset, .unset, .unset, .unset, .unset, .unset, .unset, .unset, .unset, .unset, .unset, .unset, .unset, .unset, .unset, .unset, .unset, .unset] [(.int p5)])) (fun tZ kZ => XS.iload X1.here hx rfl (hb hby at_74) rfl kZ) ?_
      refine own_by (S' := T1.setTop (mkF m 78 #[.val (.long p1), .second, .val (.long p2), .second, .val (.long p3), .second, .val (.long p4), .second, .val (.int p5), .val (.long qv), .second, .val (.long rs), .second, .val (.long fq), .second, .val (.long lf), .second, .unset, .unset, .unset, .unset, .unset, .unset, .unset, .unset, .unset, .unset, .unset, .unset, .unset, .unset, .unset, .unset, .unset, .unset, .unset, .unset] [(.int (8 : Int32)), (.int p5)])) (fun tZ kZ => XS.bipush X1.here hx rfl (hb hby at_76) kZ) ?_
      refine own_by (S' := T1.setTop (mkF m 79 #[.val (.long p1), .second, .val (.long p2), .second, .val (.long p3), .second, .val (.long p4), .second, .val (.int p5), .val (.long qv), .second, .val (.long rs), .second, .val (.long fq), .second, .val (.long lf), .second, .unset, .unset, .unset, .unset, .unset, .unset, .unset, .unset, .unset, .unset, .unset, .unset, .unset, .unset, .unset, .unset, .unset, .unset, .unset, .unset] [(.int (p5 &&& (8 : Int32)))])) (fun tZ kZ => XS.iand X1.here hx rfl (hb hby at_78) rfl kZ) ?_
      have J107 : ∀ (fr : Int64), OwnG p e below (OwnEW s (Q0  h0 n0) room_1.cells room_1.slots) (T1.setTop (mkF m 107 #[.val (.long p1), .second, .val (.long p2), .second, .val (.long p3), .second, .val (.long p4), .second, .val (.int p5), .val (.long qv), .second, .val (.long rs), .second, .val (.long fq), .second, .val (.long lf), .second, .unset, .unset, .unset, .unset, .unset, .unset, .unset, .unset, .unset, .unset, .unset, .unset, .unset, .unset, .unset, .unset, .unset, .unset, .unset, .unset] [(.long fr)])) := by
        intro fr
        refine own_by (S' := T1.setTop (mkF m 109 #[.val (.long p1), .second, .val (.long p2), .second, .val (.long p3), .second, .val (.long p4), .second, .val (.int p5), .val (.long qv), .second, .val (.long rs), .second, .val (.long fq), .second, .val (.long lf), .second, .val (.long fr), .second, .unset, .unset, .unset, .unset, .unset, .unset, .unset, .unset, .unset, .unset, .unset, .unset, .unset, .unset, .unset, .unset, .unset, .unset] [])) (fun tZ kZ => XS.lstore X1.here hx rfl (hb hby at_107) rfl (l' := #[.val (.long p1), .second, .val (.long p2), .second, .val (.long p3), .second, .val (.long p4), .second, .val (.int p5), .val (.long qv), .second, .val (.long rs), .second, .val (.long fq), .second, .val (.long lf), .second, .val (.long fr), .second, .unset, .unset, .unset, .unset, .unset, .unset, .unset, .unset, .unset, .unset, .unset, .unset, .unset, .unset, .unset, .unset, .unset, .unset]) rfl kZ) ?_
        refine own_by (S' := T1.setTop (mkF m 111 #[.val (.long p1), .second, .val (.long p2), .second, .val (.long p3), .second, .val (.long p4), .second, .val (.int p5), .val (.long qv), .second, .val (.long rs), .second, .val (.long fq), .second, .val (.long lf), .second, .val (.long fr), .second, .unset, .unset, .unset, .unset, .unset, .unset, .unset, .unset, .unset, .unset, .unset, .unset, .unset, .unset, .unset, .unset, .unset, .unset] [(.int p5)])) (fun tZ kZ => XS.iload X1.here hx rfl (hb hby at_109) rfl kZ) ?_
        refine own_by (S' := T1.setTop (mkF m 113 #[.val (.long p1), .second, .val (.long p2), .second, .val (.long p3), .second, .val (.long p4), .second, .val (.int p5), .val (.long qv), .second, .val (.long rs), .second, .val (.long fq), .second, .val (.long lf), .second, .val (.long fr), .second, .unset, .unset, .unset, .unset, .unset, .unset, .unset, .unset, .unset, .unset, .unset, .unset, .unset, .unset, .unset, .unset, .unset, .unset] [(.int (16 : Int32)), (.int p5)])) (fun tZ kZ => XS.bipush X1.here hx rfl (hb hby at_111) kZ) ?_
        refine own_by (S' := T1.setTop (mkF m 114 #[.val (.long p1), .second, .val (.long p2), .second, .val (.long p3), .second, .val (.long p4), .second, .val (.int p5), .val (.long qv), .second, .val (.long rs), .second, .val (.long fq), .second, .val (.long lf), .second, .val (.long fr), .second, .unset, .unset, .unset, .unset, .unset, .unset, .unset, .unset, .unset, .unset, .unset, .unset, .unset, .unset, .unset, .unset, .unset, .unset] [(.int (p5 &&& (16 : Int32)))])) (fun tZ kZ => XS.iand X1.here hx rfl (hb hby at_113) rfl kZ) ?_
        have J122 : ∀ (io : Int32) (hio : io = 0 ∨ io = 1), OwnG p e below (OwnEW s (Q0  h0 n0) room_1.cells room_1.slots) (T1.setTop (mkF m 122 #[.val (.long p1), .second, .val (.long p2), .second, .val (.long p3), .second, .val (.long p4), .second, .val (.int p5), .val (.long qv), .second, .val (.long rs), .second, .val (.long fq), .second, .val (.long lf), .second, .val (.long fr), .second, .unset, .unset, .unset, .unset, .unset, .unset, .unset, .unset, .unset, .unset, .unset, .unset, .unset, .unset, .unset, .unset, .unset, .unset] [(.int io)])) := by
          intro io hio
          refine own_by (S' := T1.setTop (mkF m 124 #[.val (.long p1), .second, .val (.long p2), .second, .val (.long p3), .second, .val (.long p4), .second, .val (.int p5), .val (.long qv), .second, .val (.long rs), .second, .val (.long fq), .second, .val (.long lf), .second, .val (.long fr), .second, .val (.int io), .unset, .unset, .unset, .unset, .unset, .unset, .unset, .unset, .unset, .unset, .unset, .unset, .unset, .unset, .unset, .unset, .unset] [])) (fun tZ kZ => XS.istore X1.here hx rfl (hb hby at_122) rfl (l' := #[.val (.long p1), .second, .val (.long p2), .second, .val (.long p3), .second, .val (.long p4), .second, .val (.int p5), .val (.long qv), .second, .val (.long rs), .second, .val (.long fq), .second, .val (.long lf), .second, .val (.long fr), .second, .val (.int io), .unset, .unset, .unset, .unset, .unset, .unset, .unset, .unset, .unset, .unset, .unset, .unset, .unset, .unset, .unset, .unset, .unset]) rfl kZ) ?_
          refine own_by (S' := T1.setTop (mkF m 126 #[.val (.long p1), .second, .val (.long p2), .second, .val (.long p3), .second, .val (.long p4), .second, .val (.int p5), .val (.long qv), .second, .val (.long rs), .second, .val (.long fq), .second, .val (.long lf), .second, .val (.long fr), .second, .val (.int io), .unset, .unset, .unset, .unset, .unset, .unset, .unset, .unset, .unset, .unset, .unset, .unset, .unset, .unset, .unset, .unset, .unset] [(.int p5)])) (fun tZ kZ => XS.iload X1.here hx rfl (hb hby at_124) rfl kZ) ?_
          refine own_by (S' := T1.setTop (mkF m 127 #[.val (.long p1), .second, .val (.long p2), .second, .val (.long p3), .second, .val (.long p4), .second, .val (.int p5), .val (.long qv), .second, .val (.long rs), .second, .val (.long fq), .second, .val (.long lf), .second, .val (.long fr), .second, .val (.int io), .unset, .unset, .unset, .unset, .unset, .unset, .unset, .unset, .unset, .unset, .unset, .unset, .unset, .unset, .unset, .unset, .unset] [(.int (1 : Int32)), (.int p5)])) (fun tZ kZ => XS.iconst X1.here hx rfl (hb hby at_126) kZ) ?_
          refine own_by (S' := T1.setTop (mkF m 128 #[.val (.long p1), .second, .val (.long p2), .second, .val (.long p3), .second, .val (.long p4), .second, .val (.int p5), .val (.long qv), .second, .val (.long rs), .second, .val (.long fq), .second, .val (.long lf), .second, .val (.long fr), .second, .val (.int io), .unset, .unset, .unset, .unset, .unset, .unset, .unset, .unset, .unset, .unset, .unset, .unset, .unset, .unset, .unset, .unset, .unset] [(.int (p5 &&& (1 : Int32)))])) (fun tZ kZ => XS.iand X1.here hx rfl (hb hby at_127) rfl kZ) ?_
          have J136 : ∀ (cn : Int32), OwnG p e below (OwnEW s (Q0  h0 n0) room_1.cells room_1.slots) (T1.setTop (mkF m 136 #[.val (.long p1), .second, .val (.long p2), .second, .val (.long p3), .second, .val (.long p4), .second, .val (.int p5), .val (.long qv), .second, .val (.long rs), .second, .val (.long fq), .second, .val (.long lf), .second, .val (.long fr), .second, .val (.int io), .unset, .unset, .unset, .unset, .unset, .unset, .unset, .unset, .unset, .unset, .unset, .unset, .unset, .unset, .unset, .unset, .unset] [(.int cn)])) := by
            intro cn
            refine own_by (S' := T1.setTop (mkF m 138 #[.val (.long p1), .second, .val (.long p2), .second, .val (.long p3), .second, .val (.long p4), .second, .val (.int p5), .val (.long qv), .second, .val (.long rs), .second, .val (.long fq), .second, .val (.long lf), .second, .val (.long fr), .second, .val (.int io), .val (.int cn), .unset, .unset, .unset, .unset, .unset, .unset, .unset, .unset, .unset, .unset, .unset, .unset, .unset, .unset, .unset, .unset] [])) (fun tZ kZ => XS.istore X1.here hx rfl (hb hby at_136) rfl (l' := #[.val (.long p1), .second, .val (.long p2), .second, .val (.long p3), .second, .val (.long p4), .second, .val (.int p5), .val (.long qv), .second, .val (.long rs), .second, .val (.long fq), .second, .val (.long lf), .second, .val (.long fr), .second, .val (.int io), .val (.int cn), .unset, .unset, .unset, .unset, .unset, .unset, .unset, .unset, .unset, .unset, .unset, .unset, .unset, .unset, .unset, .unset]) rfl kZ) ?_
            obtain ⟨T2, h2, X2, e2, E2, A2, D2, -, st2⟩ := newO X1 hx hZ0 hown0 (hw _ (List.mem_of_getElem? (i := 5) rfl)) (hw _ (List.mem_of_getElem? (i := 6) rfl)) (hw _ (List.mem_of_getElem? (i := 7) rfl)) heq1 (g := (mkF m 138 #[.val (.long p1), .second, .val (.long p2), .second, .val (.long p3), .second, .val (.long p4), .second, .val (.int p5), .val (.long qv), .second, .val (.long rs), .second, .val (.long fq), .second, .val (.long lf), .second, .val (.long fr), .second, .val (.int io), .val (.int cn), .unset, .unset, .unset, .unset, .unset, .unset, .unset, .unset, .unset, .unset, .unset, .unset, .unset, .unset, .unset, .unset] [])) rfl (hb hby at_138) (by decide) (by decide)
            obtain ⟨b2, g2⟩ : ∃ z, z = h0.size := ⟨_, rfl⟩
            rw [← g2] at A2 D2 st2
            have g_b2 : n0 ≤ b2 := Nat.le_trans Z0 (Nat.le_of_eq g2.symm)
            have sz_b2 : h0.size ≤ b2 := Nat.le_trans (Keep.refl h0 []).1 (Nat.le_of_eq g2.symm)
            have Zs2 : n0 ≤ h2.size := Nat.le_trans Z0 E2.1
            have hk2 := Nat.le_trans hk0 E2.1
            have K2 := (Keep.refl h0 []).ext E2
            have Ex_b2 := A2
            have F_traded_b2 : Fld Z h2 b2 "com/example/fairgate/fairgate/processor/Order" "traded" "Ljava/math/BigInteger;" .null := D2 (Or.inl (hw _ (List.mem_of_getElem? (i := 25) rfl))) (ty := (.object "java/math/BigInteger")) (by decide)
            have F_key_b2 : Fld Z h2 b2 "com/example/fairgate/fairgate/processor/Order" "key" "Lcom/example/fairgate/fairgate/processor/OrderKey;" .null := D2 (Or.inr (hw _ (List.mem_of_getElem? (i := 27) rfl))) (ty := (.object "com/example/fairgate/fairgate/processor/OrderKey")) (by decide)
            have F_edge_b2 : Fld Z h2 b2 "com/example/fairgate/fairgate/processor/Order" "edge" "Lcom/example/fairgate/fairgate/core/EntryPoint;" .null := D2 (Or.inr (hw _ (List.mem_of_getElem? (i := 29) rfl))) (ty := (.object "com/example/fairgate/fairgate/core/EntryPoint")) (by decide)
            have F_symbol_b2 : Fld Z h2 b2 "com/example/fairgate/fairgate/processor/Order" "symbol" "Ljava/lang/String;" .null := D2 (Or.inr (hw _ (List.mem_of_getElem? (i := 31) rfl))) (ty := (.object "java/lang/String")) (by decide)
            have F_side_b2 : Fld Z h2 b2 "com/example/fairgate/fairgate/processor/Order" "side" "Lcom/example/fairgate/fairgate/processor/Side;" .null := D2 (Or.inr (hw _ (List.mem_of_getElem? (i := 33) rfl))) (ty := (.object "com/example/fairgate/fairgate/processor/Side")) (by decide)
            have F_qty_b2 : Fld Z h2 b2 "com/example/fairgate/fairgate/processor/Order" "qty" "J" (.long (0 : Int64)) := D2 (Or.inr (hw _ (List.mem_of_getElem? (i := 35) rfl))) (ty := .long) (by decide)
            have F_price_b2 : Fld Z h2 b2 "com/example/fairgate/fairgate/processor/Order" "price" "J" (.long (0 : Int64)) := D2 (Or.inr (hw _ (List.mem_of_getElem? (i := 37) rfl))) (ty := .long) (by decide)
            have F_immediateOrCancel_b2 : Fld Z h2 b2 "com/example/fairgate/fairgate/processor/Order" "immediateOrCancel" "Z" (.int (0 : Int32)) := D2 (Or.inr (hw _ (List.mem_of_getElem? (i := 39) rfl))) (ty := .boolean) (by decide)
            have F_remaining_b2 : Fld Z h2 b2 "com/example/fairgate/fairgate/processor/Order" "remaining" "J" (.long (0 : Int64)) := D2 (Or.inl (hw _ (List.mem_of_getElem? (i := 41) rfl))) (ty := .long) (by decide)
            have F_cancelled_b2 : Fld Z h2 b2 "com/example/fairgate/fairgate/processor/Order" "cancelled" "Z" (.int (0 : Int32)) := D2 (Or.inl (hw _ (List.mem_of_getElem? (i := 72) rfl))) (ty := .boolean) (by decide)
            have F_reserved_b2 : Fld Z h2 b2 "com/example/fairgate/fairgate/processor/Order" "reserved" "J" (.long (0 : Int64)) := D2 (Or.inl (hw _ (List.mem_of_getElem? (i := 74) rfl))) (ty := .long) (by decide)
            refine own_by (S' := T2.setTop (mkF m 141 #[.val (.long p1), .second, .val (.long p2), .second, .val (.long p3), .second, .val (.long p4), .second, .val (.int p5), .val (.long qv), .second, .val (.long rs), .second, .val (.long fq), .second, .val (.long lf), .second, .val (.long fr), .second, .val (.int io), .val (.int cn), .unset, .unset, .unset, .unset, .unset, .unset, .unset, .unset, .unset, .unset, .unset, .unset, .unset, .unset, .unset, .unset] [(.ref b2)])) st2 ?_
            refine own_by (S' := T2.setTop (mkF m 142 #[.val (.long p1), .second, .val (.long p2), .second, .val (.long p3), .second, .val (.long p4), .second, .val (.int p5), .val (.long qv), .second, .val (.long rs), .second, .val (.long fq), .second, .val (.long lf), .second, .val (.long fr), .second, .val (.int io), .val (.int cn), .unset, .unset, .unset, .unset, .unset, .unset, .unset, .unset, .unset, .unset, .unset, .unset, .unset, .unset, .unset, .unset] [(.ref b2), (.ref b2)])) (fun tZ kZ => XS.dup X2.here hx rfl (hb hby at_141) rfl rfl kZ) ?_
            refine own_by (S' := T2.setTop (mkF m 143 #[.val (.long p1), .second, .val (.long p2), .second, .val (.long p3), .second, .val (.long p4), .second, .val (.int p5), .val (.long qv), .second, .val (.long rs), .second, .val (.long fq), .second, .val (.long lf), .second, .val (.long fr), .second, .val (.int io), .val (.int cn), .unset, .unset, .unset, .unset, .unset, .unset, .unset, .unset, .unset, .unset, .unset, .unset, .unset, .unset, .unset, .unset] [.null, (.ref b2), (.ref b2)])) (fun tZ kZ => XS.aconstNull X2.here hx rfl (hb hby at_142) kZ) ?_
            refine own_by (S' := T2.setTop (mkF m 144 #[.val (.long p1), .second, .val (.long p2), .second, .val (.long p3), .second, .val (.long p4), .second, .val (.int p5), .val (.long qv), .second, .val (.long rs), .second, .val (.long fq), .second, .val (.long lf), .second, .val (.long fr), .second, .val (.int io), .val (.int cn), .unset, .unset, .unset, .unset, .unset, .unset, .unset, .unset, .unset, .unset, .unset, .unset, .unset, .unset, .unset, .unset] [.null, .null, (.ref b2), (.ref b2)])) (fun tZ kZ => XS.aconstNull X2.here hx rfl (hb hby at_143) kZ) ?_
            obtain ⟨sy, T3, h3, k3, X3, e3, E3, hS3, hk3, hZ3, hown3, st3⟩ := ldcS X2 hx hZ0 hown0 (hw _ (List.mem_of_getElem? (i := 8) rfl)) (own_str hw) e2 hS0 hk2 (g := (mkF m 144 #[.val (.long p1), .second, .val (.long p2), .second, .val (.long p3), .second, .val (.long p4), .second, .val (.int p5), .val (.long qv), .second, .val (.long rs), .second, .val (.long fq), .second, .val (.long lf), .second, .val (.long fr), .second, .val (.int io), .val (.int cn), .unset, .unset, .unset, .unset, .unset, .unset, .unset, .unset, .unset, .unset, .unset, .unset, .unset, .unset, .unset, .unset] [.null, .null, (.ref b2), (.ref b2)])) rfl (hb hby at_144) (n := 0) (by decide) (by decide) (by decide) (by decide)
            have Ex_b2_3 := Ex_b2.ext E3
            have F_traded_b2_3 := F_traded_b2.ext E3
            have F_key_b2_3 := F_key_b2.ext E3
            have F_edge_b2_3 := F_edge_b2.ext E3
            have F_symbol_b2_3 := F_symbol_b2.ext E3
            have F_side_b2_3 := F_side_b2.ext E3
            have F_qty_b2_3 := F_qty_b2.ext E3
            have F_price_b2_3 := F_price_b2.ext E3
            have F_immediateOrCancel_b2_3 := F_immediateOrCancel_b2.ext E3
            have F_remaining_b2_3 := F_remaining_b2.ext E3
            have F_cancelled_b2_3 := F_cancelled_b2.ext E3
            have F_reserved_b2_3 := F_reserved_b2.ext E3
            have Zs3 : n0 ≤ h3.size := Nat.le_trans Zs2 E3.1
            have K3 := K2.ext E3
            refine own_by (S' := T3.setTop (mkF m 146 #[.val (.long p1), .second, .val (.long p2), .second, .val (.long p3), .second, .val (.long p4), .second, .val (.int p5), .val (.long qv), .second, .val (.long rs), .second, .val (.long fq), .second, .val (.long lf), .second, .val (.long fr), .second, .val (.int io), .val (.int cn), .unset, .unset, .unset, .unset, .unset, .unset, .unset, .unset, .unset, .unset, .unset, .unset, .unset, .unset, .unset, .unset] [(.ref sy), .null, .null, (.ref b2), (.ref b2)])) st3 ?_
            refine own_by (S' := T3.setTop (mkF m 147 #[.val (.long p1), .second, .val (.long p2), .second, .val (.long p3), .second, .val (.long p4), .second, .val (.int p5), .val (.long qv), .second, .val (.long rs), .second, .val (.long fq), .second, .val (.long lf), .second, .val (.long fr), .second, .val (.int io), .val (.int cn), .unset, .unset, .unset, .unset, .unset, .unset, .unset, .unset, .unset, .unset, .unset, .unset, .unset, .unset, .unset, .unset] [.null, (.ref sy), .null, .null, (.ref b2), (.ref b2)])) (fun tZ kZ => XS.aconstNull X3.here hx rfl (hb hby at_146) kZ) ?_
            refine own_by (S' := T3.setTop (mkF m 149 #[.val (.long p1), .second, .val (.long p2), .second, .val (.long p3), .second, .val (.long p4), .second, .val (.int p5), .val (.long qv), .second, .val (.long rs), .second, .val (.long fq), .second, .val (.long lf), .second, .val (.long fr), .second, .val (.int io), .val (.int cn), .unset, .unset, .unset, .unset, .unset, .unset, .unset, .unset, .unset, .unset, .unset, .unset, .unset, .unset, .unset, .unset] [(.long qv), .null, (.ref sy), .null, .null, (.ref b2), (.ref b2)])) (fun tZ kZ => XS.lload X3.here hx rfl (hb hby at_147) rfl kZ) ?_
            refine own_by (S' := T3.setTop (mkF m 150 #[.val (.long p1), .second, .val (.long p2), .second, .val (.long p3), .second, .val (.long p4), .second, .val (.int p5), .val (.long qv), .second, .val (.long rs), .second, .val (.long fq), .second, .val (.long lf), .second, .val (.long fr), .second, .val (.int io), .val (.int cn), .unset, .unset, .unset, .unset, .unset, .unset, .unset, .unset, .unset, .unset, .unset, .unset, .unset, .unset, .unset, .unset] [(.long (0 : Int64)), (.long qv), .null, (.ref sy), .null, .null, (.ref b2), (.ref b2)])) (fun tZ kZ => XS.lconst X3.here hx rfl (hb hby at_149) kZ) ?_
            refine own_by (S' := T3.setTop (mkF m 152 #[.val (.long p1), .second, .val (.long p2), .second, .val (.long p3), .second, .val (.long p4), .second, .val (.int p5), .val (.long qv), .second, .val (.long rs), .second, .val (.long fq), .second, .val (.long lf), .second, .val (.long fr), .second, .val (.int io), .val (.int cn), .unset, .unset, .unset, .unset, .unset, .unset, .unset, .unset, .unset, .unset, .unset, .unset, .unset, .unset, .unset, .unset] [(.int io), (.long (0 : Int64)), (.long qv), .null, (.ref sy), .null, .null, (.ref b2), (.ref b2)])) (fun tZ kZ => XS.iload X3.here hx rfl (hb hby at_150) rfl kZ) ?_
            have EB4 : Ext hB h3 := own_eb0 Eb K3
            obtain ⟨_, _, ⟨T5, L5, k5, n5⟩, -, X5, ⟨Lc5, hQ5, l5, y5, z5⟩, st5⟩ := X3.specialBack hx (y := (⟨"com/example/fairgate/fairgate/processor/Order", "<init>", "(Lcom/example/fairgate/fairgate/processor/OrderKey;Lcom/example/fairgate/fairgate/core/EntryPoint;Ljava/lang/String;Lcom/example/fairgate/fairgate/processor/Side;JJZ)V"⟩ : MethodName)) rfl hown3 (mvT hZ3 (hw _ (List.mem_of_getElem? (i := 16) rfl))) (mvT hZ3 (hw _ (List.mem_of_getElem? (i := 17) rfl))) (mvT hZ3 (hw _ (List.mem_of_getElem? (i := 18) rfl))) (by decide) (backOf (W := 1) (rmOI l Z a0 hw [] b2 sy qv io hB zr mz pa za rmo lt mir mc pk zc lc h3 n0 Zs3 EB4 WD hBn hio Ex_b2_3 F_traded_b2_3 F_key_b2_3 F_edge_b2_3 F_symbol_b2_3 F_side_b2_3 F_qty_b2_3 F_price_b2_3 F_immediateOrCancel_b2_3 F_remaining_b2_3 F_reserved_b2_3 F_cancelled_b2_3 g_b2) hZ3 (hw _ (List.mem_of_getElem? (i := 18) rfl)) (hw _ (List.mem_of_getElem? (i := 7) rfl)) (by decide) (by decide)) (g := (mkF m 152 #[.val (.long p1), .second, .val (.long p2), .second, .val (.long p3), .second, .val (.long p4), .second, .val (.int p5), .val (.long qv), .second, .val (.long rs), .second, .val (.long fq), .second, .val (.long lf), .second, .val (.long fr), .second, .val (.int io), .val (.int cn), .unset, .unset, .unset, .unset, .unset, .unset, .unset, .unset, .unset, .unset, .unset, .unset, .unset, .unset, .unset, .unset] [(.int io), (.long (0 : Int64)), (.long qv), .null, (.ref sy), .null, .null, (.ref b2), (.ref b2)])) rfl (by rw [hml]; rfl) (Steps.refl _) (a := b2) (argsL := [.null, .null, (.ref sy), .null, (.long qv), (.long (0 : Int64)), (.int io)]) (rest := [(.ref b2)]) (lenOf pd_19 rfl) rfl (by show 2 * 0 + _ ≤ _; exact Nat.le_of_eq rfl) (hb hby at_152) (fun _ _ => ⟨rfl, e3, (by decide : 3 + 0 ≤ _), (by decide : 16 + 0 ≤ _)⟩)
            dsimp only [Pt.U, Pt.locs, Pt.cells, Pt.slots] at X5 l5 y5 z5 st5 hQ5
            subst l5 y5 z5
            obtain ⟨rfl, N5q, Kc5, OO5⟩ := hQ5
            have N5 := Fr.app N1 N5q
            have Zs5 := Nat.le_trans Zs3 Kc5.1
            have hk5 := Nat.le_trans hk3 Kc5.1
            have K5 := K3.trans Kc5 (fun x hx => by
                simp only [List.mem_cons, List.not_mem_nil, or_false] at hx
                rcases hx with rfl
                · exact Or.inr sz_b2)
            have Ex_b2_5 := Ex_b2_3.keep Kc5
            refine own_by (S' := T5.setTop (mkF m 155 #[.val (.long p1), .second, .val (.long p2), .second, .val (.long p3), .second, .val (.long p4), .second, .val (.int p5), .val (.long qv), .second, .val (.long rs), .second, .val (.long fq), .second, .val (.long lf), .second, .val (.long fr), .second, .val (.int io), .val (.int cn), .unset, .unset, .unset, .unset, .unset, .unset, .unset, .unset, .unset, .unset, .unset, .unset, .unset, .unset, .unset, .unset] [(.ref b2)])) (fun tZ kZ => st5.trans kZ) ?_
            refine own_by (S' := T5.setTop (mkF m 157 #[.val (.long p1), .second, .val (.long p2), .second, .val (.long p3), .second, .val (.long p4), .second, .val (.int p5), .val (.long qv), .second, .val (.long rs), .second, .val (.long fq), .second, .val (.long lf), .second, .val (.long fr), .second, .val (.int io), .val (.int cn), .val (.ref b2), .unset, .unset, .unset, .unset, .unset, .unset, .unset, .unset, .unset, .unset, .unset, .unset, .unset, .unset, .unset] [])) (fun tZ kZ => XS.astore X5.here hx rfl (hb hby at_155) rfl rfl (l' := #[.val (.long p1), .second, .val (.long p2), .second, .val (.long p3), .second, .val (.long p4), .second, .val (.int p5), .val (.long qv), .second, .val (.long rs), .second, .val (.long fq), .second, .val (.long lf), .second, .val (.long fr), .second, .val (.int io), .val (.int cn), .val (.ref b2), .unset, .unset, .unset, .unset, .unset, .unset, .unset, .unset, .unset, .unset, .unset, .unset, .unset, .unset, .unset]) rfl kZ) ?_
            obtain ⟨T6, h6, X6, e6, E6, A6, D6, -, st6⟩ := newO X5 hx hZ3 hown3 (hw _ (List.mem_of_getElem? (i := 42) rfl)) (hw _ (List.mem_of_getElem? (i := 43) rfl)) (hw _ (List.mem_of_getElem? (i := 44) rfl)) rfl (g := (mkF m 157 #[.val (.long p1), .second, .val (.long p2), .second, .val (.long p3), .second, .val (.long p4), .second, .val (.int p5), .val (.long qv), .second, .val (.long rs), .second, .val (.long fq), .second, .val (.long lf), .second, .val (.long fr), .second, .val (.int io), .val (.int cn), .val (.ref b2), .unset, .unset, .unset, .unset, .unset, .unset, .unset, .unset, .unset, .unset, .unset, .unset, .unset, .unset, .unset] [])) rfl (hb hby at_157) (by decide) (by decide)
            obtain ⟨b6, g6⟩ : ∃ z, z = T5.heap.size := ⟨_, rfl⟩
            rw [← g6] at A6 D6 st6
            have ne_b2_b6 : b2 ≠ b6 := Nat.ne_of_lt (Nat.lt_of_lt_of_le OO5.lt (Nat.le_of_eq g6.symm))
            have g_b6 : n0 ≤ b6 := Nat.le_trans Zs5 (Nat.le_of_eq g6.symm)
            have sz_b6 : h0.size ≤ b6 := Nat.le_trans K5.1 (Nat.le_of_eq g6.symm)
            have OO5_6 := OO5.ext E6
            have Zs6 : n0 ≤ h6.size := Nat.le_trans Zs5 E6.1
            have hk6 := Nat.le_trans hk5 E6.1
            have K6 := K5.ext E6
            have Ex_b6 := A6
            have F_number_b6 : Fld Z h6 b6 "com/example/fairgate/fairgate/processor/Trade" "number" "J" (.long (0 : Int64)) := D6 (Or.inr (hw _ (List.mem_of_getElem? (i := 55) rfl))) (ty := .long) (by decide)
            have F_time_b6 : Fld Z h6 b6 "com/example/fairgate/fairgate/processor/Trade" "time" "J" (.long (0 : Int64)) := D6 (Or.inr (hw _ (List.mem_of_getElem? (i := 57) rfl))) (ty := .long) (by decide)
            have F_buy_b6 : Fld Z h6 b6 "com/example/fairgate/fairgate/processor/Trade" "buy" "Lcom/example/fairgate/fairgate/processor/OrderKey;" .null := D6 (Or.inr (hw _ (List.mem_of_getElem? (i := 59) rfl))) (ty := (.object "com/example/fairgate/fairgate/processor/OrderKey")) (by decide)
            have F_sell_b6 : Fld Z h6 b6 "com/example/fairgate/fairgate/processor/Trade" "sell" "Lcom/example/fairgate/fairgate/processor/OrderKey;" .null := D6 (Or.inr (hw _ (List.mem_of_getElem? (i := 61) rfl))) (ty := (.object "com/example/fairgate/fairgate/processor/OrderKey")) (by decide)
            have F_price_b6 : Fld Z h6 b6 "com/example/fairgate/fairgate/processor/Trade" "price" "J" (.long (0 : Int64)) := D6 (Or.inr (hw _ (List.mem_of_getElem? (i := 63) rfl))) (ty := .long) (by decide)
            have F_qty_b6 : Fld Z h6 b6 "com/example/fairgate/fairgate/processor/Trade" "qty" "J" (.long (0 : Int64)) := D6 (Or.inr (hw _ (List.mem_of_getElem? (i := 65) rfl))) (ty := .long) (by decide)
            refine own_by (S' := T6.setTop (mkF m 160 #[.val (.long p1), .second, .val (.long p2), .second, .val (.long p3), .second, .val (.long p4), .second, .val (.int p5), .val (.long qv), .second, .val (.long rs), .second, .val (.long fq), .second, .val (.long lf), .second, .val (.long fr), .second, .val (.int io), .val (.int cn), .val (.ref b2), .unset, .unset, .unset, .unset, .unset, .unset, .unset, .unset, .unset, .unset, .unset, .unset, .unset, .unset, .unset] [(.ref b6)])) st6 ?_
            refine own_by (S' := T6.setTop (mkF m 161 #[.val (.long p1), .second, .val (.long p2), .second, .val (.long p3), .second, .val (.long p4), .second, .val (.int p5), .val (.long qv), .second, .val (.long rs), .second, .val (.long fq), .second, .val (.long lf), .second, .val (.long fr), .second, .val (.int io), .val (.int cn), .val (.ref b2), .unset, .unset, .unset, .unset, .unset, .unset, .unset, .unset, .unset, .unset, .unset, .unset, .unset, .unset, .unset] [(.ref b6), (.ref b6)])) (fun tZ kZ => XS.dup X6.here hx rfl (hb hby at_160) rfl rfl kZ) ?_
            refine own_by (S' := T6.setTop (mkF m 162 #[.val (.long p1), .second, .val (.long p2), .second, .val (.long p3), .second, .val (.long p4), .second, .val (.int p5), .val (.long qv), .second, .val (.long rs), .second, .val (.long fq), .second, .val (.long lf), .second, .val (.long fr), .second, .val (.int io), .val (.int cn), .val (.ref b2), .unset, .unset, .unset, .unset, .unset, .unset, .unset, .unset, .unset, .unset, .unset, .unset, .unset, .unset, .unset] [(.long (1 : Int64)), (.ref b6), (.ref b6)])) (fun tZ kZ => XS.lconst X6.here hx rfl (hb hby at_161) kZ) ?_
            refine own_by (S' := T6.setTop (mkF m 163 #[.val (.long p1), .second, .val (.long p2), .second, .val (.long p3), .second, .val (.long p4), .second, .val (.int p5), .val (.long qv), .second, .val (.long rs), .second, .val (.long fq), .second, .val (.long lf), .second, .val (.long fr), .second, .val (.int io), .val (.int cn), .val (.ref b2), .unset, .unset, .unset, .unset, .unset, .unset, .unset, .unset, .unset, .unset, .unset, .unset, .unset, .unset, .unset] [(.long (0 : Int64)), (.long (1 : Int64)), (.ref b6), (.ref b6)])) (fun tZ kZ => XS.lconst X6.here hx rfl (hb hby at_162) kZ) ?_
            refine own_by (S' := T6.setTop (mkF m 164 #[.val (.long p1), .second, .val (.long p2), .second, .val (.long p3), .second, .val (.long p4), .second, .val (.int p5), .val (.long qv), .second, .val (.long rs), .second, .val (.long fq), .second, .val (.long lf), .second, .val (.long fr), .second, .val (.int io), .val (.int cn), .val (.ref b2), .unset, .unset, .unset, .unset, .unset, .unset, .unset, .unset, .unset, .unset, .unset, .unset, .unset, .unset, .unset] [.null, (.long (0 : Int64)), (.long (1 : Int64)), (.ref b6), (.ref b6)])) (fun tZ kZ => XS.aconstNull X6.here hx rfl (hb hby at_163) kZ) ?_
            refine own_by (S' := T6.setTop (mkF m 165 #[.val (.long p1), .second, .val (.long p2), .second, .val (.long p3), .second, .val (.long p4), .second, .val (.int p5), .val (.long qv), .second, .val (.long rs), .second, .val (.long fq), .second, .val (.long lf), .second, .val (.long fr), .second, .val (.int io), .val (.int cn), .val (.ref b2), .unset, .unset, .unset, .unset, .unset, .unset, .unset, .unset, .unset, .unset, .unset, .unset, .unset, .unset, .unset] [.null, .null, (.long (0 : Int64)), (.long (1 : Int64)), (.ref b6), (.ref b6)])) (fun tZ kZ => XS.aconstNull X6.here hx rfl (hb hby at_164) kZ) ?_
            refine own_by (S' := T6.setTop (mkF m 166 #[.val (.long p1), .second, .val (.long p2), .second, .val (.long p3), .second, .val (.long p4), .second, .val (.int p5), .val (.long qv), .second, .val (.long rs), .second, .val (.long fq), .second, .val (.long lf), .second, .val (.long fr), .second, .val (.int io), .val (.int cn), .val (.ref b2), .unset, .unset, .unset, .unset, .unset, .unset, .unset, .unset, .unset, .unset, .unset, .unset, .unset, .unset, .unset] [(.long (0 : Int64)), .null, .null, (.long (0 : Int64)), (.long (1 : Int64)), (.ref b6), (.ref b6)])) (fun tZ kZ => XS.lconst X6.here hx rfl (hb hby at_165) kZ) ?_
            refine own_by (S' := T6.setTop (mkF m 168 #[.val (.long p1), .second, .val (.long p2), .second, .val (.long p3), .second, .val (.long p4), .second, .val (.int p5), .val (.long qv), .second, .val (.long rs), .second, .val (.long fq), .second, .val (.long lf), .second, .val (.long fr), .second, .val (.int io), .val (.int cn), .val (.ref b2), .unset, .unset, .unset, .unset, .unset, .unset, .unset, .unset, .unset, .unset, .unset, .unset, .unset, .unset, .unset] [(.long fq), (.long (0 : Int64)), .null, .null, (.long (0 : Int64)), (.long (1 : Int64)), (.ref b6), (.ref b6)])) (fun tZ kZ => XS.lload X6.here hx rfl (hb hby at_166) rfl kZ) ?_
            obtain ⟨_, _, ⟨T7, L7, k7, n7⟩, -, X7, ⟨Lc7, hQ7, l7, y7, z7⟩, st7⟩ := X6.specialBack hx (y := (⟨"com/example/fairgate/fairgate/processor/Trade", "<init>", "(JJLcom/example/fairgate/fairgate/processor/OrderKey;Lcom/example/fairgate/fairgate/processor/OrderKey;JJ)V"⟩ : MethodName)) rfl hown3 (mvT hZ3 (hw _ (List.mem_of_getElem? (i := 45) rfl))) (mvT hZ3 (hw _ (List.mem_of_getElem? (i := 46) rfl))) (mvT hZ3 (hw _ (List.mem_of_getElem? (i := 47) rfl))) (by decide) (backOf (W := 1) (rmTI l Z a0 hw [] b6 fq h6 n0 Zs6 Ex_b6 F_number_b6 F_time_b6 F_buy_b6 F_sell_b6 F_price_b6 F_qty_b6 g_b6) hZ3 (hw _ (List.mem_of_getElem? (i := 47) rfl)) (hw _ (List.mem_of_getElem? (i := 44) rfl)) (by decide) (by decide)) (g := (mkF m 168 #[.val (.long p1), .second, .val (.long p2), .second, .val (.long p3), .second, .val (.long p4), .second, .val (.int p5), .val (.long qv), .second, .val (.long rs), .second, .val (.long fq), .second, .val (.long lf), .second, .val (.long fr), .second, .val (.int io), .val (.int cn), .val (.ref b2), .unset, .unset, .unset, .unset, .unset, .unset, .unset, .unset, .unset, .unset, .unset, .unset, .unset, .unset, .unset] [(.long fq), (.long (0 : Int64)), .null, .null, (.long (0 : Int64)), (.long (1 : Int64)), (.ref b6), (.ref b6)])) rfl (by rw [hml]; rfl) (Steps.refl _) (a := b6) (argsL := [(.long (1 : Int64)), (.long (0 : Int64)), .null, .null, (.long (0 : Int64)), (.long fq)]) (rest := [(.ref b6)]) (lenOf pd_20 rfl) rfl (by show 2 * 0 + _ ≤ _; exact Nat.le_of_eq rfl) (hb hby at_168) (fun _ _ => ⟨rfl, e6, (by decide : 4 + 0 ≤ _), (by decide : 22 + 0 ≤ _)⟩)
            dsimp only [Pt.U, Pt.locs, Pt.cells, Pt.slots] at X7 l7 y7 z7 st7 hQ7
            subst l7 y7 z7
            obtain ⟨rfl, N7q, Kc7, OT7⟩ := hQ7
            have N7 := Fr.app N5 N7q
            have Zs7 := Nat.le_trans Zs6 Kc7.1
            have hk7 := Nat.le_trans hk6 Kc7.1
            have K7 := K6.trans Kc7 (fun x hx => by
                simp only [List.mem_cons, List.not_mem_nil, or_false] at hx
                rcases hx with rfl
                · exact Or.inr sz_b6)
            have OO5_7 := OO5_6.keep Kc7 (by
                simp only [List.mem_cons, List.not_mem_nil, or_false, not_or]
                exact ne_b2_b6)
            have Ex_b6_7 := Ex_b6.keep Kc7
            refine own_by (S' := T7.setTop (mkF m 171 #[.val (.long p1), .second, .val (.long p2), .second, .val (.long p3), .second, .val (.long p4), .second, .val (.int p5), .val (.long qv), .second, .val (.long rs), .second, .val (.long fq), .second, .val (.long lf), .second, .val (.long fr), .second, .val (.int io), .val (.int cn), .val (.ref b2), .unset, .unset, .unset, .unset, .unset, .unset, .unset, .unset, .unset, .unset, .unset, .unset, .unset, .unset, .unset] [(.ref b6)])) (fun tZ kZ => st7.trans kZ) ?_
            refine own_by (S' := T7.setTop (mkF m 173 #[.val (.long p1), .second, .val (.long p2), .second, .val (.long p3), .second, .val (.long p4), .second, .val (.int p5), .val (.long qv), .second, .val (.long rs), .second, .val (.long fq), .second, .val (.long lf), .second, .val (.long fr), .second, .val (.int io), .val (.int cn), .val (.ref b2), .val (.ref b6), .unset, .unset, .unset, .unset, .unset, .unset, .unset, .unset, .unset, .unset, .unset, .unset, .unset, .unset] [])) (fun tZ kZ => XS.astore X7.here hx rfl (hb hby at_171) rfl rfl (l' := #[.val (.long p1), .second, .val (.long p2), .second, .val (.long p3), .second, .val (.long p4), .second, .val (.int p5), .val (.long qv), .second, .val (.long rs), .second, .val (.long fq), .second, .val (.long lf), .second, .val (.long fr), .second, .val (.int io), .val (.int cn), .val (.ref b2), .val (.ref b6), .unset, .unset, .unset, .unset, .unset, .unset, .unset, .unset, .unset, .unset, .unset, .unset, .unset, .unset]) rfl kZ) ?_
            refine own_by (S' := T7.setTop (mkF m 175 #[.val (.long p1), .second, .val (.long p2), .second, .val (.long p3), .second, .val (.long p4), .second, .val (.int p5), .val (.long qv), .second, .val (.long rs), .second, .val (.long fq), .second, .val (.long lf), .second, .val (.long fr), .second, .val (.int io), .val (.int cn), .val (.ref b2), .val (.ref b6), .unset, .unset, .unset, .unset, .unset, .unset, .unset, .unset, .unset, .unset, .unset, .unset, .unset, .unset] [(.ref b2)])) (fun tZ kZ => XS.aload X7.here hx rfl (hb hby at_173) rfl rfl kZ) ?_
            obtain ⟨cq8, kq8, q8a, q8b, q8c⟩ := isOf hZ3 rfl OO5_7.1
            obtain ⟨_, _, ⟨T8, L8, k8, n8⟩, -, X8, ⟨Lc8, hQ8, l8, y8, z8⟩, st8⟩ := X7.virtualBack hx (y := (⟨"com/example/fairgate/fairgate/processor/Order", "available", "()J"⟩ : MethodName)) (z := (⟨"com/example/fairgate/fairgate/processor/Order", "available", "()J"⟩ : MethodName)) hown3 (mvT hZ3 (hw _ (List.mem_of_getElem? (i := 66) rfl))) (mvT hZ3 (hw _ (List.mem_of_getElem? (i := 67) rfl))) (notFace_of_selects (args := #[]) (mvT hZ3 (hw _ (List.mem_of_getElem? (i := 69) rfl)))) (mvT hZ3 (hw _ (List.mem_of_getElem? (i := 69) rfl))) (mvT hZ3 (hw _ (List.mem_of_getElem? (i := 68) rfl))) (by decide) (backOf (W := 0) (rmAv l Z a0 hw [] b2 zr qv qv (0 : Int64) (0 : Int32) T7.heap n0 Zs7 OO5_7) hZ3 (hw _ (List.mem_of_getElem? (i := 70) rfl)) (hw _ (List.mem_of_getElem? (i := 7) rfl)) (by decide) (by decide)) q8a q8c (g := (mkF m 175 #[.val (.long p1), .second, .val (.long p2), .second, .val (.long p3), .second, .val (.long p4), .second, .val (.int p5), .val (.long qv), .second, .val (.long rs), .second, .val (.long fq), .second, .val (.long lf), .second, .val (.long fr), .second, .val (.int io), .val (.int cn), .val (.ref b2), .val (.ref b6), .unset, .unset, .unset, .unset, .unset, .unset, .unset, .unset, .unset, .unset, .unset, .unset, .unset, .unset] [(.ref b2)])) rfl (by rw [hml]; rfl) (Steps.refl _) (argsL := []) (rest := []) (lenOf pd_13 rfl) rfl (by show 2 * 0 + _ ≤ _; exact Nat.le_of_eq rfl) (hb hby at_175) (fun _ _ => ⟨rfl, rfl, (by decide : 4 + 0 ≤ _), (by decide : 22 + 0 ≤ _)⟩)
            dsimp only [Pt.U, Pt.locs, Pt.cells, Pt.slots] at X8 l8 y8 z8 st8 hQ8
            subst l8 y8 z8
            obtain ⟨rfl, N8q, heq8⟩ := hQ8
            have N8 := Fr.app N7 N8q
            refine own_by (S' := T8.setTop (mkF m 178 #[.val (.long p1), .second, .val (.long p2), .second, .val (.long p3), .second, .val (.long p4), .second, .val (.int p5), .val (.long qv), .second, .val (.long rs), .second, .val (.long fq), .second, .val (.long lf), .second, .val (.long fr), .second, .val (.int io), .val (.int cn), .val (.ref b2), .val (.ref b6), .unset, .unset, .unset, .unset, .unset, .unset, .unset, .unset, .unset, .unset, .unset, .unset, .unset, .unset] [(.long (if (0 : Int32) = 0 then qv - (0 : Int64) else 0))])) (fun tZ kZ => st8.trans kZ) ?_
            rw [if_pos rfl]
            refine own_by (S' := T8.setTop (mkF m 180 #[.val (.long p1), .second, .val (.long p2), .second, .val (.long p3), .second, .val (.long p4), .second, .val (.int p5), .val (.long qv), .second, .val (.long rs), .second, .val (.long fq), .second, .val (.long lf), .second, .val (.long fr), .second, .val (.int io), .val (.int cn), .val (.ref b2), .val (.ref b6), .val (.long (qv - (0 : Int64))), .second, .unset, .unset, .unset, .unset, .unset, .unset, .unset, .unset, .unset, .unset, .unset, .unset] [])) (fun tZ kZ => XS.lstore X8.here hx rfl (hb hby at_178) rfl (l' := #[.val (.long p1), .second, .val (.long p2), .second, .val (.long p3), .second, .val (.long p4), .second, .val (.int p5), .val (.long qv), .second, .val (.long rs), .second, .val (.long fq), .second, .val (.long lf), .second, .val (.long fr), .second, .val (.int io), .val (.int cn), .val (.ref b2), .val (.ref b6), .val (.long (qv - (0 : Int64))), .second, .unset, .unset, .unset, .unset, .unset, .unset, .unset, .unset, .unset, .unset, .unset, .unset]) rfl kZ) ?_
            refine own_by (S' := T8.setTop (mkF m 182 #[.val (.long p1), .second, .val (.long p2), .second, .val (.long p3), .second, .val (.long p4), .second, .val (.int p5), .val (.long qv), .second, .val (.long rs), .second, .val (.long fq), .second, .val (.long lf), .second, .val (.long fr), .second, .val (.int io), .val (.int cn), .val (.ref b2), .val (.ref b6), .val (.long (qv - (0 : Int64))), .second, .unset, .unset, .unset, .unset, .unset, .unset, .unset, .unset, .unset, .unset, .unset, .unset] [(.ref b2)])) (fun tZ kZ => XS.aload X8.here hx rfl (hb hby at_180) rfl rfl kZ) ?_
            refine own_by (S' := T8.setTop (mkF m 184 #[.val (.long p1), .second, .val (.long p2), .second, .val (.long p3), .second, .val (.long p4), .second, .val (.int p5), .val (.long qv), .second, .val (.long rs), .second, .val (.long fq), .second, .val (.long lf), .second, .val (.long fr), .second, .val (.int io), .val (.int cn), .val (.ref b2), .val (.ref b6), .val (.long (qv - (0 : Int64))), .second, .unset, .unset, .unset, .unset, .unset, .unset, .unset, .unset, .unset, .unset, .unset, .unset] [(.long rs), (.ref b2)])) (fun tZ kZ => XS.lload X8.here hx rfl (hb hby at_182) rfl kZ) ?_
            obtain ⟨cq9, kq9, q9a, q9b, q9c⟩ := isOf hZ3 heq8 OO5_7.1
            obtain ⟨_, _, ⟨T9, L9, k9, n9⟩, -, X9, ⟨Lc9, hQ9, l9, y9, z9⟩, st9⟩ := X8.virtualBack hx (y := (⟨"com/example/fairgate/fairgate/processor/Order", "reserve", "(J)V"⟩ : MethodName)) (z := (⟨"com/example/fairgate/fairgate/processor/Order", "reserve", "(J)V"⟩ : MethodName)) hown3 (mvT hZ3 (hw _ (List.mem_of_getElem? (i := 75) rfl))) (mvT hZ3 (hw _ (List.mem_of_getElem? (i := 76) rfl))) (notFace_of_selects (args := #[]) (mvT hZ3 (hw _ (List.mem_of_getElem? (i := 78) rfl)))) (mvT hZ3 (hw _ (List.mem_of_getElem? (i := 78) rfl))) (mvT hZ3 (hw _ (List.mem_of_getElem? (i := 77) rfl))) (by decide) (backOf (W := 0) (rmRs l Z a0 hw [] b2 zr qv qv (0 : Int64) (0 : Int32) rs T7.heap n0 Zs7 OO5_7 g_b2) hZ3 (hw _ (List.mem_of_getElem? (i := 79) rfl)) (hw _ (List.mem_of_getElem? (i := 7) rfl)) (by decide) (by decide)) q9a q9c (g := (mkF m 184 #[.val (.long p1), .second, .val (.long p2), .second, .val (.long p3), .second, .val (.long p4), .second, .val (.int p5), .val (.long qv), .second, .val (.long rs), .second, .val (.long fq), .second, .val (.long lf), .second, .val (.long fr), .second, .val (.int io), .val (.int cn), .val (.ref b2), .val (.ref b6), .val (.long (qv - (0 : Int64))), .second, .unset, .unset, .unset, .unset, .unset, .unset, .unset, .unset, .unset, .unset, .unset, .unset] [(.long rs), (.ref b2)])) rfl (by rw [hml]; rfl) (Steps.refl _) (argsL := [(.long rs)]) (rest := []) (lenOf pd_1 rfl) rfl (by show 2 * 0 + _ ≤ _; exact Nat.le_of_eq rfl) (hb hby at_184) (fun _ _ => ⟨rfl, heq8, (by decide : 4 + 0 ≤ _), (by decide : 22 + 0 ≤ _)⟩)
            dsimp only [Pt.U, Pt.locs, Pt.cells, Pt.slots] at X9 l9 y9 z9 st9 hQ9
            subst l9 y9 z9
            obtain ⟨rfl, N9q, Kc9, OO9⟩ := hQ9
            have N9 := Fr.app N8 N9q
            have Zs9 := Nat.le_trans Zs7 Kc9.1
            have hk9 := Nat.le_trans hk7 Kc9.1
            have K9 := K7.trans Kc9 (fun x hx => by
                simp only [List.mem_cons, List.not_mem_nil, or_false] at hx
                rcases hx with rfl
                · exact Or.inr sz_b2)
            have OT7_9 := OT7.keep Kc9 (by
                simp only [List.mem_cons, List.not_mem_nil, or_false, not_or]
                exact (Ne.symm ne_b2_b6))
            refine own_by (S' := T9.setTop (mkF m 187 #[.val (.long p1), .second, .val (.long p2), .second, .val (.long p3), .second, .val (.long p4), .second, .val (.int p5), .val (.long qv), .second, .val (.long rs), .second, .val (.long fq), .second, .val (.long lf), .second, .val (.long fr), .second, .val (.int io), .val (.int cn), .val (.ref b2), .val (.ref b6), .val (.long (qv - (0 : Int64))), .second, .unset, .unset, .unset, .unset, .unset, .unset, .unset, .unset, .unset, .unset, .unset, .unset] [])) (fun tZ kZ => st9.trans kZ) ?_
            refine own_by (S' := T9.setTop (mkF m 189 #[.val (.long p1), .second, .val (.long p2), .second, .val (.long p3), .second, .val (.long p4), .second, .val (.int p5), .val (.long qv), .second, .val (.long rs), .second, .val (.long fq), .second, .val (.long lf), .second, .val (.long fr), .second, .val (.int io), .val (.int cn), .val (.ref b2), .val (.ref b6), .val (.long (qv - (0 : Int64))), .second, .unset, .unset, .unset, .unset, .unset, .unset, .unset, .unset, .unset, .unset, .unset, .unset] [(.ref b2)])) (fun tZ kZ => XS.aload X9.here hx rfl (hb hby at_187) rfl rfl kZ) ?_
            obtain ⟨cq10, kq10, q10a, q10b, q10c⟩ := isOf hZ3 rfl OO9.1
            obtain ⟨_, _, ⟨T10, L10, k10, n10⟩, -, X10, ⟨Lc10, hQ10, l10, y10, z10⟩, st10⟩ := X9.virtualBack hx (y := (⟨"com/example/fairgate/fairgate/processor/Order", "available", "()J"⟩ : MethodName)) (z := (⟨"com/example/fairgate/fairgate/processor/Order", "available", "()J"⟩ : MethodName)) hown3 (mvT hZ3 (hw _ (List.mem_of_getElem? (i := 66) rfl))) (mvT hZ3 (hw _ (List.mem_of_getElem? (i := 67) rfl))) (notFace_of_selects (args := #[]) (mvT hZ3 (hw _ (List.mem_of_getElem? (i := 69) rfl)))) (mvT hZ3 (hw _ (List.mem_of_getElem? (i := 69) rfl))) (mvT hZ3 (hw _ (List.mem_of_getElem? (i := 68) rfl))) (by decide) (backOf (W := 0) (rmAv l Z a0 hw [] b2 zr qv qv ((0 : Int64) + rs) (0 : Int32) T9.heap n0 Zs9 OO9) hZ3 (hw _ (List.mem_of_getElem? (i := 70) rfl)) (hw _ (List.mem_of_getElem? (i := 7) rfl)) (by decide) (by decide)) q10a q10c (g := (mkF m 189 #[.val (.long p1), .second, .val (.long p2), .second, .val (.long p3), .second, .val (.long p4), .second, .val (.int p5), .val (.long qv), .second, .val (.long rs), .second, .val (.long fq), .second, .val (.long lf), .second, .val (.long fr), .second, .val (.int io), .val (.int cn), .val (.ref b2), .val (.ref b6), .val (.long (qv - (0 : Int64))), .second, .unset, .unset, .unset, .unset, .unset, .unset, .unset, .unset, .unset, .unset, .unset, .unset] [(.ref b2)])) rfl (by rw [hml]; rfl) (Steps.refl _) (argsL := []) (rest := []) (lenOf pd_13 rfl) rfl (by show 2 * 0 + _ ≤ _; exact Nat.le_of_eq rfl) (hb hby at_189) (fun _ _ => ⟨rfl, rfl, (by decide : 4 + 0 ≤ _), (by decide : 22 + 0 ≤ _)⟩)
            dsimp only [Pt.U, Pt.locs, Pt.cells, Pt.slots] at X10 l10 y10 z10 st10 hQ10
            subst l10 y10 z10
            obtain ⟨rfl, N10q, heq10⟩ := hQ10
            have N10 := Fr.app N9 N10q
            refine own_by (S' := T10.setTop (mkF m 192 #[.val (.long p1), .second, .val (.long p2), .second, .val (.long p3), .second, .val (.long p4), .second, .val (.int p5), .val (.long qv), .second, .val (.long rs), .second, .val (.long fq), .second, .val (.long lf), .second, .val (.long fr), .second, .val (.int io), .val (.int cn), .val (.ref b2), .val (.ref b6), .val (.long (qv - (0 : Int64))), .second, .unset, .unset, .unset, .unset, .unset, .unset, .unset, .unset, .unset, .unset, .unset, .unset] [(.long (if (0 : Int32) = 0 then qv - ((0 : Int64) + rs) else 0))])) (fun tZ kZ => st10.trans kZ) ?_
            rw [if_pos rfl]
            refine own_by (S' := T10.setTop (mkF m 194 #[.val (.long p1), .second, .val (.long p2), .second, .val (.long p3), .second, .val (.long p4), .second, .val (.int p5), .val (.long qv), .second, .val (.long rs), .second, .val (.long fq), .second, .val (.long lf), .second, .val (.long fr), .second, .val (.int io), .val (.int cn), .val (.ref b2), .val (.ref b6), .val (.long (qv - (0 : Int64))), .second, .val (.long (qv - ((0 : Int64) + rs))), .second, .unset, .unset, .unset, .unset, .unset, .unset, .unset, .unset, .unset, .unset] [])) (fun tZ kZ => XS.lstore X10.here hx rfl (hb hby at_192) rfl (l' := #[.val (.long p1), .second, .val (.long p2), .second, .val (.long p3), .second, .val (.long p4), .second, .val (.int p5), .val (.long qv), .second, .val (.long rs), .second, .val (.long fq), .second, .val (.long lf), .second, .val (.long fr), .second, .val (.int io), .val (.int cn), .val (.ref b2), .val (.ref b6), .val (.long (qv - (0 : Int64))), .second, .val (.long (qv - ((0 : Int64) + rs))), .second, .unset, .unset, .unset, .unset, .unset, .unset, .unset, .unset, .unset, .unset]) rfl kZ) ?_
            refine own_by (S' := T10.setTop (mkF m 196 #[.val (.long p1), .second, .val (.long p2), .second, .val (.long p3), .second, .val (.long p4), .second, .val (.int p5), .val (.long qv), .second, .val (.long rs), .second, .val (.long fq), .second, .val (.long lf), .second, .val (.long fr), .second, .val (.int io), .val (.int cn), .val (.ref b2), .val (.ref b6), .val (.long (qv - (0 : Int64))), .second, .val (.long (qv - ((0 : Int64) + rs))), .second, .unset, .unset, .unset, .unset, .unset, .unset, .unset, .unset, .unset, .unset] [(.ref b2)])) (fun tZ kZ => XS.aload X10.here hx rfl (hb hby at_194) rfl rfl kZ) ?_
            refine own_by (S' := T10.setTop (mkF m 198 #[.val (.long p1), .second, .val (.long p2), .second, .val (.long p3), .second, .val (.long p4), .second, .val (.int p5), .val (.long qv), .second, .val (.long rs), .second, .val (.long fq), .second, .val (.long lf), .second, .val (.long fr), .second, .val (.int io), .val (.int cn), .val (.ref b2), .val (.ref b6), .val (.long (qv - (0 : Int64))), .second, .val (.long (qv - ((0 : Int64) + rs))), .second, .unset, .unset, .unset, .unset, .unset, .unset, .unset, .unset, .unset, .unset] [(.ref b6), (.ref b2)])) (fun tZ kZ => XS.aload X10.here hx rfl (hb hby at_196) rfl rfl kZ) ?_
            have EB11 : Ext hB T9.heap := own_eb0 Eb K9
            obtain ⟨cq12, kq12, q12a, q12b, q12c⟩ := isOf hZ3 heq10 OO9.1
            obtain ⟨_, _, ⟨T12, L12, k12, n12⟩, -, X12, ⟨Lc12, hQ12, l12, y12, z12⟩, st12⟩ := X10.virtualBack hx (y := (⟨"com/example/fairgate/fairgate/processor/Order", "fill", "(Lcom/example/fairgate/fairgate/processor/Trade;)Lcom/example/fairgate/fairgate/processor/Fill;"⟩ : MethodName)) (z := (⟨"com/example/fairgate/fairgate/processor/Order", "fill", "(Lcom/example/fairgate/fairgate/processor/Trade;)Lcom/example/fairgate/fairgate/processor/Fill;"⟩ : MethodName)) hown3 (mvT hZ3 (hw _ (List.mem_of_getElem? (i := 80) rfl))) (mvT hZ3 (hw _ (List.mem_of_getElem? (i := 81) rfl))) (notFace_of_selects (args := #[]) (mvT hZ3 (hw _ (List.mem_of_getElem? (i := 83) rfl)))) (mvT hZ3 (hw _ (List.mem_of_getElem? (i := 83) rfl))) (mvT hZ3 (hw _ (List.mem_of_getElem? (i := 82) rfl))) (by decide) (backOf (W := 0) (rmFill l Z a0 hw [] b2 b6 qv ((0 : Int64) + rs) fq hB zr mz pa za rmo lt mir mc pk zc lc T9.heap n0 Zs9 EB11 WD hBn OO9 OT7_9 (Ne.symm ne_b2_b6) g_b2 hfq) hZ3 (hw _ (List.mem_of_getElem? (i := 84) rfl)) (hw _ (List.mem_of_getElem? (i := 7) rfl)) (by decide) (by decide)) q12a q12c (g := (mkF m 198 #[.val (.long p1), .second, .val (.long p2), .second, .val (.long p3), .second, .val (.long p4), .second, .val (.int p5), .val (.long qv), .second, .val (.long rs), .second, .val (.long fq), .second, .val (.long lf), .second, .val (.long fr), .second, .val (.int io), .val (.int cn), .val (.ref b2), .val (.ref b6), .val (.long (qv - (0 : Int64))), .second, .val (.long (qv - ((0 : Int64) + rs))), .second, .unset, .unset, .unset, .unset, .unset, .unset, .unset, .unset, .unset, .unset] [(.ref b6), (.ref b2)])) rfl (by rw [hml]; rfl) (Steps.refl _) (argsL := [(.ref b6)]) (rest := []) (lenOf pd_21 rfl) rfl (by show 2 * 0 + _ ≤ _; exact Nat.le_of_eq rfl) (hb hby at_198) (fun _ _ => ⟨rfl, heq10, (by decide : 4 + 6 ≤ _), (by decide : 22 + 29 ≤ _)⟩)
            dsimp only [Pt.U, Pt.locs, Pt.cells, Pt.slots] at X12 l12 y12 z12 st12 hQ12
            subst l12 y12 z12
            obtain ⟨fi, rfl, N12q, Kc12, OO12⟩ := hQ12
            have N12 := Fr.app N10 N12q
            have Zs12 := Nat.le_trans Zs9 Kc12.1
            have hk12 := Nat.le_trans hk9 Kc12.1
            have K12 := K9.trans Kc12 (fun x hx => by
                simp only [List.mem_cons, List.not_mem_nil, or_false] at hx
                rcases hx with rfl
                · exact Or.inr sz_b2)
            have OT7_12 := OT7_9.keep Kc12 (by
                simp only [List.mem_cons, List.not_mem_nil, or_false, not_or]
                exact (Ne.symm ne_b2_b6))
            refine own_by (S' := T12.setTop (mkF m 201 #[.val (.long p1), .second, .val (.long p2), .second, .val (.long p3), .second, .val (.long p4), .second, .val (.int p5), .val (.long qv), .second, .val (.long rs), .second, .val (.long fq), .second, .val (.long lf), .second, .val (.long fr), .second, .val (.int io), .val (.int cn), .val (.ref b2), .val (.ref b6), .val (.long (qv - (0 : Int64))), .second, .val (.long (qv - ((0 : Int64) + rs))), .second, .unset, .unset, .unset, .unset, .unset, .unset, .unset, .unset, .unset, .unset] [(.ref fi)])) (fun tZ kZ => st12.trans kZ) ?_
            refine own_by (S' := T12.setTop (mkF m 202 #[.val (.long p1), .second, .val (.long p2), .second, .val (.long p3), .second, .val (.long p4), .second, .val (.int p5), .val (.long qv), .second, .val (.long rs), .second, .val (.long fq), .second, .val (.long lf), .second, .val (.long fr), .second, .val (.int io), .val (.int cn), .val (.ref b2), .val (.ref b6), .val (.long (qv - (0 : Int64))), .second, .val (.long (qv - ((0 : Int64) + rs))), .second, .unset, .unset, .unset, .unset, .unset, .unset, .unset, .unset, .unset, .unset] [])) (fun tZ kZ => XS.pop X12.here hx rfl (hb hby at_201) rfl rfl kZ) ?_
            refine own_by (S' := T12.setTop (mkF m 204 #[.val (.long p1), .second, .val (.long p2), .second, .val (.long p3), .second, .val (.long p4), .second, .val (.int p5), .val (.long qv), .second, .val (.long rs), .second, .val (.long fq), .second, .val (.long lf), .second, .val (.long fr), .second, .val (.int io), .val (.int cn), .val (.ref b2), .val (.ref b6), .val (.long (qv - (0 : Int64))), .second, .val (.long (qv - ((0 : Int64) + rs))), .second, .unset, .unset, .unset, .unset, .unset, .unset, .unset, .unset, .unset, .unset] [(.ref b2)])) (fun tZ kZ => XS.aload X12.here hx rfl (hb hby at_202) rfl rfl kZ) ?_
            obtain ⟨cq13, kq13, q13a, q13b, q13c⟩ := isOf hZ3 rfl OO12.1
            obtain ⟨_, _, ⟨T13, L13, k13, n13⟩, -, X13, ⟨Lc13, hQ13, l13, y13, z13⟩, st13⟩ := X12.virtualBack hx (y := (⟨"com/example/fairgate/fairgate/processor/Order", "available", "()J"⟩ : MethodName)) (z := (⟨"com/example/fairgate/fairgate/processor/Order", "available", "()J"⟩ : MethodName)) hown3 (mvT hZ3 (hw _ (List.mem_of_getElem? (i := 66) rfl))) (mvT hZ3 (hw _ (List.mem_of_getElem? (i := 67) rfl))) (notFace_of_selects (args := #[]) (mvT hZ3 (hw _ (List.mem_of_getElem? (i := 69) rfl)))) (mvT hZ3 (hw _ (List.mem_of_getElem? (i := 69) rfl))) (mvT hZ3 (hw _ (List.mem_of_getElem? (i := 68) rfl))) (by decide) (backOf (W := 0) (rmAv l Z a0 hw [] b2 zr qv (qv - fq) ((0 : Int64) + rs - fq) (0 : Int32) T12.heap n0 Zs12 OO12) hZ3 (hw _ (List.mem_of_getElem? (i := 70) rfl)) (hw _ (List.mem_of_getElem? (i := 7) rfl)) (by decide) (by decide)) q13a q13c (g := (mkF m 204 #[.val (.long p1), .second, .val (.long p2), .second, .val (.long p3), .second, .val (.long p4), .second, .val (.int p5), .val (.long qv), .second, .val (.long rs), .second, .val (.long fq), .second, .val (.long lf), .second, .val (.long fr), .second, .val (.int io), .val (.int cn), .val (.ref b2), .val (.ref b6), .val (.long (qv - (0 : Int64))), .second, .val (.long (qv - ((0 : Int64) + rs))), .second, .unset, .unset, .unset, .unset, .unset, .unset, .unset, .unset, .unset, .unset] [(.ref b2)])) rfl (by rw [hml]; rfl) (Steps.refl _) (argsL := []) (rest := []) (lenOf pd_13 rfl) rfl (by show 2 * 0 + _ ≤ _; exact Nat.le_of_eq rfl) (hb hby at_204) (fun _ _ => ⟨rfl, rfl, (by decide : 10 + 0 ≤ _), (by decide : 51 + 0 ≤ _)⟩)
            dsimp only [Pt.U, Pt.locs, Pt.cells, Pt.slots] at X13 l13 y13 z13 st13 hQ13
            subst l13 y13 z13
            obtain ⟨rfl, N13q, heq13⟩ := hQ13
            have N13 := Fr.app N12 N13q
            refine own_by (S' := T13.setTop (mkF m 207 #[.val (.long p1), .second, .val (.long p2), .second, .val (.long p3), .second, .val (.long p4), .second, .val (.int p5), .val (.long qv), .second, .val (.long rs), .second, .val (.long fq), .second, .val (.long lf), .second, .val (.long fr), .second, .val (.int io), .val (.int cn), .val (.ref b2), .val (.ref b6), .val (.long (qv - (0 : Int64))), .second, .val (.long (qv - ((0 : Int64) + rs))), .second, .unset, .unset, .unset, .unset, .unset, .unset, .unset, .unset, .unset, .unset] [(.long (if (0 : Int32) = 0 then (qv - fq) - ((0 : Int64) + rs - fq) else 0))])) (fun tZ kZ => st13.trans kZ) ?_
            rw [if_pos rfl]
            refine own_by (S' := T13.setTop (mkF m 209 #[.val (.long p1), .second, .val (.long p2), .second, .val (.long p3), .second, .val (.long p4), .second, .val (.int p5), .val (.long qv), .second, .val (.long rs), .second, .val (.long fq), .second, .val (.long lf), .second, .val (.long fr), .second, .val (.int io), .val (.int cn), .val (.ref b2), .val (.ref b6), .val (.long (qv - (0 : Int64))), .second, .val (.long (qv - ((0 : Int64) + rs))), .second, .val (.long ((qv - fq) - ((0 : Int64) + rs - fq))), .second, .unset, .unset, .unset, .unset, .unset, .unset, .unset, .unset] [])) (fun tZ kZ => XS.lstore X13.here hx rfl (hb hby at_207) rfl (l' := #[.val (.long p1), .second, .val (.long p2), .second, .val (.long p3), .second, .val (.long p4), .second, .val (.int p5), .val (.long qv), .second, .val (.long rs), .second, .val (.long fq), .second, .val (.long lf), .second, .val (.long fr), .second, .val (.int io), .val (.int cn), .val (.ref b2), .val (.ref b6), .val (.long (qv - (0 : Int64))), .second, .val (.long (qv - ((0 : Int64) + rs))), .second, .val (.long ((qv - fq) - ((0 : Int64) + rs - fq))), .second, .unset, .unset, .unset, .unset, .unset, .unset, .unset, .unset]) rfl kZ) ?_
            refine own_by (S' := T13.setTop (mkF m 211 #[.val (.long p1), .second, .val (.long p2), .second, .val (.long p3), .second, .val (.long p4), .second, .val (.int p5), .val (.long qv), .second, .val (.long rs), .second, .val (.long fq), .second, .val (.long lf), .second, .val (.long fr), .second, .val (.int io), .val (.int cn), .val (.ref b2), .val (.ref b6), .val (.long (qv - (0 : Int64))), .second, .val (.long (qv - ((0 : Int64) + rs))), .second, .val (.long ((qv - fq) - ((0 : Int64) + rs - fq))), .second, .unset, .unset, .unset, .unset, .unset, .unset, .unset, .unset] [(.ref b2)])) (fun tZ kZ => XS.aload X13.here hx rfl (hb hby at_209) rfl rfl kZ) ?_
            refine own_by (S' := T13.setTop (mkF m 213 #[.val (.long p1), .second, .val (.long p2), .second, .val (.long p3), .second, .val (.long p4), .second, .val (.int p5), .val (.long qv), .second, .val (.long rs), .second, .val (.long fq), .second, .val (.long lf), .second, .val (.long fr), .second, .val (.int io), .val (.int cn), .val (.ref b2), .val (.ref b6), .val (.long (qv - (0 : Int64))), .second, .val (.long (qv - ((0 : Int64) + rs))), .second, .val (.long ((qv - fq) - ((0 : Int64) + rs - fq))), .second, .unset, .unset, .unset, .unset, .unset, .unset, .unset, .unset] [(.long fr), (.ref b2)])) (fun tZ kZ => XS.lload X13.here hx rfl (hb hby at_211) rfl kZ) ?_
            obtain ⟨cq14, kq14, q14a, q14b, q14c⟩ := isOf hZ3 heq13 OO12.1
            obtain ⟨_, _, ⟨T14, L14, k14, n14⟩, -, X14, ⟨Lc14, hQ14, l14, y14, z14⟩, st14⟩ := X13.virtualBack hx (y := (⟨"com/example/fairgate/fairgate/processor/Order", "free", "(J)V"⟩ : MethodName)) (z := (⟨"com/example/fairgate/fairgate/processor/Order", "free", "(J)V"⟩ : MethodName)) hown3 (mvT hZ3 (hw _ (List.mem_of_getElem? (i := 220) rfl))) (mvT hZ3 (hw _ (List.mem_of_getElem? (i := 221) rfl))) (notFace_of_selects (args := #[]) (mvT hZ3 (hw _ (List.mem_of_getElem? (i := 223) rfl)))) (mvT hZ3 (hw _ (List.mem_of_getElem? (i := 223) rfl))) (mvT hZ3 (hw _ (List.mem_of_getElem? (i := 222) rfl))) (by decide) (backOf (W := 0) (rmFr l Z a0 hw [] b2 zr qv (qv - fq) ((0 : Int64) + rs - fq) (0 : Int32) fr T12.heap n0 Zs12 OO12 g_b2) hZ3 (hw _ (List.mem_of_getElem? (i := 224) rfl)) (hw _ (List.mem_of_getElem? (i := 7) rfl)) (by decide) (by decide)) q14a q14c (g := (mkF m 213 #[.val (.long p1), .second, .val (.long p2), .second, .val (.long p3), .second, .val (.long p4), .second, .val (.int p5), .val (.long qv), .second, .val (.long rs), .second, .val (.long fq), .second, .val (.long lf), .second, .val (.long fr), .second, .val (.int io), .val (.int cn), .val (.ref b2), .val (.ref b6), .val (.long (qv - (0 : Int64))), .second, .val (.long (qv - ((0 : Int64) + rs))), .second, .val (.long ((qv - fq) - ((0 : Int64) + rs - fq))), .second, .unset, .unset, .unset, .unset, .unset, .unset, .unset, .unset] [(.long fr), (.ref b2)])) rfl (by rw [hml]; rfl) (Steps.refl _) (argsL := [(.long fr)]) (rest := []) (lenOf pd_1 rfl) rfl (by show 2 * 0 + _ ≤ _; exact Nat.le_of_eq rfl) (hb hby at_213) (fun _ _ => ⟨rfl, heq13, (by decide : 10 + 0 ≤ _), (by decide : 51 + 0 ≤ _)⟩)
            dsimp only [Pt.U, Pt.locs, Pt.cells, Pt.slots] at X14 l14 y14 z14 st14 hQ14
            subst l14 y14 z14
            obtain ⟨rfl, N14q, Kc14, OO14⟩ := hQ14
            have N14 := Fr.app N13 N14q
            have Zs14 := Nat.le_trans Zs12 Kc14.1
            have hk14 := Nat.le_trans hk12 Kc14.1
            have K14 := K12.trans Kc14 (fun x hx => by
                simp only [List.mem_cons, List.not_mem_nil, or_false] at hx
                rcases hx with rfl
                · exact Or.inr sz_b2)
            have OT7_14 := OT7_12.keep Kc14 (by
                simp only [List.mem_cons, List.not_mem_nil, or_false, not_or]
                exact (Ne.symm ne_b2_b6))
            refine own_by (S' := T14.setTop (mkF m 216 #[.val (.long p1), .second, .val (.long p2), .second, .val (.long p3), .second, .val (.long p4), .second, .val (.int p5), .val (.long qv), .second, .val (.long rs), .second, .val (.long fq), .second, .val (.long lf), .second, .val (.long fr), .second, .val (.int io), .val (.int cn), .val (.ref b2), .val (.ref b6), .val (.long (qv - (0 : Int64))), .second, .val (.long (qv - ((0 : Int64) + rs))), .second, .val (.long ((qv - fq) - ((0 : Int64) + rs - fq))), .second, .unset, .unset, .unset, .unset, .unset, .unset, .unset, .unset] [])) (fun tZ kZ => st14.trans kZ) ?_
            refine own_by (S' := T14.setTop (mkF m 218 #[.val (.long p1), .second, .val (.long p2), .second, .val (.long p3), .second, .val (.long p4), .second, .val (.int p5), .val (.long qv), .second, .val (.long rs), .second, .val (.long fq), .second, .val (.long lf), .second, .val (.long fr), .second, .val (.int io), .val (.int cn), .val (.ref b2), .val (.ref b6), .val (.long (qv - (0 : Int64))), .second, .val (.long (qv - ((0 : Int64) + rs))), .second, .val (.long ((qv - fq) - ((0 : Int64) + rs - fq))), .second, .unset, .unset, .unset, .unset, .unset, .unset, .unset, .unset] [(.ref b2)])) (fun tZ kZ => XS.aload X14.here hx rfl (hb hby at_216) rfl rfl kZ) ?_
            obtain ⟨cq15, kq15, q15a, q15b, q15c⟩ := isOf hZ3 rfl OO14.1
            obtain ⟨_, _, ⟨T15, L15, k15, n15⟩, -, X15, ⟨Lc15, hQ15, l15, y15, z15⟩, st15⟩ := X14.virtualBack hx (y := (⟨"com/example/fairgate/fairgate/processor/Order", "available", "()J"⟩ : MethodName)) (z := (⟨"com/example/fairgate/fairgate/processor/Order", "available", "()J"⟩ : MethodName)) hown3 (mvT hZ3 (hw _ (List.mem_of_getElem? (i := 66) rfl))) (mvT hZ3 (hw _ (List.mem_of_getElem? (i := 67) rfl))) (notFace_of_selects (args := #[]) (mvT hZ3 (hw _ (List.mem_of_getElem? (i := 69) rfl)))) (mvT hZ3 (hw _ (List.mem_of_getElem? (i := 69) rfl))) (mvT hZ3 (hw _ (List.mem_of_getElem? (i := 68) rfl))) (by decide) (backOf (W := 0) (rmAv l Z a0 hw [] b2 zr qv (qv - fq) ((0 : Int64) + rs - fq - fr) (0 : Int32) T14.heap n0 Zs14 OO14) hZ3 (hw _ (List.mem_of_getElem? (i := 70) rfl)) (hw _ (List.mem_of_getElem? (i := 7) rfl)) (by decide) (by decide)) q15a q15c (g := (mkF m 218 #[.val (.long p1), .second, .val (.long p2), .second, .val (.long p3), .second, .val (.long p4), .second, .val (.int p5), .val (.long qv), .second, .val (.long rs), .second, .val (.long fq), .second, .val (.long lf), .second, .val (.long fr), .second, .val (.int io), .val (.int cn), .val (.ref b2), .val (.ref b6), .val (.long (qv - (0 : Int64))), .second, .val (.long (qv - ((0 : Int64) + rs))), .second, .val (.long ((qv - fq) - ((0 : Int64) + rs - fq))), .second, .unset, .unset, .unset, .unset, .unset, .unset, .unset, .unset] [(.ref b2)])) rfl (by rw [hml]; rfl) (Steps.refl _) (argsL := []) (rest := []) (lenOf pd_13 rfl) rfl (by show 2 * 0 + _ ≤ _; exact Nat.le_of_eq rfl) (hb hby at_218) (fun _ _ => ⟨rfl, rfl, (by decide : 10 + 0 ≤ _), (by decide : 51 + 0 ≤ _)⟩)
            dsimp only [Pt.U, Pt.locs, Pt.cells, Pt.slots] at X15 l15 y15 z15 st15 hQ15
            subst l15 y15 z15
            obtain ⟨rfl, N15q, heq15⟩ := hQ15
            have N15 := Fr.app N14 N15q
            refine own_by (S' := T15.setTop (mkF m 221 #[.val (.long p1), .second, .val (.long p2), .second, .val (.long p3), .second, .val (.long p4), .second, .val (.int p5), .val (.long qv), .second, .val (.long rs), .second, .val (.long fq), .second, .val (.long lf), .second, .val (.long fr), .second, .val (.int io), .val (.int cn), .val (.ref b2), .val (.ref b6), .val (.long (qv - (0 : Int64))), .second, .val (.long (qv - ((0 : Int64) + rs))), .second, .val (.long ((qv - fq) - ((0 : Int64) + rs - fq))), .second, .unset, .unset, .unset, .unset, .unset, .unset, .unset, .unset] [(.long (if (0 : Int32) = 0 then (qv - fq) - ((0 : Int64) + rs - fq - fr) else 0))])) (fun tZ kZ => st15.trans kZ) ?_
            rw [if_pos rfl]
            refine own_by (S' := T15.setTop (mkF m 223 #[.val (.long p1), .second, .val (.long p2), .second, .val (.long p3), .second, .val (.long p4), .second, .val (.int p5), .val (.long qv), .second, .val (.long rs), .second, .val (.long fq), .second, .val (.long lf), .second, .val (.long fr), .second, .val (.int io), .val (.int cn), .val (.ref b2), .val (.ref b6), .val (.long (qv - (0 : Int64))), .second, .val (.long (qv - ((0 : Int64) + rs))), .second, .val (.long ((qv - fq) - ((0 : Int64) + rs - fq))), .second, .val (.long ((qv - fq) - ((0 : Int64) + rs - fq - fr))), .second, .unset, .unset, .unset, .unset, .unset, .unset] [])) (fun tZ kZ => XS.lstore X15.here hx rfl (hb hby at_221) rfl (l' := #[.val (.long p1), .second, .val (.long p2), .second, .val (.long p3), .second, .val (.long p4), .second, .val (.int p5), .val (.long qv), .second, .val (.long rs), .second, .val (.long fq), .second, .val (.long lf), .second, .val (.long fr), .second, .val (.int io), .val (.int cn), .val (.ref b2), .val (.ref b6), .val (.long (qv - (0 : Int64))), .second, .val (.long (qv - ((0 : Int64) + rs))), .second, .val (.long ((qv - fq) - ((0 : Int64) + rs - fq))), .second, .val (.long ((qv - fq) - ((0 : Int64) + rs - fq - fr))), .second, .unset, .unset, .unset, .unset, .unset, .unset]) rfl kZ) ?_
            refine own_by (S' := T15.setTop (mkF m 225 #[.val (.long p1), .second, .val (.long p2), .second, .val (.long p3), .second, .val (.long p4), .second, .val (.int p5), .val (.long qv), .second, .val (.long rs), .second, .val (.long fq), .second, .val (.long lf), .second, .val (.long fr), .second, .val (.int io), .val (.int cn), .val (.ref b2), .val (.ref b6), .val (.long (qv - (0 : Int64))), .second, .val (.long (qv - ((0 : Int64) + rs))), .second, .val (.long ((qv - fq) - ((0 : Int64) + rs - fq))), .second, .val (.long ((qv - fq) - ((0 : Int64) + rs - fq - fr))), .second, .unset, .unset, .unset, .unset, .unset, .unset] [(.int cn)])) (fun tZ kZ => XS.iload X15.here hx rfl (hb hby at_223) rfl kZ) ?_
            by_cases hcn : cn = (0 : Int32)
            · refine own_by (S' := T15.setTop (mkF m 233 #[.val (.long p1), .second, .val (.long p2), .second, .val (.long p3), .second, .val (.long p4), .second, .val (.int p5), .val (.long qv), .second, .val (.long rs), .second, .val (.long fq), .second, .val (.long lf), .second, .val (.long fr), .second, .val (.int io), .val (.int cn), .val (.ref b2), .val (.ref b6), .val (.long (qv - (0 : Int64))), .second, .val (.long (qv - ((0 : Int64) + rs))), .second, .val (.long ((qv - fq) - ((0 : Int64) + rs - fq))), .second, .val (.long ((qv - fq) - ((0 : Int64) + rs - fq - fr))), .second, .unset, .unset, .unset, .unset, .unset, .unset] [])) (fun tZ kZ => XS.ifYes X15.here hx rfl (pc0 := 225) (pc' := 233) rfl (hb hby at_225) rfl ((if0 _ _).trans (teq hcn).1) (by decide) (by decide) kZ) ?_
              refine own_by (S' := T15.setTop (mkF m 235 #[.val (.long p1), .second, .val (.long p2), .second, .val (.long p3), .second, .val (.long p4), .second, .val (.int p5), .val (.long qv), .second, .val (.long rs), .second, .val (.long fq), .second, .val (.long lf), .second, .val (.long fr), .second, .val (.int io), .val (.int cn), .val (.ref b2), .val (.ref b6), .val (.long (qv - (0 : Int64))), .second, .val (.long (qv - ((0 : Int64) + rs))), .second, .val (.long ((qv - fq) - ((0 : Int64) + rs - fq))), .second, .val (.long ((qv - fq) - ((0 : Int64) + rs - fq - fr))), .second, .unset, .unset, .unset, .unset, .unset, .unset] [(.ref b2)])) (fun tZ kZ => XS.aload X15.here hx rfl (hb hby at_233) rfl rfl kZ) ?_
              obtain ⟨cq16, kq16, q16a, q16b, q16c⟩ := isOf hZ3 heq15 OO14.1
              obtain ⟨_, _, ⟨T16, L16, k16, n16⟩, -, X16, ⟨Lc16, hQ16, l16, y16, z16⟩, st16⟩ := X15.virtualBack hx (y := (⟨"com/example/fairgate/fairgate/processor/Order", "available", "()J"⟩ : MethodName)) (z := (⟨"com/example/fairgate/fairgate/processor/Order", "available", "()J"⟩ : MethodName)) hown3 (mvT hZ3 (hw _ (List.mem_of_getElem? (i := 66) rfl))) (mvT hZ3 (hw _ (List.mem_of_getElem? (i := 67) rfl))) (notFace_of_selects (args := #[]) (mvT hZ3 (hw _ (List.mem_of_getElem? (i := 69) rfl)))) (mvT hZ3 (hw _ (List.mem_of_getElem? (i := 69) rfl))) (mvT hZ3 (hw _ (List.mem_of_getElem? (i := 68) rfl))) (by decide) (backOf (W := 0) (rmAv l Z a0 hw [] b2 zr qv (qv - fq) ((0 : Int64) + rs - fq - fr) (0 : Int32) T14.heap n0 Zs14 OO14) hZ3 (hw _ (List.mem_of_getElem? (i := 70) rfl)) (hw _ (List.mem_of_getElem? (i := 7) rfl)) (by decide) (by decide)) q16a q16c (g := (mkF m 235 #[.val (.long p1), .second, .val (.long p2), .second, .val (.long p3), .second, .val (.long p4), .second, .val (.int p5), .val (.long qv), .second, .val (.long rs), .second, .val (.long fq), .second, .val (.long lf), .second, .val (.long fr), .second, .val (.int io), .val (.int cn), .val (.ref b2), .val (.ref b6), .val (.long (qv - (0 : Int64))), .second, .val (.long (qv - ((0 : Int64) + rs))), .second, .val (.long ((qv - fq) - ((0 : Int64) + rs - fq))), .second, .val (.long ((qv - fq) - ((0 : Int64) + rs - fq - fr))), .second, .unset, .unset, .unset, .unset, .unset, .unset] [(.ref b2)])) rfl (by rw [hml]; rfl) (Steps.refl _) (argsL := []) (rest := []) (lenOf pd_13 rfl) rfl (by show 2 * 0 + _ ≤ _; exact Nat.le_of_eq rfl) (hb hby at_235) (fun _ _ => ⟨rfl, heq15, (by decide : 10 + 0 ≤ _), (by decide : 51 + 0 ≤ _)⟩)
              dsimp only [Pt.U, Pt.locs, Pt.cells, Pt.slots] at X16 l16 y16 z16 st16 hQ16
              subst l16 y16 z16
              obtain ⟨rfl, N16q, heq16⟩ := hQ16
              have N16 := Fr.app N15 N16q
              refine own_by (S' := T16.setTop (mkF m 238 #[.val (.long p1), .second, .val (.long p2), .second, .val (.long p3), .second, .val (.long p4), .second, .val (.int p5), .val (.long qv), .second, .val (.long rs), .second, .val (.long fq), .second, .val (.long lf), .second, .val (.long fr), .second, .val (.int io), .val (.int cn), .val (.ref b2), .val (.ref b6), .val (.long (qv - (0 : Int64))), .second, .val (.long (qv - ((0 : Int64) + rs))), .second, .val (.long ((qv - fq) - ((0 : Int64) + rs - fq))), .second, .val (.long ((qv - fq) - ((0 : Int64) + rs - fq - fr))), .second, .unset, .unset, .unset, .unset, .unset, .unset] [(.long (if (0 : Int32) = 0 then (qv - fq) - ((0 : Int64) + rs - fq - fr) else 0))])) (fun tZ kZ => st16.trans kZ) ?_
              rw [if_pos rfl]
              refine own_by (S' := T16.setTop (mkF m 240 #[.val (.long p1), .second, .val (.long p2), .second, .val (.long p3), .second, .val (.long p4), .second, .val (.int p5), .val (.long qv), .second, .val (.long rs), .second, .val (.long fq), .second, .val (.long lf), .second, .val (.long fr), .second, .val (.int io), .val (.int cn), .val (.ref b2), .val (.ref b6), .val (.long (qv - (0 : Int64))), .second, .val (.long (qv - ((0 : Int64) + rs))), .second, .val (.long ((qv - fq) - ((0 : Int64) + rs - fq))), .second, .val (.long ((qv - fq) - ((0 : Int64) + rs - fq - fr))), .second, .val (.long ((qv - fq) - ((0 : Int64) + rs - fq - fr))), .second, .unset, .unset, .unset, .unset] [])) (fun tZ kZ => XS.lstore X16.here hx rfl (hb hby at_238) rfl (l' := #[.val (.long p1), .second, .val (.long p2), .second, .val (.long p3), .second, .val (.long p4), .second, .val (.int p5), .val (.long qv), .second, .val (.long rs), .second, .val (.long fq), .second, .val (.long lf), .second, .val (.long fr), .second, .val (.int io), .val (.int cn), .val (.ref b2), .val (.ref b6), .val (.long (qv - (0 : Int64))), .second, .val (.long (qv - ((0 : Int64) + rs))), .second, .val (.long ((qv - fq) - ((0 : Int64) + rs - fq))), .second, .val (.long ((qv - fq) - ((0 : Int64) + rs - fq - fr))), .second, .val (.long ((qv - fq) - ((0 : Int64) + rs - fq - fr))), .second, .unset, .unset, .unset, .unset]) rfl kZ) ?_
              refine own_by (S' := T16.setTop (mkF m 242 #[.val (.long p1), .second, .val (.long p2), .second, .val (.long p3), .second, .val (.long p4), .second, .val (.int p5), .val (.long qv), .second, .val (.long rs), .second, .val (.long fq), .second, .val (.long lf), .second, .val (.long fr), .second, .val (.int io), .val (.int cn), .val (.ref b2), .val (.ref b6), .val (.long (qv - (0 : Int64))), .second, .val (.long (qv - ((0 : Int64) + rs))), .second, .val (.long ((qv - fq) - ((0 : Int64) + rs - fq))), .second, .val (.long ((qv - fq) - ((0 : Int64) + rs - fq - fr))), .second, .val (.long ((qv - fq) - ((0 : Int64) + rs - fq - fr))), .second, .unset, .unset, .unset, .unset] [(.long qv)])) (fun tZ kZ => XS.lload X16.here hx rfl (hb hby at_240) rfl kZ) ?_
              refine own_by (S' := T16.setTop (mkF m 244 #[.val (.long p1), .second, .val (.long p2), .second, .val (.long p3), .second, .val (.long p4), .second, .val (.int p5), .val (.long qv), .second, .val (.long rs), .second, .val (.long fq), .second, .val (.long lf), .second, .val (.long fr), .second, .val (.int io), .val (.int cn), .val (.ref b2), .val (.ref b6), .val (.long (qv - (0 : Int64))), .second, .val (.long (qv - ((0 : Int64) + rs))), .second, .val (.long ((qv - fq) - ((0 : Int64) + rs - fq))), .second, .val (.long ((qv - fq) - ((0 : Int64) + rs - fq - fr))), .second, .val (.long ((qv - fq) - ((0 : Int64) + rs - fq - fr))), .second, .unset, .unset, .unset, .unset] [(.long rs), (.long qv)])) (fun tZ kZ => XS.lload X16.here hx rfl (hb hby at_242) rfl kZ) ?_
              refine own_by (S' := T16.setTop (mkF m 245 #[.val (.long p1), .second, .val (.long p2), .second, .val (.long p3), .second, .val (.long p4), .second, .val (.int p5), .val (.long qv), .second, .val (.long rs), .second, .val (.long fq), .second, .val (.long lf), .second, .val (.long fr), .second, .val (.int io), .val (.int cn), .val (.ref b2), .val (.ref b6), .val (.long (qv - (0 : Int64))), .second, .val (.long (qv - ((0 : Int64) + rs))), .second, .val (.long ((qv - fq) - ((0 : Int64) + rs - fq))), .second, .val (.long ((qv - fq) - ((0 : Int64) + rs - fq - fr))), .second, .val (.long ((qv - fq) - ((0 : Int64) + rs - fq - fr))), .second, .unset, .unset, .unset, .unset] [(.long (qv - rs))])) (fun tZ kZ => XS.lsub X16.here hx rfl (hb hby at_244) rfl kZ) ?_
              refine own_by (S' := T16.setTop (mkF m 247 #[.val (.long p1), .second, .val (.long p2), .second, .val (.long p3), .second, .val (.long p4), .second, .val (.int p5), .val (.long qv), .second, .val (.long rs), .second, .val (.long fq), .second, .val (.long lf), .second, .val (.long fr), .second, .val (.int io), .val (.int cn), .val (.ref b2), .val (.ref b6), .val (.long (qv - (0 : Int64))), .second, .val (.long (qv - ((0 : Int64) + rs))), .second, .val (.long ((qv - fq) - ((0 : Int64) + rs - fq))), .second, .val (.long ((qv - fq) - ((0 : Int64) + rs - fq - fr))), .second, .val (.long ((qv - fq) - ((0 : Int64) + rs - fq - fr))), .second, .unset, .unset, .unset, .unset] [(.long fr), (.long (qv - rs))])) (fun tZ kZ => XS.lload X16.here hx rfl (hb hby at_245) rfl kZ) ?_
              refine own_by (S' := T16.setTop (mkF m 248 #[.val (.long p1), .second, .val (.long p2), .second, .val (.long p3), .second, .val (.long p4), .second, .val (.int p5), .val (.long qv), .second, .val (.long rs), .second, .val (.long fq), .second, .val (.long lf), .second, .val (.long fr), .second, .val (.int io), .val (.int cn), .val (.ref b2), .val (.ref b6), .val (.long (qv - (0 : Int64))), .second, .val (.long (qv - ((0 : Int64) + rs))), .second, .val (.long ((qv - fq) - ((0 : Int64) + rs - fq))), .second, .val (.long ((qv - fq) - ((0 : Int64) + rs - fq - fr))), .second, .val (.long ((qv - fq) - ((0 : Int64) + rs - fq - fr))), .second, .unset, .unset, .unset, .unset] [(.long ((qv - rs) + fr))])) (fun tZ kZ => XS.ladd X16.here hx rfl (hb hby at_247) rfl kZ) ?_
              refine own_by (S' := T16.setTop (mkF m 250 #[.val (.long p1), .second, .val (.long p2), .second, .val (.long p3), .second, .val (.long p4), .second, .val (.int p5), .val (.long qv), .second, .val (.long rs), .second, .val (.long fq), .second, .val (.long lf), .second, .val (.long fr), .second, .val (.int io), .val (.int cn), .val (.ref b2), .val (.ref b6), .val (.long (qv - (0 : Int64))), .second, .val (.long (qv - ((0 : Int64) + rs))), .second, .val (.long ((qv - fq) - ((0 : Int64) + rs - fq))), .second, .val (.long ((qv - fq) - ((0 : Int64) + rs - fq - fr))), .second, .val (.long ((qv - fq) - ((0 : Int64) + rs - fq - fr))), .second, .val (.long ((qv - rs) + fr)), .second, .unset, .unset] [])) (fun tZ kZ => XS.lstore X16.here hx rfl (hb hby at_248) rfl (l' := #[.val (.long p1), .second, .val (.long p2), .second, .val (.long p3), .second, .val (.long p4), .second, .val (.int p5), .val (.long qv), .second, .val (.long rs), .second, .val (.long fq), .second, .val (.long lf), .second, .val (.long fr), .second, .val (.int io), .val (.int cn), .val (.ref b2), .val (.ref b6), .val (.long (qv - (0 : Int64))), .second, .val (.long (qv - ((0 : Int64) + rs))), .second, .val (.long ((qv - fq) - ((0 : Int64) + rs - fq))), .second, .val (.long ((qv - fq) - ((0 : Int64) + rs - fq - fr))), .second, .val (.long ((qv - fq) - ((0 : Int64) + rs - fq - fr))), .second, .val (.long ((qv - rs) + fr)), .second, .unset, .unset]) rfl kZ) ?_
              refine own_by (S' := T16.setTop (mkF m 252 #[.val (.long p1), .second, .val (.long p2), .second, .val (.long p3), .second, .val (.long p4), .second, .val (.int p5), .val (.long qv), .second, .val (.long rs), .second, .val (.long fq), .second, .val (.long lf), .second, .val (.long fr), .second, .val (.int io), .val (.int cn), .val (.ref b2), .val (.ref b6), .val (.long (qv - (0 : Int64))), .second, .val (.long (qv - ((0 : Int64) + rs))), .second, .val (.long ((qv - fq) - ((0 : Int64) + rs - fq))), .second, .val (.long ((qv - fq) - ((0 : Int64) + rs - fq - fr))), .second, .val (.long ((qv - fq) - ((0 : Int64) + rs - fq - fr))), .second, .val (.long ((qv - rs) + fr)), .second, .unset, .unset] [(.int cn)])) (fun tZ kZ => XS.iload X16.here hx rfl (hb hby at_250) rfl kZ) ?_
              refine own_by (S' := T16.setTop (mkF m 259 #[.val (.long p1), .second, .val (.long p2), .second, .val (.long p3), .second, .val (.long p4), .second, .val (.int p5), .val (.long qv), .second, .val (.long rs), .second, .val (.long fq), .second, .val (.long lf), .second, .val (.long fr), .second, .val (.int io), .val (.int cn), .val (.ref b2), .val (.ref b6), .val (.long (qv - (0 : Int64))), .second, .val (.long (qv - ((0 : Int64) + rs))), .second, .val (.long ((qv - fq) - ((0 : Int64) + rs - fq))), .second, .val (.long ((qv - fq) - ((0 : Int64) + rs - fq - fr))), .second, .val (.long ((qv - fq) - ((0 : Int64) + rs - fq - fr))), .second, .val (.long ((qv - rs) + fr)), .second, .unset, .unset] [])) (fun tZ kZ => XS.ifYes X16.here hx rfl (pc0 := 252) (pc' := 259) rfl (hb hby at_252) rfl ((if0 _ _).trans (teq hcn).1) (by decide) (by decide) kZ) ?_
              refine own_by (S' := T16.setTop (mkF m 261 #[.val (.long p1), .second, .val (.long p2), .second, .val (.long p3), .second, .val (.long p4), .second, .val (.int p5), .val (.long qv), .second, .val (.long rs), .second, .val (.long fq), .second, .val (.long lf), .second, .val (.long fr), .second, .val (.int io), .val (.int cn), .val (.ref b2), .val (.ref b6), .val (.long (qv - (0 : Int64))), .second, .val (.long (qv - ((0 : Int64) + rs))), .second, .val (.long ((qv - fq) - ((0 : Int64) + rs - fq))), .second, .val (.long ((qv - fq) - ((0 : Int64) + rs - fq - fr))), .second, .val (.long ((qv - fq) - ((0 : Int64) + rs - fq - fr))), .second, .val (.long ((qv - rs) + fr)), .second, .unset, .unset] [(.long ((qv - rs) + fr))])) (fun tZ kZ => XS.lload X16.here hx rfl (hb hby at_259) rfl kZ) ?_
              refine own_by (S' := T16.setTop (mkF m 263 #[.val (.long p1), .second, .val (.long p2), .second, .val (.long p3), .second, .val (.long p4), .second, .val (.int p5), .val (.long qv), .second, .val (.long rs), .second, .val (.long fq), .second, .val (.long lf), .second, .val (.long fr), .second, .val (.int io), .val (.int cn), .val (.ref b2), .val (.ref b6), .val (.long (qv - (0 : Int64))), .second, .val (.long (qv - ((0 : Int64) + rs))), .second, .val (.long ((qv - fq) - ((0 : Int64) + rs - fq))), .second, .val (.long ((qv - fq) - ((0 : Int64) + rs - fq - fr))), .second, .val (.long ((qv - fq) - ((0 : Int64) + rs - fq - fr))), .second, .val (.long ((qv - rs) + fr)), .second, .val (.long ((qv - rs) + fr)), .second] [])) (fun tZ kZ => XS.lstore X16.here hx rfl (hb hby at_261) rfl (l' := #[.val (.long p1), .second, .val (.long p2), .second, .val (.long p3), .second, .val (.long p4), .second, .val (.int p5), .val (.long qv), .second, .val (.long rs), .second, .val (.long fq), .second, .val (.long lf), .second, .val (.long fr), .second, .val (.int io), .val (.int cn), .val (.ref b2), .val (.ref b6), .val (.long (qv - (0 : Int64))), .second, .val (.long (qv - ((0 : Int64) + rs))), .second, .val (.long ((qv - fq) - ((0 : Int64) + rs - fq))), .second, .val (.long ((qv - fq) - ((0 : Int64) + rs - fq - fr))), .second, .val (.long ((qv - fq) - ((0 : Int64) + rs - fq - fr))), .second, .val (.long ((qv - rs) + fr)), .second, .val (.long ((qv - rs) + fr)), .second]) rfl kZ) ?_
              refine own_by (S' := T16.setTop (mkF m 265 #[.val (.long p1), .second, .val (.long p2), .second, .val (.long p3), .second, .val (.long p4), .second, .val (.int p5), .val (.long qv), .second, .val (.long rs), .second, .val (.long fq), .second, .val (.long lf), .second, .val (.long fr), .second, .val (.int io), .val (.int cn), .val (.ref b2), .val (.ref b6), .val (.long (qv - (0 : Int64))), .second, .val (.long (qv - ((0 : Int64) + rs))), .second, .val (.long ((qv - fq) - ((0 : Int64) + rs - fq))), .second, .val (.long ((qv - fq) - ((0 : Int64) + rs - fq - fr))), .second, .val (.long ((qv - fq) - ((0 : Int64) + rs - fq - fr))), .second, .val (.long ((qv - rs) + fr)), .second, .val (.long ((qv - rs) + fr)), .second] [(.long (qv - (0 : Int64)))])) (fun tZ kZ => XS.lload X16.here hx rfl (hb hby at_263) rfl kZ) ?_
              refine own_by (S' := T16.setTop (mkF m 267 #[.val (.long p1), .second, .val (.long p2), .second, .val (.long p3), .second, .val (.long p4), .second, .val (.int p5), .val (.long qv), .second, .val (.long rs), .second, .val (.long fq), .second, .val (.long lf), .second, .val (.long fr), .second, .val (.int io), .val (.int cn), .val (.ref b2), .val (.ref b6), .val (.long (qv - (0 : Int64))), .second, .val (.long (qv - ((0 : Int64) + rs))), .second, .val (.long ((qv - fq) - ((0 : Int64) + rs - fq))), .second, .val (.long ((qv - fq) - ((0 : Int64) + rs - fq - fr))), .second, .val (.long ((qv - fq) - ((0 : Int64) + rs - fq - fr))), .second, .val (.long ((qv - rs) + fr)), .second, .val (.long ((qv - rs) + fr)), .second] [(.long qv), (.long (qv - (0 : Int64)))])) (fun tZ kZ => XS.lload X16.here hx rfl (hb hby at_265) rfl kZ) ?_
              refine own_by (S' := T16.setTop (mkF m 268 #[.val (.long p1), .second, .val (.long p2), .second, .val (.long p3), .second, .val (.long p4), .second, .val (.int p5), .val (.long qv), .second, .val (.long rs), .second, .val (.long fq), .second, .val (.long lf), .second, .val (.long fr), .second, .val (.int io), .val (.int cn), .val (.ref b2), .val (.ref b6), .val (.long (qv - (0 : Int64))), .second, .val (.long (qv - ((0 : Int64) + rs))), .second, .val (.long ((qv - fq) - ((0 : Int64) + rs - fq))), .second, .val (.long ((qv - fq) - ((0 : Int64) + rs - fq - fr))), .second, .val (.long ((qv - fq) - ((0 : Int64) + rs - fq - fr))), .second, .val (.long ((qv - rs) + fr)), .second, .val (.long ((qv - rs) + fr)), .second] [(.int (lcmpW (qv - (0 : Int64)) qv))])) (fun tZ kZ => XS.lcmp X16.here hx rfl (hb hby at_267) rfl kZ) ?_
              refine own_by (S' := T16.setTop (mkF m 271 #[.val (.long p1), .second, .val (.long p2), .second, .val (.long p3), .second, .val (.long p4), .second, .val (.int p5), .val (.long qv), .second, .val (.long rs), .second, .val (.long fq), .second, .val (.long lf), .second, .val (.long fr), .second, .val (.int io), .val (.int cn), .val (.ref b2), .val (.ref b6), .val (.long (qv - (0 : Int64))), .second, .val (.long (qv - ((0 : Int64) + rs))), .second, .val (.long ((qv - fq) - ((0 : Int64) + rs - fq))), .second, .val (.long ((qv - fq) - ((0 : Int64) + rs - fq - fr))), .second, .val (.long ((qv - fq) - ((0 : Int64) + rs - fq - fr))), .second, .val (.long ((qv - rs) + fr)), .second, .val (.long ((qv - rs) + fr)), .second] [])) (fun tZ kZ => XS.ifNo X16.here hx rfl (hb hby at_268) rfl ((if0 _ _).trans (teq ((lw_eq _ _).mpr (own_a0 _))).2) kZ) ?_
              refine own_by (S' := T16.setTop (mkF m 273 #[.val (.long p1), .second, .val (.long p2), .second, .val (.long p3), .second, .val (.long p4), .second, .val (.int p5), .val (.long qv), .second, .val (.long rs), .second, .val (.long fq), .second, .val (.long lf), .second, .val (.long fr), .second, .val (.int io), .val (.int cn), .val (.ref b2), .val (.ref b6), .val (.long (qv - (0 : Int64))), .second, .val (.long (qv - ((0 : Int64) + rs))), .second, .val (.long ((qv - fq) - ((0 : Int64) + rs - fq))), .second, .val (.long ((qv - fq) - ((0 : Int64) + rs - fq - fr))), .second, .val (.long ((qv - fq) - ((0 : Int64) + rs - fq - fr))), .second, .val (.long ((qv - rs) + fr)), .second, .val (.long ((qv - rs) + fr)), .second] [(.long (qv - ((0 : Int64) + rs)))])) (fun tZ kZ => XS.lload X16.here hx rfl (hb hby at_271) rfl kZ) ?_
              refine own_by (S' := T16.setTop (mkF m 275 #[.val (.long p1), .second, .val (.long p2), .second, .val (.long p3), .second, .val (.long p4), .second, .val (.int p5), .val (.long qv), .second, .val (.long rs), .second, .val (.long fq), .second, .val (.long lf), .second, .val (.long fr), .second, .val (.int io), .val (.int cn), .val (.ref b2), .val (.ref b6), .val (.long (qv - (0 : Int64))), .second, .val (.long (qv - ((0 : Int64) + rs))), .second, .val (.long ((qv - fq) - ((0 : Int64) + rs - fq))), .second, .val (.long ((qv - fq) - ((0 : Int64) + rs - fq - fr))), .second, .val (.long ((qv - fq) - ((0 : Int64) + rs - fq - fr))), .second, .val (.long ((qv - rs) + fr)), .second, .val (.long ((qv - rs) + fr)), .second] [(.long qv), (.long (qv - ((0 : Int64) + rs)))])) (fun tZ kZ => XS.lload X16.here hx rfl (hb hby at_273) rfl kZ) ?_
              refine own_by (S' := T16.setTop (mkF m 277 #[.val (.long p1), .second, .val (.long p2), .second, .val (.long p3), .second, .val (.long p4), .second, .val (.int p5), .val (.long qv), .second, .val (.long rs), .second, .val (.long fq), .second, .val (.long lf), .second, .val (.long fr), .second, .val (.int io), .val (.int cn), .val (.ref b2), .val (.ref b6), .val (.long (qv - (0 : Int64))), .second, .val (.long (qv - ((0 : Int64) + rs))), .second, .val (.long ((qv - fq) - ((0 : Int64) + rs - fq))), .second, .val (.long ((qv - fq) - ((0 : Int64) + rs - fq - fr))), .second, .val (.long ((qv - fq) - ((0 : Int64) + rs - fq - fr))), .second, .val (.long ((qv - rs) + fr)), .second, .val (.long ((qv - rs) + fr)), .second] [(.long rs), (.long qv), (.long (qv - ((0 : Int64) + rs)))])) (fun tZ kZ => XS.lload X16.here hx rfl (hb hby at_275) rfl kZ) ?_
              refine own_by (S' := T16.setTop (mkF m 278 #[.val (.long p1), .second, .val (.long p2), .second, .val (.long p3), .second, .val (.long p4), .second, .val (.int p5), .val (.long qv), .second, .val (.long rs), .second, .val (.long fq), .second, .val (.long lf), .second, .val (.long fr), .second, .val (.int io), .val (.int cn), .val (.ref b2), .val (.ref b6), .val (.long (qv - (0 : Int64))), .second, .val (.long (qv - ((0 : Int64) + rs))), .second, .val (.long ((qv - fq) - ((0 : Int64) + rs - fq))), .second, .val (.long ((qv - fq) - ((0 : Int64) + rs - fq - fr))), .second, .val (.long ((qv - fq) - ((0 : Int64) + rs - fq - fr))), .second, .val (.long ((qv - rs) + fr)), .second, .val (.long ((qv - rs) + fr)), .second] [(.long (qv - rs)), (.long (qv - ((0 : Int64) + rs)))])) (fun tZ kZ => XS.lsub X16.here hx rfl (hb hby at_277) rfl kZ) ?_
              refine own_by (S' := T16.setTop (mkF m 279 #[.val (.long p1), .second, .val (.long p2), .second, .val (.long p3), .second, .val (.long p4), .second, .val (.int p5), .val (.long qv), .second, .val (.long rs), .second, .val (.long fq), .second, .val (.long lf), .second, .val (.long fr), .second, .val (.int io), .val (.int cn), .val (.ref b2), .val (.ref b6), .val (.long (qv - (0 : Int64))), .second, .val (.long (qv - ((0 : Int64) + rs))), .second, .val (.long ((qv - fq) - ((0 : Int64) + rs - fq))), .second, .val (.long ((qv - fq) - ((0 : Int64) + rs - fq - fr))), .second, .val (.long ((qv - fq) - ((0 : Int64) + rs - fq - fr))), .second, .val (.long ((qv - rs) + fr)), .second, .val (.long ((qv - rs) + fr)), .second] [(.int (lcmpW (qv - ((0 : Int64) + rs)) (qv - rs)))])) (fun tZ kZ => XS.lcmp X16.here hx rfl (hb hby at_278) rfl kZ) ?_
              refine own_by (S' := T16.setTop (mkF m 282 #[.val (.long p1), .second, .val (.long p2), .second, .val (.long p3), .second, .val (.long p4), .second, .val (.int p5), .val (.long qv), .second, .val (.long rs), .second, .val (.long fq), .second, .val (.long lf), .second, .val (.long fr), .second, .val (.int io), .val (.int cn), .val (.ref b2), .val (.ref b6), .val (.long (qv - (0 : Int64))), .second, .val (.long (qv - ((0 : Int64) + rs))), .second, .val (.long ((qv - fq) - ((0 : Int64) + rs - fq))), .second, .val (.long ((qv - fq) - ((0 : Int64) + rs - fq - fr))), .second, .val (.long ((qv - fq) - ((0 : Int64) + rs - fq - fr))), .second, .val (.long ((qv - rs) + fr)), .second, .val (.long ((qv - rs) + fr)), .second] [])) (fun tZ kZ => XS.ifNo X16.here hx rfl (hb hby at_279) rfl ((if0 _ _).trans (teq ((lw_eq _ _).mpr (own_a1 _ _))).2) kZ) ?_
              refine own_by (S' := T16.setTop (mkF m 284 #[.val (.long p1), .second, .val (.long p2), .second, .val (.long p3), .second, .val (.long p4), .second, .val (.int p5), .val (.long qv), .second, .val (.long rs), .second, .val (.long fq), .second, .val (.long lf), .second, .val (.long fr), .second, .val (.int io), .val (.int cn), .val (.ref b2), .val (.ref b6), .val (.long (qv - (0 : Int64))), .second, .val (.long (qv - ((0 : Int64) + rs))), .second, .val (.long ((qv - fq) - ((0 : Int64) + rs - fq))), .second, .val (.long ((qv - fq) - ((0 : Int64) + rs - fq - fr))), .second, .val (.long ((qv - fq) - ((0 : Int64) + rs - fq - fr))), .second, .val (.long ((qv - rs) + fr)), .second, .val (.long ((qv - rs) + fr)), .second] [(.long ((qv - fq) - ((0 : Int64) + rs - fq)))])) (fun tZ kZ => XS.lload X16.here hx rfl (hb hby at_282) rfl kZ) ?_
              refine own_by (S' := T16.setTop (mkF m 286 #[.val (.long p1), .second, .val (.long p2), .second, .val (.long p3), .second, .val (.long p4), .second, .val (.int p5), .val (.long qv), .second, .val (.long rs), .second, .val (.long fq), .second, .val (.long lf), .second, .val (.long fr), .second, .val (.int io), .val (.int cn), .val (.ref b2), .val (.ref b6), .val (.long (qv - (0 : Int64))), .second, .val (.long (qv - ((0 : Int64) + rs))), .second, .val (.long ((qv - fq) - ((0 : Int64) + rs - fq))), .second, .val (.long ((qv - fq) - ((0 : Int64) + rs - fq - fr))), .second, .val (.long ((qv - fq) - ((0 : Int64) + rs - fq - fr))), .second, .val (.long ((qv - rs) + fr)), .second, .val (.long ((qv - rs) + fr)), .second] [(.long qv), (.long ((qv - fq) - ((0 : Int64) + rs - fq)))])) (fun tZ kZ => XS.lload X16.here hx rfl (hb hby at_284) rfl kZ) ?_
              refine own_by (S' := T16.setTop (mkF m 288 #[.val (.long p1), .second, .val (.long p2), .second, .val (.long p3), .second, .val (.long p4), .second, .val (.int p5), .val (.long qv), .second, .val (.long rs), .second, .val (.long fq), .second, .val (.long lf), .second, .val (.long fr), .second, .val (.int io), .val (.int cn), .val (.ref b2), .val (.ref b6), .val (.long (qv - (0 : Int64))), .second, .val (.long (qv - ((0 : Int64) + rs))), .second, .val (.long ((qv - fq) - ((0 : Int64) + rs - fq))), .second, .val (.long ((qv - fq) - ((0 : Int64) + rs - fq - fr))), .second, .val (.long ((qv - fq) - ((0 : Int64) + rs - fq - fr))), .second, .val (.long ((qv - rs) + fr)), .second, .val (.long ((qv - rs) + fr)), .second] [(.long rs), (.long qv), (.long ((qv - fq) - ((0 : Int64) + rs - fq)))])) (fun tZ kZ => XS.lload X16.here hx rfl (hb hby at_286) rfl kZ) ?_
              refine own_by (S' := T16.setTop (mkF m 289 #[.val (.long p1), .second, .val (.long p2), .second, .val (.long p3), .second, .val (.long p4), .second, .val (.int p5), .val (.long qv), .second, .val (.long rs), .second, .val (.long fq), .second, .val (.long lf), .second, .val (.long fr), .second, .val (.int io), .val (.int cn), .val (.ref b2), .val (.ref b6), .val (.long (qv - (0 : Int64))), .second, .val (.long (qv - ((0 : Int64) + rs))), .second, .val (.long ((qv - fq) - ((0 : Int64) + rs - fq))), .second, .val (.long ((qv - fq) - ((0 : Int64) + rs - fq - fr))), .second, .val (.long ((qv - fq) - ((0 : Int64) + rs - fq - fr))), .second, .val (.long ((qv - rs) + fr)), .second, .val (.long ((qv - rs) + fr)), .second] [(.long (qv - rs)), (.long ((qv - fq) - ((0 : Int64) + rs - fq)))])) (fun tZ kZ => XS.lsub X16.here hx rfl (hb hby at_288) rfl kZ) ?_
              refine own_by (S' := T16.setTop (mkF m 290 #[.val (.long p1), .second, .val (.long p2), .second, .val (.long p3), .second, .val (.long p4), .second, .val (.int p5), .val (.long qv), .second, .val (.long rs), .second, .val (.long fq), .second, .val (.long lf), .second, .val (.long fr), .second, .val (.int io), .val (.int cn), .val (.ref b2), .val (.ref b6), .val (.long (qv - (0 : Int64))), .second, .val (.long (qv - ((0 : Int64) + rs))), .second, .val (.long ((qv - fq) - ((0 : Int64) + rs - fq))), .second, .val (.long ((qv - fq) - ((0 : Int64) + rs - fq - fr))), .second, .val (.long ((qv - fq) - ((0 : Int64) + rs - fq - fr))), .second, .val (.long ((qv - rs) + fr)), .second, .val (.long ((qv - rs) + fr)), .second] [(.int (lcmpW ((qv - fq) - ((0 : Int64) + rs - fq)) (qv - rs)))])) (fun tZ kZ => XS.lcmp X16.here hx rfl (hb hby at_289) rfl kZ) ?_
              refine own_by (S' := T16.setTop (mkF m 293 #[.val (.long p1), .second, .val (.long p2), .second, .val (.long p3), .second, .val (.long p4), .second, .val (.int p5), .val (.long qv), .second, .val (.long rs), .second, .val (.long fq), .second, .val (.long lf), .second, .val (.long fr), .second, .val (.int io), .val (.int cn), .val (.ref b2), .val (.ref b6), .val (.long (qv - (0 : Int64))), .second, .val (.long (qv - ((0 : Int64) + rs))), .second, .val (.long ((qv - fq) - ((0 : Int64) + rs - fq))), .second, .val (.long ((qv - fq) - ((0 : Int64) + rs - fq - fr))), .second, .val (.long ((qv - fq) - ((0 : Int64) + rs - fq - fr))), .second, .val (.long ((qv - rs) + fr)), .second, .val (.long ((qv - rs) + fr)), .second] [])) (fun tZ kZ => XS.ifNo X16.here hx rfl (hb hby at_290) rfl ((if0 _ _).trans (teq ((lw_eq _ _).mpr (own_a2 _ _ _))).2) kZ) ?_
              refine own_by (S' := T16.setTop (mkF m 295 #[.val (.long p1), .second, .val (.long p2), .second, .val (.long p3), .second, .val (.long p4), .second, .val (.int p5), .val (.long qv), .second, .val (.long rs), .second, .val (.long fq), .second, .val (.long lf), .second, .val (.long fr), .second, .val (.int io), .val (.int cn), .val (.ref b2), .val (.ref b6), .val (.long (qv - (0 : Int64))), .second, .val (.long (qv - ((0 : Int64) + rs))), .second, .val (.long ((qv - fq) - ((0 : Int64) + rs - fq))), .second, .val (.long ((qv - fq) - ((0 : Int64) + rs - fq - fr))), .second, .val (.long ((qv - fq) - ((0 : Int64) + rs - fq - fr))), .second, .val (.long ((qv - rs) + fr)), .second, .val (.long ((qv - rs) + fr)), .second] [(.long ((qv - fq) - ((0 : Int64) + rs - fq - fr)))])) (fun tZ kZ => XS.lload X16.here hx rfl (hb hby at_293) rfl kZ) ?_
              refine own_by (S' := T16.setTop (mkF m 297 #[.val (.long p1), .second, .val (.long p2), .second, .val (.long p3), .second, .val (.long p4), .second, .val (.int p5), .val (.long qv), .second, .val (.long rs), .second, .val (.long fq), .second, .val (.long lf), .second, .val (.long fr), .second, .val (.int io), .val (.int cn), .val (.ref b2), .val (.ref b6), .val (.long (qv - (0 : Int64))), .second, .val (.long (qv - ((0 : Int64) + rs))), .second, .val (.long ((qv - fq) - ((0 : Int64) + rs - fq))), .second, .val (.long ((qv - fq) - ((0 : Int64) + rs - fq - fr))), .second, .val (.long ((qv - fq) - ((0 : Int64) + rs - fq - fr))), .second, .val (.long ((qv - rs) + fr)), .second, .val (.long ((qv - rs) + fr)), .second] [(.long ((qv - rs) + fr)), (.long ((qv - fq) - ((0 : Int64) + rs - fq - fr)))])) (fun tZ kZ => XS.lload X16.here hx rfl (hb hby at_295) rfl kZ) ?_
              refine own_by (S' := T16.setTop (mkF m 298 #[.val (.long p1), .second, .val (.long p2), .second, .val (.long p3), .second, .val (.long p4), .second, .val (.int p5), .val (.long qv), .second, .val (.long rs), .second, .val (.long fq), .second, .val (.long lf), .second, .val (.long fr), .second, .val (.int io), .val (.int cn), .val (.ref b2), .val (.ref b6), .val (.long (qv - (0 : Int64))), .second, .val (.long (qv - ((0 : Int64) + rs))), .second, .val (.long ((qv - fq) - ((0 : Int64) + rs - fq))), .second, .val (.long ((qv - fq) - ((0 : Int64) + rs - fq - fr))), .second, .val (.long ((qv - fq) - ((0 : Int64) + rs - fq - fr))), .second, .val (.long ((qv - rs) + fr)), .second, .val (.long ((qv - rs) + fr)), .second] [(.int (lcmpW ((qv - fq) - ((0 : Int64) + rs - fq - fr)) ((qv - rs) + fr)))])) (fun tZ kZ => XS.lcmp X16.here hx rfl (hb hby at_297) rfl kZ) ?_
              refine own_by (S' := T16.setTop (mkF m 301 #[.val (.long p1), .second, .val (.long p2), .second, .val (.long p3), .second, .val (.long p4), .second, .val (.int p5), .val (.long qv), .second, .val (.long rs), .second, .val (.long fq), .second, .val (.long lf), .second, .val (.long fr), .second, .val (.int io), .val (.int cn), .val (.ref b2), .val (.ref b6), .val (.long (qv - (0 : Int64))), .second, .val (.long (qv - ((0 : Int64) + rs))), .second, .val (.long ((qv - fq) - ((0 : Int64) + rs - fq))), .second, .val (.long ((qv - fq) - ((0 : Int64) + rs - fq - fr))), .second, .val (.long ((qv - fq) - ((0 : Int64) + rs - fq - fr))), .second, .val (.long ((qv - rs) + fr)), .second, .val (.long ((qv - rs) + fr)), .second] [])) (fun tZ kZ => XS.ifNo X16.here hx rfl (hb hby at_298) rfl ((if0 _ _).trans (teq ((lw_eq _ _).mpr (own_a3 _ _ _ _))).2) kZ) ?_
              refine own_by (S' := T16.setTop (mkF m 303 #[.val (.long p1), .second, .val (.long p2), .second, .val (.long p3), .second, .val (.long p4), .second, .val (.int p5), .val (.long qv), .second, .val (.long rs), .second, .val (.long fq), .second, .val (.long lf), .second, .val (.long fr), .second, .val (.int io), .val (.int cn), .val (.ref b2), .val (.ref b6), .val (.long (qv - (0 : Int64))), .second, .val (.long (qv - ((0 : Int64) + rs))), .second, .val (.long ((qv - fq) - ((0 : Int64) + rs - fq))), .second, .val (.long ((qv - fq) - ((0 : Int64) + rs - fq - fr))), .second, .val (.long ((qv - fq) - ((0 : Int64) + rs - fq - fr))), .second, .val (.long ((qv - rs) + fr)), .second, .val (.long ((qv - rs) + fr)), .second] [(.long ((qv - fq) - ((0 : Int64) + rs - fq - fr)))])) (fun tZ kZ => XS.lload X16.here hx rfl (hb hby at_301) rfl kZ) ?_
              refine own_by (S' := T16.setTop (mkF m 305 #[.val (.long p1), .second, .val (.long p2), .second, .val (.long p3), .second, .val (.long p4), .second, .val (.int p5), .val (.long qv), .second, .val (.long rs), .second, .val (.long fq), .second, .val (.long lf), .second, .val (.long fr), .second, .val (.int io), .val (.int cn), .val (.ref b2), .val (.ref b6), .val (.long (qv - (0 : Int64))), .second, .val (.long (qv - ((0 : Int64) + rs))), .second, .val (.long ((qv - fq) - ((0 : Int64) + rs - fq))), .second, .val (.long ((qv - fq) - ((0 : Int64) + rs - fq - fr))), .second, .val (.long ((qv - fq) - ((0 : Int64) + rs - fq - fr))), .second, .val (.long ((qv - rs) + fr)), .second, .val (.long ((qv - rs) + fr)), .second] [(.long ((qv - rs) + fr)), (.long ((qv - fq) - ((0 : Int64) + rs - fq - fr)))])) (fun tZ kZ => XS.lload X16.here hx rfl (hb hby at_303) rfl kZ) ?_
              refine own_by (S' := T16.setTop (mkF m 306 #[.val (.long p1), .second, .val (.long p2), .second, .val (.long p3), .second, .val (.long p4), .second, .val (.int p5), .val (.long qv), .second, .val (.long rs), .second, .val (.long fq), .second, .val (.long lf), .second, .val (.long fr), .second, .val (.int io), .val (.int cn), .val (.ref b2), .val (.ref b6), .val (.long (qv - (0 : Int64))), .second, .val (.long (qv - ((0 : Int64) + rs))), .second, .val (.long ((qv - fq) - ((0 : Int64) + rs - fq))), .second, .val (.long ((qv - fq) - ((0 : Int64) + rs - fq - fr))), .second, .val (.long ((qv - fq) - ((0 : Int64) + rs - fq - fr))), .second, .val (.long ((qv - rs) + fr)), .second, .val (.long ((qv - rs) + fr)), .second] [(.int (lcmpW ((qv - fq) - ((0 : Int64) + rs - fq - fr)) ((qv - rs) + fr)))])) (fun tZ kZ => XS.lcmp X16.here hx rfl (hb hby at_305) rfl kZ) ?_
              refine own_by (S' := T16.setTop (mkF m 309 #[.val (.long p1), .second, .val (.long p2), .second, .val (.long p3), .second, .val (.long p4), .second, .val (.int p5), .val (.long qv), .second, .val (.long rs), .second, .val (.long fq), .second, .val (.long lf), .second, .val (.long fr), .second, .val (.int io), .val (.int cn), .val (.ref b2), .val (.ref b6), .val (.long (qv - (0 : Int64))), .second, .val (.long (qv - ((0 : Int64) + rs))), .second, .val (.long ((qv - fq) - ((0 : Int64) + rs - fq))), .second, .val (.long ((qv - fq) - ((0 : Int64) + rs - fq - fr))), .second, .val (.long ((qv - fq) - ((0 : Int64) + rs - fq - fr))), .second, .val (.long ((qv - rs) + fr)), .second, .val (.long ((qv - rs) + fr)), .second] [])) (fun tZ kZ => XS.ifNo X16.here hx rfl (hb hby at_306) rfl ((if0 _ _).trans (teq ((lw_eq _ _).mpr (own_a3 _ _ _ _))).2) kZ) ?_
              refine own_by (S' := T16.setTop (mkF m 310 #[.val (.long p1), .second, .val (.long p2), .second, .val (.long p3), .second, .val (.long p4), .second, .val (.int p5), .val (.long qv), .second, .val (.long rs), .second, .val (.long fq), .second, .val (.long lf), .second, .val (.long fr), .second, .val (.int io), .val (.int cn), .val (.ref b2), .val (.ref b6), .val (.long (qv - (0 : Int64))), .second, .val (.long (qv - ((0 : Int64) + rs))), .second, .val (.long ((qv - fq) - ((0 : Int64) + rs - fq))), .second, .val (.long ((qv - fq) - ((0 : Int64) + rs - fq - fr))), .second, .val (.long ((qv - fq) - ((0 : Int64) + rs - fq - fr))), .second, .val (.long ((qv - rs) + fr)), .second, .val (.long ((qv - rs) + fr)), .second] [(.int (1 : Int32))])) (fun tZ kZ => XS.iconst X16.here hx rfl (hb hby at_309) kZ) ?_
              refine own_by (S' := T16.setTop (mkF m 314 #[.val (.long p1), .second, .val (.long p2), .second, .val (.long p3), .second, .val (.long p4), .second, .val (.int p5), .val (.long qv), .second, .val (.long rs), .second, .val (.long fq), .second, .val (.long lf), .second, .val (.long fr), .second, .val (.int io), .val (.int cn), .val (.ref b2), .val (.ref b6), .val (.long (qv - (0 : Int64))), .second, .val (.long (qv - ((0 : Int64) + rs))), .second, .val (.long ((qv - fq) - ((0 : Int64) + rs - fq))), .second, .val (.long ((qv - fq) - ((0 : Int64) + rs - fq - fr))), .second, .val (.long ((qv - fq) - ((0 : Int64) + rs - fq - fr))), .second, .val (.long ((qv - rs) + fr)), .second, .val (.long ((qv - rs) + fr)), .second] [(.int (1 : Int32))])) (fun tZ kZ => XS.goto X16.here hx rfl (pc0 := 310) (pc' := 314) rfl (hb hby at_310) (by decide) (by decide) kZ) ?_
              exact own_retWI X16 hS3 (by rw [heq16]; exact hk14) hx (t := .boolean) Bd.returns (by simp) rfl (hb hby at_314) Bd.notSynchronized (by decide) (by decide) ⟨rfl, N16⟩
            · refine own_by (S' := T15.setTop (mkF m 228 #[.val (.long p1), .second, .val (.long p2), .second, .val (.long p3), .second, .val (.long p4), .second, .val (.int p5), .val (.long qv), .second, .val (.long rs), .second, .val (.long fq), .second, .val (.long lf), .second, .val (.long fr), .second, .val (.int io), .val (.int cn), .val (.ref b2), .val (.ref b6), .val (.long (qv - (0 : Int64))), .second, .val (.long (qv - ((0 : Int64) + rs))), .second, .val (.long ((qv - fq) - ((0 : Int64) + rs - fq))), .second, .val (.long ((qv - fq) - ((0 : Int64) + rs - fq - fr))), .second, .unset, .unset, .unset, .unset, .unset, .unset] [])) (fun tZ kZ => XS.ifNo X15.here hx rfl (hb hby at_225) rfl ((if0 _ _).trans (feq hcn).1) kZ) ?_
              refine own_by (S' := T15.setTop (mkF m 230 #[.val (.long p1), .second, .val (.long p2), .second, .val (.long p3), .second, .val (.long p4), .second, .val (.int p5), .val (.long qv), .second, .val (.long rs), .second, .val (.long fq), .second, .val (.long lf), .second, .val (.long fr), .second, .val (.int io), .val (.int cn), .val (.ref b2), .val (.ref b6), .val (.long (qv - (0 : Int64))), .second, .val (.long (qv - ((0 : Int64) + rs))), .second, .val (.long ((qv - fq) - ((0 : Int64) + rs - fq))), .second, .val (.long ((qv - fq) - ((0 : Int64) + rs - fq - fr))), .second, .unset, .unset, .unset, .unset, .unset, .unset] [(.ref b2)])) (fun tZ kZ => XS.aload X15.here hx rfl (hb hby at_228) rfl rfl kZ) ?_
              obtain ⟨cq17, kq17, q17a, q17b, q17c⟩ := isOf hZ3 heq15 OO14.1
              obtain ⟨_, _, ⟨T17, L17, k17, n17⟩, -, X17, ⟨Lc17, hQ17, l17, y17, z17⟩, st17⟩ := X15.virtualBack hx (y := (⟨"com/example/fairgate/fairgate/processor/Order", "cancel", "()V"⟩ : MethodName)) (z := (⟨"com/example/fairgate/fairgate/processor/Order", "cancel", "()V"⟩ : MethodName)) hown3 (mvT hZ3 (hw _ (List.mem_of_getElem? (i := 225) rfl))) (mvT hZ3 (hw _ (List.mem_of_getElem? (i := 226) rfl))) (notFace_of_selects (args := #[]) (mvT hZ3 (hw _ (List.mem_of_getElem? (i := 228) rfl)))) (mvT hZ3 (hw _ (List.mem_of_getElem? (i := 228) rfl))) (mvT hZ3 (hw _ (List.mem_of_getElem? (i := 227) rfl))) (by decide) (backOf (W := 0) (rmCn l Z a0 hw [] b2 zr qv (qv - fq) ((0 : Int64) + rs - fq - fr) (0 : Int32) T14.heap n0 Zs14 OO14 g_b2) hZ3 (hw _ (List.mem_of_getElem? (i := 229) rfl)) (hw _ (List.mem_of_getElem? (i := 7) rfl)) (by decide) (by decide)) q17a q17c (g := (mkF m 230 #[.val (.long p1), .second, .val (.long p2), .second, .val (.long p3), .second, .val (.long p4), .second, .val (.int p5), .val (.long qv), .second, .val (.long rs), .second, .val (.long fq), .second, .val (.long lf), .second, .val (.long fr), .second, .val (.int io), .val (.int cn), .val (.ref b2), .val (.ref b6), .val (.long (qv - (0 : Int64))), .second, .val (.long (qv - ((0 : Int64) + rs))), .second, .val (.long ((qv - fq) - ((0 : Int64) + rs - fq))), .second, .val (.long ((qv - fq) - ((0 : Int64) + rs - fq - fr))), .second, .unset, .unset, .unset, .unset, .unset, .unset] [(.ref b2)])) rfl (by rw [hml]; rfl) (Steps.refl _) (argsL := []) (rest := []) (lenOf pd_0 rfl) rfl (by show 2 * 0 + _ ≤ _; exact Nat.le_of_eq rfl) (hb hby at_230) (fun _ _ => ⟨rfl, heq15, (by decide : 10 + 0 ≤ _), (by decide : 51 + 0 ≤ _)⟩)
              dsimp only [Pt.U, Pt.locs, Pt.cells, Pt.slots] at X17 l17 y17 z17 st17 hQ17
              subst l17 y17 z17
              obtain ⟨rfl, N17q, Kc17, OO17⟩ := hQ17
              have N17 := Fr.app N15 N17q
              have Zs17 := Nat.le_trans Zs14 Kc17.1
              have hk17 := Nat.le_trans hk14 Kc17.1
              have K17 := K14.trans Kc17 (fun x hx => by
                  simp only [List.mem_cons, List.not_mem_nil, or_false] at hx
                  rcases hx with rfl
                  · exact Or.inr sz_b2)
              have OT7_17 := OT7_14.keep Kc17 (by
                  simp only [List.mem_cons, List.not_mem_nil, or_false, not_or]
                  exact (Ne.symm ne_b2_b6))
              refine own_by (S' := T17.setTop (mkF m 233 #[.val (.long p1), .second, .val (.long p2), .second, .val (.long p3), .second, .val (.long p4), .second, .val (.int p5), .val (.long qv), .second, .val (.long rs), .second, .val (.long fq), .second, .val (.long lf), .second, .val (.long fr), .second, .val (.int io), .val (.int cn), .val (.ref b2), .val (.ref b6), .val (.long (qv - (0 : Int64))), .second, .val (.long (qv - ((0 : Int64) + rs))), .second, .val (.long ((qv - fq) - ((0 : Int64) + rs - fq))), .second, .val (.long ((qv - fq) - ((0 : Int64) + rs - fq - fr))), .second, .unset, .unset, .unset, .unset, .unset, .unset] [])) (fun tZ kZ => st17.trans kZ) ?_
              refine own_by (S' := T17.setTop (mkF m 235 #[.val (.long p1), .second, .val (.long p2), .second, .val (.long p3), .second, .val (.long p4), .second, .val (.int p5), .val (.long qv), .second, .val (.long rs), .second, .val (.long fq), .second, .val (.long lf), .second, .val (.long fr), .second, .val (.int io), .val (.int cn), .val (.ref b2), .val (.ref b6), .val (.long (qv - (0 : Int64))), .second, .val (.long (qv - ((0 : Int64) + rs))), .second, .val (.long ((qv - fq) - ((0 : Int64) + rs - fq))), .second, .val (.long ((qv - fq) - ((0 : Int64) + rs - fq - fr))), .second, .unset, .unset, .unset, .unset, .unset, .unset] [(.ref b2)])) (fun tZ kZ => XS.aload X17.here hx rfl (hb hby at_233) rfl rfl kZ) ?_
              obtain ⟨cq18, kq18, q18a, q18b, q18c⟩ := isOf hZ3 rfl OO17.1
              obtain ⟨_, _, ⟨T18, L18, k18, n18⟩, -, X18, ⟨Lc18, hQ18, l18, y18, z18⟩, st18⟩ := X17.virtualBack hx (y := (⟨"com/example/fairgate/fairgate/processor/Order", "available", "()J"⟩ : MethodName)) (z := (⟨"com/example/fairgate/fairgate/processor/Order", "available", "()J"⟩ : MethodName)) hown3 (mvT hZ3 (hw _ (List.mem_of_getElem? (i := 66) rfl))) (mvT hZ3 (hw _ (List.mem_of_getElem? (i := 67) rfl))) (notFace_of_selects (args := #[]) (mvT hZ3 (hw _ (List.mem_of_getElem? (i := 69) rfl)))) (mvT hZ3 (hw _ (List.mem_of_getElem? (i := 69) rfl))) (mvT hZ3 (hw _ (List.mem_of_getElem? (i := 68) rfl))) (by decide) (backOf (W := 0) (rmAv l Z a0 hw [] b2 zr qv (qv - fq) ((0 : Int64) + rs - fq - fr) (1 : Int32) T17.heap n0 Zs17 OO17) hZ3 (hw _ (List.mem_of_getElem? (i := 70) rfl)) (hw _ (List.mem_of_getElem? (i := 7) rfl)) (by decide) (by decide)) q18a q18c (g := (mkF m 235 #[.val (.long p1), .second, .val (.long p2), .second, .val (.long p3), .second, .val (.long p4), .second, .val (.int p5), .val (.long qv), .second, .val (.long rs), .second, .val (.long fq), .second, .val (.long lf), .second, .val (.long fr), .second, .val (.int io), .val (.int cn), .val (.ref b2), .val (.ref b6), .val (.long (qv - (0 : Int64))), .second, .val (.long (qv - ((0 : Int64) + rs))), .second, .val (.long ((qv - fq) - ((0 : Int64) + rs - fq))), .second, .val (.long ((qv - fq) - ((0 : Int64) + rs - fq - fr))), .second, .unset, .unset, .unset, .unset, .unset, .unset] [(.ref b2)])) rfl (by rw [hml]; rfl) (Steps.refl _) (argsL := []) (rest := []) (lenOf pd_13 rfl) rfl (by show 2 * 0 + _ ≤ _; exact Nat.le_of_eq rfl) (hb hby at_235) (fun _ _ => ⟨rfl, rfl, (by decide : 10 + 0 ≤ _), (by decide : 51 + 0 ≤ _)⟩)
              dsimp only [Pt.U, Pt.locs, Pt.cells, Pt.slots] at X18 l18 y18 z18 st18 hQ18
              subst l18 y18 z18
              obtain ⟨rfl, N18q, heq18⟩ := hQ18
              have N18 := Fr.app N17 N18q
              refine own_by (S' := T18.setTop (mkF m 238 #[.val (.long p1), .second, .val (.long p2), .second, .val (.long p3), .second, .val (.long p4), .second, .val (.int p5), .val (.long qv), .second, .val (.long rs), .second, .val (.long fq), .second, .val (.long lf), .second, .val (.long fr), .second, .val (.int io), .val (.int cn), .val (.ref b2), .val (.ref b6), .val (.long (qv - (0 : Int64))), .second, .val (.long (qv - ((0 : Int64) + rs))), .second, .val (.long ((qv - fq) - ((0 : Int64) + rs - fq))), .second, .val (.long ((qv - fq) - ((0 : Int64) + rs - fq - fr))), .second, .unset, .unset, .unset, .unset, .unset, .unset] [(.long (if (1 : Int32) = 0 then (qv - fq) - ((0 : Int64) + rs - fq - fr) else 0))])) (fun tZ kZ => st18.trans kZ) ?_
              rw [if_neg (by decide)]
              refine own_by (S' := T18.setTop (mkF m 240 #[.val (.long p1), .second, .val (.long p2), .second, .val (.long p3), .second, .val (.long p4), .second, .val (.int p5), .val (.long qv), .second, .val (.long rs), .second, .val (.long fq), .second, .val (.long lf), .second, .val (.long fr), .second, .val (.int io), .val (.int cn), .val (.ref b2), .val (.ref b6), .val (.long (qv - (0 : Int64))), .second, .val (.long (qv - ((0 : Int64) + rs))), .second, .val (.long ((qv - fq) - ((0 : Int64) + rs - fq))), .second, .val (.long ((qv - fq) - ((0 : Int64) + rs - fq - fr))), .second, .val (.long (0 : Int64)), .second, .unset, .unset, .unset, .unset] [])) (fun tZ kZ => XS.lstore X18.here hx rfl (hb hby at_238) rfl (l' := #[.val (.long p1), .second, .val (.long p2), .second, .val (.long p3), .second, .val (.long p4), .second, .val (.int p5), .val (.long qv), .second, .val (.long rs), .second, .val (.long fq), .second, .val (.long lf), .second, .val (.long fr), .second, .val (.int io), .val (.int cn), .val (.ref b2), .val (.ref b6), .val (.long (qv - (0 : Int64))), .second, .val (.long (qv - ((0 : Int64) + rs))), .second, .val (.long ((qv - fq) - ((0 : Int64) + rs - fq))), .second, .val (.long ((qv - fq) - ((0 : Int64) + rs - fq - fr))), .second, .val (.long (0 : Int64)), .second, .unset, .unset, .unset, .unset]) rfl kZ) ?_
              refine own_by (S' := T18.setTop (mkF m 242 #[.val (.long p1), .second, .val (.long p2), .second, .val (.long p3), .second, .val (.long p4), .second, .val (.int p5), .val (.long qv), .second, .val (.long rs), .second, .val (.long fq), .second, .val (.long lf), .second, .val (.long fr), .second, .val (.int io), .val (.int cn), .val (.ref b2), .val (.ref b6), .val (.long (qv - (0 : Int64))), .second, .val (.long (qv - ((0 : Int64) + rs))), .second, .val (.long ((qv - fq) - ((0 : Int64) + rs - fq))), .second, .val (.long ((qv - fq) - ((0 : Int64) + rs - fq - fr))), .second, .val (.long (0 : Int64)), .second, .unset, .unset, .unset, .unset] [(.long qv)])) (fun tZ kZ => XS.lload X18.here hx rfl (hb hby at_240) rfl kZ) ?_
              refine own_by (S' := T18.setTop (mkF m 244 #[.val (.long p1), .second, .val (.long p2), .second, .val (.long p3), .second, .val (.long p4), .second, .val (.int p5), .val (.long qv), .second, .val (.long rs), .second, .val (.long fq), .second, .val (.long lf), .second, .val (.long fr), .second, .val (.int io), .val (.int cn), .val (.ref b2), .val (.ref b6), .val (.long (qv - (0 : Int64))), .second, .val (.long (qv - ((0 : Int64) + rs))), .second, .val (.long ((qv - fq) - ((0 : Int64) + rs - fq))), .second, .val (.long ((qv - fq) - ((0 : Int64) + rs - fq - fr))), .second, .val (.long (0 : Int64)), .second, .unset, .unset, .unset, .unset] [(.long rs), (.long qv)])) (fun tZ kZ => XS.lload X18.here hx rfl (hb hby at_242) rfl kZ) ?_
              refine own_by (S' := T18.setTop (mkF m 245 #[.val (.long p1), .second, .val (.long p2), .second, .val (.long p3), .second, .val (.long p4), .second, .val (.int p5), .val (.long qv), .second, .val (.long rs), .second, .val (.long fq), .second, .val (.long lf), .second, .val (.long fr), .second, .val (.int io), .val (.int cn), .val (.ref b2), .val (.ref b6), .val (.long (qv - (0 : Int64))), .second, .val (.long (qv - ((0 : Int64) + rs))), .second, .val (.long ((qv - fq) - ((0 : Int64) + rs - fq))), .second, .val (.long ((qv - fq) - ((0 : Int64) + rs - fq - fr))), .second, .val (.long (0 : Int64)), .second, .unset, .unset, .unset, .unset] [(.long (qv - rs))])) (fun tZ kZ => XS.lsub X18.here hx rfl (hb hby at_244) rfl kZ) ?_
              refine own_by (S' := T18.setTop (mkF m 247 #[.val (.long p1), .second, .val (.long p2), .second, .val (.long p3), .second, .val (.long p4), .second, .val (.int p5), .val (.long qv), .second, .val (.long rs), .second, .val (.long fq), .second, .val (.long lf), .second, .val (.long fr), .second, .val (.int io), .val (.int cn), .val (.ref b2), .val (.ref b6), .val (.long (qv - (0 : Int64))), .second, .val (.long (qv - ((0 : Int64) + rs))), .second, .val (.long ((qv - fq) - ((0 : Int64) + rs - fq))), .second, .val (.long ((qv - fq) - ((0 : Int64) + rs - fq - fr))), .second, .val (.long (0 : Int64)), .second, .unset, .unset, .unset, .unset] [(.long fr), (.long (qv - rs))])) (fun tZ kZ => XS.lload X18.here hx rfl (hb hby at_245) rfl kZ) ?_
              refine own_by (S' := T18.setTop (mkF m 248 #[.val (.long p1), .second, .val (.long p2), .second, .val (.long p3), .second, .val (.long p4), .second, .val (.int p5), .val (.long qv), .second, .val (.long rs), .second, .val (.long fq), .second, .val (.long lf), .second, .val (.long fr), .second, .val (.int io), .val (.int cn), .val (.ref b2), .val (.ref b6), .val (.long (qv - (0 : Int64))), .second, .val (.long (qv - ((0 : Int64) + rs))), .second, .val (.long ((qv - fq) - ((0 : Int64) + rs - fq))), .second, .val (.long ((qv - fq) - ((0 : Int64) + rs - fq - fr))), .second, .val (.long (0 : Int64)), .second, .unset, .unset, .unset, .unset] [(.long ((qv - rs) + fr))])) (fun tZ kZ => XS.ladd X18.here hx rfl (hb hby at_247) rfl kZ) ?_
              refine own_by (S' := T18.setTop (mkF m 250 #[.val (.long p1), .second, .val (.long p2), .second, .val (.long p3), .second, .val (.long p4), .second, .val (.int p5), .val (.long qv), .second, .val (.long rs), .second, .val (.long fq), .second, .val (.long lf), .second, .val (.long fr), .second, .val (.int io), .val (.int cn), .val (.ref b2), .val (.ref b6), .val (.long (qv - (0 : Int64))), .second, .val (.long (qv - ((0 : Int64) + rs))), .second, .val (.long ((qv - fq) - ((0 : Int64) + rs - fq))), .second, .val (.long ((qv - fq) - ((0 : Int64) + rs - fq - fr))), .second, .val (.long (0 : Int64)), .second, .val (.long ((qv - rs) + fr)), .second, .unset, .unset] [])) (fun tZ kZ => XS.lstore X18.here hx rfl (hb hby at_248) rfl (l' := #[.val (.long p1), .second, .val (.long p2), .second, .val (.long p3), .second, .val (.long p4), .second, .val (.int p5), .val (.long qv), .second, .val (.long rs), .second, .val (.long fq), .second, .val (.long lf), .second, .val (.long fr), .second, .val (.int io), .val (.int cn), .val (.ref b2), .val (.ref b6), .val (.long (qv - (0 : Int64))), .second, .val (.long (qv - ((0 : Int64) + rs))), .second, .val (.long ((qv - fq) - ((0 : Int64) + rs - fq))), .second, .val (.long ((qv - fq) - ((0 : Int64) + rs - fq - fr))), .second, .val (.long (0 : Int64)), .second, .val (.long ((qv - rs) + fr)), .second, .unset, .unset]) rfl kZ) ?_
              refine own_by (S' := T18.setTop (mkF m 252 #[.val (.long p1), .second, .val (.long p2), .second, .val (.long p3), .second, .val (.long p4), .second, .val (.int p5), .val (.long qv), .second, .val (.long rs), .second, .val (.long fq), .second, .val (.long lf), .second, .val (.long fr), .second, .val (.int io), .val (.int cn), .val (.ref b2), .val (.ref b6), .val (.long (qv - (0 : Int64))), .second, .val (.long (qv - ((0 : Int64) + rs))), .second, .val (.long ((qv - fq) - ((0 : Int64) + rs - fq))), .second, .val (.long ((qv - fq) - ((0 : Int64) + rs - fq - fr))), .second, .val (.long (0 : Int64)), .second, .val (.long ((qv - rs) + fr)), .second, .unset, .unset] [(.int cn)])) (fun tZ kZ => XS.iload X18.here hx rfl (hb hby at_250) rfl kZ) ?_
              refine own_by (S' := T18.setTop (mkF m 255 #[.val (.long p1), .second, .val (.long p2), .second, .val (.long p3), .second, .val (.long p4), .second, .val (.int p5), .val (.long qv), .second, .val (.long rs), .second, .val (.long fq), .second, .val (.long lf), .second, .val (.long fr), .second, .val (.int io), .val (.int cn), .val (.ref b2), .val (.ref b6), .val (.long (qv - (0 : Int64))), .second, .val (.long (qv - ((0 : Int64) + rs))), .second, .val (.long ((qv - fq) - ((0 : Int64) + rs - fq))), .second, .val (.long ((qv - fq) - ((0 : Int64) + rs - fq - fr))), .second, .val (.long (0 : Int64)), .second, .val (.long ((qv - rs) + fr)), .second, .unset, .unset] [])) (fun tZ kZ => XS.ifNo X18.here hx rfl (hb hby at_252) rfl ((if0 _ _).trans (feq hcn).1) kZ) ?_
              refine own_by (S' := T18.setTop (mkF m 256 #[.val (.long p1), .second, .val (.long p2), .second, .val (.long p3), .second, .val (.long p4), .second, .val (.int p5), .val (.long qv), .second, .val (.long rs), .second, .val (.long fq), .second, .val (.long lf), .second, .val (.long fr), .second, .val (.int io), .val (.int cn), .val (.ref b2), .val (.ref b6), .val (.long (qv - (0 : Int64))), .second, .val (.long (qv - ((0 : Int64) + rs))), .second, .val (.long ((qv - fq) - ((0 : Int64) + rs - fq))), .second, .val (.long ((qv - fq) - ((0 : Int64) + rs - fq - fr))), .second, .val (.long (0 : Int64)), .second, .val (.long ((qv - rs) + fr)), .second, .unset, .unset] [(.long (0 : Int64))])) (fun tZ kZ => XS.lconst X18.here hx rfl (hb hby at_255) kZ) ?_
              refine own_by (S' := T18.setTop (mkF m 261 #[.val (.long p1), .second, .val (.long p2), .second, .val (.long p3), .second, .val (.long p4), .second, .val (.int p5), .val (.long qv), .second, .val (.long rs), .second, .val (.long fq), .second, .val (.long lf), .second, .val (.long fr), .second, .val (.int io), .val (.int cn), .val (.ref b2), .val (.ref b6), .val (.long (qv - (0 : Int64))), .second, .val (.long (qv - ((0 : Int64) + rs))), .second, .val (.long ((qv - fq) - ((0 : Int64) + rs - fq))), .second, .val (.long ((qv - fq) - ((0 : Int64) + rs - fq - fr))), .second, .val (.long (0 : Int64)), .second, .val (.long ((qv - rs) + fr)), .second, .unset, .unset] [(.long (0 : Int64))])) (fun tZ kZ => XS.goto X18.here hx rfl (pc0 := 256) (pc' := 261) rfl (hb hby at_256) (by decide) (by decide) kZ) ?_
              refine own_by (S' := T18.setTop (mkF m 263 #[.val (.long p1), .second, .val (.long p2), .second, .val (.long p3), .second, .val (.long p4), .second, .val (.int p5), .val (.long qv), .second, .val (.long rs), .second, .val (.long fq), .second, .val (.long lf), .second, .val (.long fr), .second, .val (.int io), .val (.int cn), .val (.ref b2), .val (.ref b6), .val (.long (qv - (0 : Int64))), .second, .val (.long (qv - ((0 : Int64) + rs))), .second, .val (.long ((qv - fq) - ((0 : Int64) + rs - fq))), .second, .val (.long ((qv - fq) - ((0 : Int64) + rs - fq - fr))), .second, .val (.long (0 : Int64)), .second, .val (.long ((qv - rs) + fr)), .second, .val (.long (0 : Int64)), .second] [])) (fun tZ kZ => XS.lstore X18.here hx rfl (hb hby at_261) rfl (l' := #[.val (.long p1), .second, .val (.long p2), .second, .val (.long p3), .second, .val (.long p4), .second, .val (.int p5), .val (.long qv), .second, .val (.long rs), .second, .val (.long fq), .second, .val (.long lf), .second, .val (.long fr), .second, .val (.int io), .val (.int cn), .val (.ref b2), .val (.ref b6), .val (.long (qv - (0 : Int64))), .second, .val (.long (qv - ((0 : Int64) + rs))), .second, .val (.long ((qv - fq) - ((0 : Int64) + rs - fq))), .second, .val (.long ((qv - fq) - ((0 : Int64) + rs - fq - fr))), .second, .val (.long (0 : Int64)), .second, .val (.long ((qv - rs) + fr)), .second, .val (.long (0 : Int64)), .second]) rfl kZ) ?_
              refine own_by (S' := T18.setTop (mkF m 265 #[.val (.long p1), .second, .val (.long p2), .second, .val (.long p3), .second, .val (.long p4), .second, .val (.int p5), .val (.long qv), .second, .val (.long rs), .second, .val (.long fq), .second, .val (.long lf), .second, .val (.long fr), .second, .val (.int io), .val (.int cn), .val (.ref b2), .val (.ref b6), .val (.long (qv - (0 : Int64))), .second, .val (.long (qv - ((0 : Int64) + rs))), .second, .val (.long ((qv - fq) - ((0 : Int64) + rs - fq))), .second, .val (.long ((qv - fq) - ((0 : Int64) + rs - fq - fr))), .second, .val (.long (0 : Int64)), .second, .val (.long ((qv - rs) + fr)), .second, .val (.long (0 : Int64)), .second] [(.long (qv - (0 : Int64)))])) (fun tZ kZ => XS.lload X18.here hx rfl (hb hby at_263) rfl kZ) ?_
              refine own_by (S' := T18.setTop (mkF m 267 #[.val (.long p1), .second, .val (.long p2), .second, .val (.long p3), .second, .val (.long p4), .second, .val (.int p5), .val (.long qv), .second, .val (.long rs), .second, .val (.long fq), .second, .val (.long lf), .second, .val (.long fr), .second, .val (.int io), .val (.int cn), .val (.ref b2), .val (.ref b6), .val (.long (qv - (0 : Int64))), .second, .val (.long (qv - ((0 : Int64) + rs))), .second, .val (.long ((qv - fq) - ((0 : Int64) + rs - fq))), .second, .val (.long ((qv - fq) - ((0 : Int64) + rs - fq - fr))), .second, .val (.long (0 : Int64)), .second, .val (.long ((qv - rs) + fr)), .second, .val (.long (0 : Int64)), .second] [(.long qv), (.long (qv - (0 : Int64)))])) (fun tZ kZ => XS.lload X18.here hx rfl (hb hby at_265) rfl kZ) ?_
              refine own_by (S' := T18.setTop (mkF m 268 #[.val (.long p1), .second, .val (.long p2), .second, .val (.long p3), .second, .val (.long p4), .second, .val (.int p5), .val (.long qv), .second, .val (.long rs), .second, .val (.long fq), .second, .val (.long lf), .second, .val (.long fr), .second, .val (.int io), .val (.int cn), .val (.ref b2), .val (.ref b6), .val (.long (qv - (0 : Int64))), .second, .val (.long (qv - ((0 : Int64) + rs))), .second, .val (.long ((qv - fq) - ((0 : Int64) + rs - fq))), .second, .val (.long ((qv - fq) - ((0 : Int64) + rs - fq - fr))), .second, .val (.long (0 : Int64)), .second, .val (.long ((qv - rs) + fr)), .second, .val (.long (0 : Int64)), .second] [(.int (lcmpW (qv - (0 : Int64)) qv))])) (fun tZ kZ => XS.lcmp X18.here hx rfl (hb hby at_267) rfl kZ) ?_
              refine own_by (S' := T18.setTop (mkF m 271 #[.val (.long p1), .second, .val (.long p2), .second, .val (.long p3), .second, .val (.long p4), .second, .val (.int p5), .val (.long qv), .second, .val (.long rs), .second, .val (.long fq), .second, .val (.long lf), .second, .val (.long fr), .second, .val (.int io), .val (.int cn), .val (.ref b2), .val (.ref b6), .val (.long (qv - (0 : Int64))), .second, .val (.long (qv - ((0 : Int64) + rs))), .second, .val (.long ((qv - fq) - ((0 : Int64) + rs - fq))), .second, .val (.long ((qv - fq) - ((0 : Int64) + rs - fq - fr))), .second, .val (.long (0 : Int64)), .second, .val (.long ((qv - rs) + fr)), .second, .val (.long (0 : Int64)), .second] [])) (fun tZ kZ => XS.ifNo X18.here hx rfl (hb hby at_268) rfl ((if0 _ _).trans (teq ((lw_eq _ _).mpr (own_a0 _))).2) kZ) ?_
              refine own_by (S' := T18.setTop (mkF m 273 #[.val (.long p1), .second, .val (.long p2), .second, .val (.long p3), .second, .val (.long p4), .second, .val (.int p5), .val (.long qv), .second, .val (.long rs), .second, .val (.long fq), .second, .val (.long lf), .second, .val (.long fr), .second, .val (.int io), .val (.int cn), .val (.ref b2), .val (.ref b6), .val (.long (qv - (0 : Int64))), .second, .val (.long (qv - ((0 : Int64) + rs))), .second, .val (.long ((qv - fq) - ((0 : Int64) + rs - fq))), .second, .val (.long ((qv - fq) - ((0 : Int64) + rs - fq - fr))), .second, .val (.long (0 : Int64)), .second, .val (.long ((qv - rs) + fr)), .second, .val (.long (0 : Int64)), .second] [(.long (qv - ((0 : Int64) + rs)))])) (fun tZ kZ => XS.lload X18.here hx rfl (hb hby at_271) rfl kZ) ?_
              refine own_by (S' := T18.setTop (mkF m 275 #[.val (.long p1), .second, .val (.long p2), .second, .val (.long p3), .second, .val (.long p4), .second, .val (.int p5), .val (.long qv), .second, .val (.long rs), .second, .val (.long fq), .second, .val (.long lf), .second, .val (.long fr), .second, .val (.int io), .val (.int cn), .val (.ref b2), .val (.ref b6), .val (.long (qv - (0 : Int64))), .second, .val (.long (qv - ((0 : Int64) + rs))), .second, .val (.long ((qv - fq) - ((0 : Int64) + rs - fq))), .second, .val (.long ((qv - fq) - ((0 : Int64) + rs - fq - fr))), .second, .val (.long (0 : Int64)), .second, .val (.long ((qv - rs) + fr)), .second, .val (.long (0 : Int64)), .second] [(.long qv), (.long (qv - ((0 : Int64) + rs)))])) (fun tZ kZ => XS.lload X18.here hx rfl (hb hby at_273) rfl kZ) ?_
              refine own_by (S' := T18.setTop (mkF m 277 #[.val (.long p1), .second, .val (.long p2), .second, .val (.long p3), .second, .val (.long p4), .second, .val (.int p5), .val (.long qv), .second, .val (.long rs), .second, .val (.long fq), .second, .val (.long lf), .second, .val (.long fr), .second, .val (.int io), .val (.int cn), .val (.ref b2), .val (.ref b6), .val (.long (qv - (0 : Int64))), .second, .val (.long (qv - ((0 : Int64) + rs))), .second, .val (.long ((qv - fq) - ((0 : Int64) + rs - fq))), .second, .val (.long ((qv - fq) - ((0 : Int64) + rs - fq - fr))), .second, .val (.long (0 : Int64)), .second, .val (.long ((qv - rs) + fr)), .second, .val (.long (0 : Int64)), .second] [(.long rs), (.long qv), (.long (qv - ((0 : Int64) + rs)))])) (fun tZ kZ => XS.lload X18.here hx rfl (hb hby at_275) rfl kZ) ?_
              refine own_by (S' := T18.setTop (mkF m 278 #[.val (.long p1), .second, .val (.long p2), .second, .val (.long p3), .second, .val (.long p4), .second, .val (.int p5), .val (.long qv), .second, .val (.long rs), .second, .val (.long fq), .second, .val (.long lf), .second, .val (.long fr), .second, .val (.int io), .val (.int cn), .val (.ref b2), .val (.ref b6), .val (.long (qv - (0 : Int64))), .second, .val (.long (qv - ((0 : Int64) + rs))), .second, .val (.long ((qv - fq) - ((0 : Int64) + rs - fq))), .second, .val (.long ((qv - fq) - ((0 : Int64) + rs - fq - fr))), .second, .val (.long (0 : Int64)), .second, .val (.long ((qv - rs) + fr)), .second, .val (.long (0 : Int64)), .second] [(.long (qv - rs)), (.long (qv - ((0 : Int64) + rs)))])) (fun tZ kZ => XS.lsub X18.here hx rfl (hb hby at_277) rfl kZ) ?_
              refine own_by (S' := T18.setTop (mkF m 279 #[.val (.long p1), .second, .val (.long p2), .second, .val (.long p3), .second, .val (.long p4), .second, .val (.int p5), .val (.long qv), .second, .val (.long rs), .second, .val (.long fq), .second, .val (.long lf), .second, .val (.long fr), .second, .val (.int io), .val (.int cn), .val (.ref b2), .val (.ref b6), .val (.long (qv - (0 : Int64))), .second, .val (.long (qv - ((0 : Int64) + rs))), .second, .val (.long ((qv - fq) - ((0 : Int64) + rs - fq))), .second, .val (.long ((qv - fq) - ((0 : Int64) + rs - fq - fr))), .second, .val (.long (0 : Int64)), .second, .val (.long ((qv - rs) + fr)), .second, .val (.long (0 : Int64)), .second] [(.int (lcmpW (qv - ((0 : Int64) + rs)) (qv - rs)))])) (fun tZ kZ => XS.lcmp X18.here hx rfl (hb hby at_278) rfl kZ) ?_
              refine own_by (S' := T18.setTop (mkF m 282 #[.val (.long p1), .second, .val (.long p2), .second, .val (.long p3), .second, .val (.long p4), .second, .val (.int p5), .val (.long qv), .second, .val (.long rs), .second, .val (.long fq), .second, .val (.long lf), .second, .val (.long fr), .second, .val (.int io), .val (.int cn), .val (.ref b2), .val (.ref b6), .val (.long (qv - (0 : Int64))), .second, .val (.long (qv - ((0 : Int64) + rs))), .second, .val (.long ((qv - fq) - ((0 : Int64) + rs - fq))), .second, .val (.long ((qv - fq) - ((0 : Int64) + rs - fq - fr))), .second, .val (.long (0 : Int64)), .second, .val (.long ((qv - rs) + fr)), .second, .val (.long (0 : Int64)), .second] [])) (fun tZ kZ => XS.ifNo X18.here hx rfl (hb hby at_279) rfl ((if0 _ _).trans (teq ((lw_eq _ _).mpr (own_a1 _ _))).2) kZ) ?_
              refine own_by (S' := T18.setTop (mkF m 284 #[.val (.long p1), .second, .val (.long p2), .second, .val (.long p3), .second, .val (.long p4), .second, .val (.int p5), .val (.long qv), .second, .val (.long rs), .second, .val (.long fq), .second, .val (.long lf), .second, .val (.long fr), .second, .val (.int io), .val (.int cn), .val (.ref b2), .val (.ref b6), .val (.long (qv - (0 : Int64))), .second, .val (.long (qv - ((0 : Int64) + rs))), .second, .val (.long ((qv - fq) - ((0 : Int64) + rs - fq))), .second, .val (.long ((qv - fq) - ((0 : Int64) + rs - fq - fr))), .second, .val (.long (0 : Int64)), .second, .val (.long ((qv - rs) + fr)), .second, .val (.long (0 : Int64)), .second] [(.long ((qv - fq) - ((0 : Int64) + rs - fq)))])) (fun tZ kZ => XS.lload X18.here hx rfl (hb hby at_282) rfl kZ) ?_
              refine own_by (S' := T18.setTop (mkF m 286 #[.val (.long p1), .second, .val (.long p2), .second, .val (.long p3), .second, .val (.long p4), .second, .val (.int p5), .val (.long qv), .second, .val (.long rs), .second, .val (.long fq), .second, .val (.long lf), .second, .val (.long fr), .second, .val (.int io), .val (.int cn), .val (.ref b2), .val (.ref b6), .val (.long (qv - (0 : Int64))), .second, .val (.long (qv - ((0 : Int64) + rs))), .second, .val (.long ((qv - fq) - ((0 : Int64) + rs - fq))), .second, .val (.long ((qv - fq) - ((0 : Int64) + rs - fq - fr))), .second, .val (.long (0 : Int64)), .second, .val (.long ((qv - rs) + fr)), .second, .val (.long (0 : Int64)), .second] [(.long qv), (.long ((qv - fq) - ((0 : Int64) + rs - fq)))])) (fun tZ kZ => XS.lload X18.here hx rfl (hb hby at_284) rfl kZ) ?_
              refine own_by (S' := T18.setTop (mkF m 288 #[.val (.long p1), .second, .val (.long p2), .second, .val (.long p3), .second, .val (.long p4), .second, .val (.int p5), .val (.long qv), .second, .val (.long rs), .second, .val (.long fq), .second, .val (.long lf), .second, .val (.long fr), .second, .val (.int io), .val (.int cn), .val (.ref b2), .val (.ref b6), .val (.long (qv - (0 : Int64))), .second, .val (.long (qv - ((0 : Int64) + rs))), .second, .val (.long ((qv - fq) - ((0 : Int64) + rs - fq))), .second, .val (.long ((qv - fq) - ((0 : Int64) + rs - fq - fr))), .second, .val (.long (0 : Int64)), .second, .val (.long ((qv - rs) + fr)), .second, .val (.long (0 : Int64)), .second] [(.long rs), (.long qv), (.long ((qv - fq) - ((0 : Int64) + rs - fq)))])) (fun tZ kZ => XS.lload X18.here hx rfl (hb hby at_286) rfl kZ) ?_
              refine own_by (S' := T18.setTop (mkF m 289 #[.val (.long p1), .second, .val (.long p2), .second, .val (.long p3), .second, .val (.long p4), .second, .val (.int p5), .val (.long qv), .second, .val (.long rs), .second, .val (.long fq), .second, .val (.long lf), .second, .val (.long fr), .second, .val (.int io), .val (.int cn), .val (.ref b2), .val (.ref b6), .val (.long (qv - (0 : Int64))), .second, .val (.long (qv - ((0 : Int64) + rs))), .second, .val (.long ((qv - fq) - ((0 : Int64) + rs - fq))), .second, .val (.long ((qv - fq) - ((0 : Int64) + rs - fq - fr))), .second, .val (.long (0 : Int64)), .second, .val (.long ((qv - rs) + fr)), .second, .val (.long (0 : Int64)), .second] [(.long (qv - rs)), (.long ((qv - fq) - ((0 : Int64) + rs - fq)))])) (fun tZ kZ => XS.lsub X18.here hx rfl (hb hby at_288) rfl kZ) ?_
              refine own_by (S' := T18.setTop (mkF m 290 #[.val (.long p1), .second, .val (.long p2), .second, .val (.long p3), .second, .val (.long p4), .second, .val (.int p5), .val (.long qv), .second, .val (.long rs), .second, .val (.long fq), .second, .val (.long lf), .second, .val (.long fr), .second, .val (.int io), .val (.int cn), .val (.ref b2), .val (.ref b6), .val (.long (qv - (0 : Int64))), .second, .val (.long (qv - ((0 : Int64) + rs))), .second, .val (.long ((qv - fq) - ((0 : Int64) + rs - fq))), .second, .val (.long ((qv - fq) - ((0 : Int64) + rs - fq - fr))), .second, .val (.long (0 : Int64)), .second, .val (.long ((qv - rs) + fr)), .second, .val (.long (0 : Int64)), .second] [(.int (lcmpW ((qv - fq) - ((0 : Int64) + rs - fq)) (qv - rs)))])) (fun tZ kZ => XS.lcmp X18.here hx rfl (hb hby at_289) rfl kZ) ?_
              refine own_by (S' := T18.setTop (mkF m 293 #[.val (.long p1), .second, .val (.long p2), .second, .val (.long p3), .second, .val (.long p4), .second, .val (.int p5), .val (.long qv), .second, .val (.long rs), .second, .val (.long fq), .second, .val (.long lf), .second, .val (.long fr), .second, .val (.int io), .val (.int cn), .val (.ref b2), .val (.ref b6), .val (.long (qv - (0 : Int64))), .second, .val (.long (qv - ((0 : Int64) + rs))), .second, .val (.long ((qv - fq) - ((0 : Int64) + rs - fq))), .second, .val (.long ((qv - fq) - ((0 : Int64) + rs - fq - fr))), .second, .val (.long (0 : Int64)), .second, .val (.long ((qv - rs) + fr)), .second, .val (.long (0 : Int64)), .second] [])) (fun tZ kZ => XS.ifNo X18.here hx rfl (hb hby at_290) rfl ((if0 _ _).trans (teq ((lw_eq _ _).mpr (own_a2 _ _ _))).2) kZ) ?_
              refine own_by (S' := T18.setTop (mkF m 295 #[.val (.long p1), .second, .val (.long p2), .second, .val (.long p3), .second, .val (.long p4), .second, .val (.int p5), .val (.long qv), .second, .val (.long rs), .second, .val (.long fq), .second, .val (.long lf), .second, .val (.long fr), .second, .val (.int io), .val (.int cn), .val (.ref b2), .val (.ref b6), .val (.long (qv - (0 : Int64))), .second, .val (.long (qv - ((0 : Int64) + rs))), .second, .val (.long ((qv - fq) - ((0 : Int64) + rs - fq))), .second, .val (.long ((qv - fq) - ((0 : Int64) + rs - fq - fr))), .second, .val (.long (0 : Int64)), .second, .val (.long ((qv - rs) + fr)), .second, .val (.long (0 : Int64)), .second] [(.long ((qv - fq) - ((0 : Int64) + rs - fq - fr)))])) (fun tZ kZ => XS.lload X18.here hx rfl (hb hby at_293) rfl kZ) ?_
              refine own_by (S' := T18.setTop (mkF m 297 #[.val (.long p1), .second, .val (.long p2), .second, .val (.long p3), .second, .val (.long p4), .second, .val (.int p5), .val (.long qv), .second, .val (.long rs), .second, .val (.long fq), .second, .val (.long lf), .second, .val (.long fr), .second, .val (.int io), .val (.int cn), .val (.ref b2), .val (.ref b6), .val (.long (qv - (0 : Int64))), .second, .val (.long (qv - ((0 : Int64) + rs))), .second, .val (.long ((qv - fq) - ((0 : Int64) + rs - fq))), .second, .val (.long ((qv - fq) - ((0 : Int64) + rs - fq - fr))), .second, .val (.long (0 : Int64)), .second, .val (.long ((qv - rs) + fr)), .second, .val (.long (0 : Int64)), .second] [(.long ((qv - rs) + fr)), (.long ((qv - fq) - ((0 : Int64) + rs - fq - fr)))])) (fun tZ kZ => XS.lload X18.here hx rfl (hb hby at_295) rfl kZ) ?_
              refine own_by (S' := T18.setTop (mkF m 298 #[.val (.long p1), .second, .val (.long p2), .second, .val (.long p3), .second, .val (.long p4), .second, .val (.int p5), .val (.long qv), .second, .val (.long rs), .second, .val (.long fq), .second, .val (.long lf), .second, .val (.long fr), .second, .val (.int io), .val (.int cn), .val (.ref b2), .val (.ref b6), .val (.long (qv - (0 : Int64))), .second, .val (.long (qv - ((0 : Int64) + rs))), .second, .val (.long ((qv - fq) - ((0 : Int64) + rs - fq))), .second, .val (.long ((qv - fq) - ((0 : Int64) + rs - fq - fr))), .second, .val (.long (0 : Int64)), .second, .val (.long ((qv - rs) + fr)), .second, .val (.long (0 : Int64)), .second] [(.int (lcmpW ((qv - fq) - ((0 : Int64) + rs - fq - fr)) ((qv - rs) + fr)))])) (fun tZ kZ => XS.lcmp X18.here hx rfl (hb hby at_297) rfl kZ) ?_
              refine own_by (S' := T18.setTop (mkF m 301 #[.val (.long p1), .second, .val (.long p2), .second, .val (.long p3), .second, .val (.long p4), .second, .val (.int p5), .val (.long qv), .second, .val (.long rs), .second, .val (.long fq), .second, .val (.long lf), .second, .val (.long fr), .second, .val (.int io), .val (.int cn), .val (.ref b2), .val (.ref b6), .val (.long (qv - (0 : Int64))), .second, .val (.long (qv - ((0 : Int64) + rs))), .second, .val (.long ((qv - fq) - ((0 : Int64) + rs - fq))), .second, .val (.long ((qv - fq) - ((0 : Int64) + rs - fq - fr))), .second, .val (.long (0 : Int64)), .second, .val (.long ((qv - rs) + fr)), .second, .val (.long (0 : Int64)), .second] [])) (fun tZ kZ => XS.ifNo X18.here hx rfl (hb hby at_298) rfl ((if0 _ _).trans (teq ((lw_eq _ _).mpr (own_a3 _ _ _ _))).2) kZ) ?_
              refine own_by (S' := T18.setTop (mkF m 303 #[.val (.long p1), .second, .val (.long p2), .second, .val (.long p3), .second, .val (.long p4), .second, .val (.int p5), .val (.long qv), .second, .val (.long rs), .second, .val (.long fq), .second, .val (.long lf), .second, .val (.long fr), .second, .val (.int io), .val (.int cn), .val (.ref b2), .val (.ref b6), .val (.long (qv - (0 : Int64))), .second, .val (.long (qv - ((0 : Int64) + rs))), .second, .val (.long ((qv - fq) - ((0 : Int64) + rs - fq))), .second, .val (.long ((qv - fq) - ((0 : Int64) + rs - fq - fr))), .second, .val (.long (0 : Int64)), .second, .val (.long ((qv - rs) + fr)), .second, .val (.long (0 : Int64)), .second] [(.long (0 : Int64))])) (fun tZ kZ => XS.lload X18.here hx rfl (hb hby at_301) rfl kZ) ?_
              refine own_by (S' := T18.setTop (mkF m 305 #[.val (.long p1), .second, .val (.long p2), .second, .val (.long p3), .second, .val (.long p4), .second, .val (.int p5), .val (.long qv), .second, .val (.long rs), .second, .val (.long fq), .second, .val (.long lf), .second, .val (.long fr), .second, .val (.int io), .val (.int cn), .val (.ref b2), .val (.ref b6), .val (.long (qv - (0 : Int64))), .second, .val (.long (qv - ((0 : Int64) + rs))), .second, .val (.long ((qv - fq) - ((0 : Int64) + rs - fq))), .second, .val (.long ((qv - fq) - ((0 : Int64) + rs - fq - fr))), .second, .val (.long (0 : Int64)), .second, .val (.long ((qv - rs) + fr)), .second, .val (.long (0 : Int64)), .second] [(.long (0 : Int64)), (.long (0 : Int64))])) (fun tZ kZ => XS.lload X18.here hx rfl (hb hby at_303) rfl kZ) ?_
              refine own_by (S' := T18.setTop (mkF m 306 #[.val (.long p1), .second, .val (.long p2), .second, .val (.long p3), .second, .val (.long p4), .second, .val (.int p5), .val (.long qv), .second, .val (.long rs), .second, .val (.long fq), .second, .val (.long lf), .second, .val (.long fr), .second, .val (.int io), .val (.int cn), .val (.ref b2), .val (.ref b6), .val (.long (qv - (0 : Int64))), .second, .val (.long (qv - ((0 : Int64) + rs))), .second, .val (.long ((qv - fq) - ((0 : Int64) + rs - fq))), .second, .val (.long ((qv - fq) - ((0 : Int64) + rs - fq - fr))), .second, .val (.long (0 : Int64)), .second, .val (.long ((qv - rs) + fr)), .second, .val (.long (0 : Int64)), .second] [(.int (lcmpW (0 : Int64) (0 : Int64)))])) (fun tZ kZ => XS.lcmp X18.here hx rfl (hb hby at_305) rfl kZ) ?_
              refine own_by (S' := T18.setTop (mkF m 309 #[.val (.long p1), .second, .val (.long p2), .second, .val (.long p3), .second, .val (.long p4), .second, .val (.int p5), .val (.long qv), .second, .val (.long rs), .second, .val (.long fq), .second, .val (.long lf), .second, .val (.long fr), .second, .val (.int io), .val (.int cn), .val (.ref b2), .val (.ref b6), .val (.long (qv - (0 : Int64))), .second, .val (.long (qv - ((0 : Int64) + rs))), .second, .val (.long ((qv - fq) - ((0 : Int64) + rs - fq))), .second, .val (.long ((qv - fq) - ((0 : Int64) + rs - fq - fr))), .second, .val (.long (0 : Int64)), .second, .val (.long ((qv - rs) + fr)), .second, .val (.long (0 : Int64)), .second] [])) (fun tZ kZ => XS.ifNo X18.here hx rfl (hb hby at_306) rfl ((if0 _ _).trans (teq ((lw_eq _ _).mpr (rfl))).2) kZ) ?_
              refine own_by (S' := T18.setTop (mkF m 310 #[.val (.long p1), .second, .val (.long p2), .second, .val (.long p3), .second, .val (.long p4), .second, .val (.int p5), .val (.long qv), .second, .val (.long rs), .second, .val (.long fq), .second, .val (.long lf), .second, .val (.long fr), .second, .val (.int io), .val (.int cn), .val (.ref b2), .val (.ref b6), .val (.long (qv - (0 : Int64))), .second, .val (.long (qv - ((0 : Int64) + rs))), .second, .val (.long ((qv - fq) - ((0 : Int64) + rs - fq))), .second, .val (.long ((qv - fq) - ((0 : Int64) + rs - fq - fr))), .second, .val (.long (0 : Int64)), .second, .val (.long ((qv - rs) + fr)), .second, .val (.long (0 : Int64)), .second] [(.int (1 : Int32))])) (fun tZ kZ => XS.iconst X18.here hx rfl (hb hby at_309) kZ) ?_
              refine own_by (S' := T18.setTop (mkF m 314 #[.val (.long p1), .second, .val (.long p2), .second, .val (.long p3), .second, .val (.long p4), .second, .val (.int p5), .val (.long qv), .second, .val (.long rs), .second, .val (.long fq), .second, .val (.long lf), .second, .val (.long fr), .second, .val (.int io), .val (.int cn), .val (.ref b2), .val (.ref b6), .val (.long (qv - (0 : Int64))), .second, .val (.long (qv - ((0 : Int64) + rs))), .second, .val (.long ((qv - fq) - ((0 : Int64) + rs - fq))), .second, .val (.long ((qv - fq) - ((0 : Int64) + rs - fq - fr))), .second, .val (.long (0 : Int64)), .second, .val (.long ((qv - rs) + fr)), .second, .val (.long (0 : Int64)), .second] [(.int (1 : Int32))])) (fun tZ kZ => XS.goto X18.here hx rfl (pc0 := 310) (pc' := 314) rfl (hb hby at_310) (by decide) (by decide) kZ) ?_
              exact own_retWI X18 hS3 (by rw [heq18]; exact hk17) hx (t := .boolean) Bd.returns (by simp) rfl (hb hby at_314) Bd.notSynchronized (by decide) (by decide) ⟨rfl, N18⟩
          by_cases hb7 : (p5 &&& (1 : Int32)) = (0 : Int32)
          · refine own_by (S' := T1.setTop (mkF m 135 #[.val (.long p1), .second, .val (.long p2), .second, .val (.long p3), .second, .val (.long p4), .second, .val (.int p5), .val (.long qv), .second, .val (.long rs), .second, .val (.long fq), .second, .val (.long lf), .second, .val (.long fr), .second, .val (.int io), .unset, .unset, .unset, .unset, .unset, .unset, .unset, .unset, .unset, .unset, .unset, .unset, .unset, .unset, .unset, .unset, .unset] [])) (fun tZ kZ => XS.ifYes X1.here hx rfl (pc0 := 128) (pc' := 135) rfl (hb hby at_128) rfl ((if0 _ _).trans (teq hb7).1) (by decide) (by decide) kZ) ?_
            refine own_by (S' := T1.setTop (mkF m 136 #[.val (.long p1), .second, .val (.long p2), .second, .val (.long p3), .second, .val (.long p4), .second, .val (.int p5), .val (.long qv), .second, .val (.long rs), .second, .val (.long fq), .second, .val (.long lf), .second, .val (.long fr), .second, .val (.int io), .unset, .unset, .unset, .unset, .unset, .unset, .unset, .unset, .unset, .unset, .unset, .unset, .unset, .unset, .unset, .unset, .unset] [(.int (0 : Int32))])) (fun tZ kZ => XS.iconst X1.here hx rfl (hb hby at_135) kZ) ?_
            exact J136 _ 
          · refine own_by (S' := T1.setTop (mkF m 131 #[.val (.long p1), .second, .val (.long p2), .second, .val (.long p3), .second, .val (.long p4), .second, .val (.int p5), .val (.long qv), .second, .val (.long rs), .second, .val (.long fq), .second, .val (.long lf), .second, .val (.long fr), .second, .val (.int io), .unset, .unset, .unset, .unset, .unset, .unset, .unset, .unset, .unset, .unset, .unset, .unset, .unset, .unset, .unset, .unset, .unset] [])) (fun tZ kZ => XS.ifNo X1.here hx rfl (hb hby at_128) rfl ((if0 _ _).trans (feq hb7).1) kZ) ?_
            refine own_by (S' := T1.setTop (mkF m 132 #[.val (.long p1), .second, .val (.long p2), .second, .val (.long p3), .second, .val (.long p4), .second, .val (.int p5), .val (.long qv), .second, .val (.long rs), .second, .val (.long fq), .second, .val (.long lf), .second, .val (.long fr), .second, .val (.int io), .unset, .unset, .unset, .unset, .unset, .unset, .unset, .unset, .unset, .unset, .unset, .unset, .unset, .unset, .unset, .unset, .unset] [(.int (1 : Int32))])) (fun tZ kZ => XS.iconst X1.here hx rfl (hb hby at_131) kZ) ?_
            refine own_by (S' := T1.setTop (mkF m 136 #[.val (.long p1), .second, .val (.long p2), .second, .val (.long p3), .second, .val (.long p4), .second, .val (.int p5), .val (.long qv), .second, .val (.long rs), .second, .val (.long fq), .second, .val (.long lf), .second, .val (.long fr), .second, .val (.int io), .unset, .unset, .unset, .unset, .unset, .unset, .unset, .unset, .unset, .unset, .unset, .unset, .unset, .unset, .unset, .unset, .unset] [(.int (1 : Int32))])) (fun tZ kZ => XS.goto X1.here hx rfl (pc0 := 132) (pc' := 136) rfl (hb hby at_132) (by decide) (by decide) kZ) ?_
            exact J136 _ 
        by_cases hb6 : (p5 &&& (16 : Int32)) = (0 : Int32)
        · refine own_by (S' := T1.setTop (mkF m 121 #[.val (.long p1), .second, .val (.long p2), .second, .val (.long p3), .second, .val (.long p4), .second, .val (.int p5), .val (.long qv), .second, .val (.long rs), .second, .val (.long fq), .second, .val (.long lf), .second, .val (.long fr), .second, .unset, .unset, .unset, .unset, .unset, .unset, .unset, .unset, .unset, .unset, .unset, .unset, .unset, .unset, .unset, .unset, .unset, .unset] [])) (fun tZ kZ => XS.ifYes X1.here hx rfl (pc0 := 114) (pc' := 121) rfl (hb hby at_114) rfl ((if0 _ _).trans (teq hb6).1) (by decide) (by decide) kZ) ?_
          refine own_by (S' := T1.setTop (mkF m 122 #[.val (.long p1), .second, .val (.long p2), .second, .val (.long p3), .second, .val (.long p4), .second, .val (.int p5), .val (.long qv), .second, .val (.long rs), .second, .val (.long fq), .second, .val (.long lf), .second, .val (.long fr), .second, .unset, .unset, .unset, .unset, .unset, .unset, .unset, .unset, .unset, .unset, .unset, .unset, .unset, .unset, .unset, .unset, .unset, .unset] [(.int (0 : Int32))])) (fun tZ kZ => XS.iconst X1.here hx rfl (hb hby at_121) kZ) ?_
          exact J122 _ (Or.inl rfl)
        · refine own_by (S' := T1.setTop (mkF m 117 #[.val (.long p1), .second, .val (.long p2), .second, .val (.long p3), .second, .val (.long p4), .second, .val (.int p5), .val (.long qv), .second, .val (.long rs), .second, .val (.long fq), .second, .val (.long lf), .second, .val (.long fr), .second, .unset, .unset, .unset, .unset, .unset, .unset, .unset, .unset, .unset, .unset, .unset, .unset, .unset, .unset, .unset, .unset, .unset, .unset] [])) (fun tZ kZ => XS.ifNo X1.here hx rfl (hb hby at_114) rfl ((if0 _ _).trans (feq hb6).1) kZ) ?_
          refine own_by (S' := T1.setTop (mkF m 118 #[.val (.long p1), .second, .val (.long p2), .second, .val (.long p3), .second, .val (.long p4), .second, .val (.int p5), .val (.long qv), .second, .val (.long rs), .second, .val (.long fq), .second, .val (.long lf), .second, .val (.long fr), .second, .unset, .unset, .unset, .unset, .unset, .unset, .unset, .unset, .unset, .unset, .unset, .unset, .unset, .unset, .unset, .unset, .unset, .unset] [(.int (1 : Int32))])) (fun tZ kZ => XS.iconst X1.here hx rfl (hb hby at_117) kZ) ?_
          refine own_by (S' := T1.setTop (mkF m 122 #[.val (.long p1), .second, .val (.long p2), .second, .val (.long p3), .second, .val (.long p4), .second, .val (.int p5), .val (.long qv), .second, .val (.long rs), .second, .val (.long fq), .second, .val (.long lf), .second, .val (.long fr), .second, .unset, .unset, .unset, .unset, .unset, .unset, .unset, .unset, .unset, .unset, .unset, .unset, .unset, .unset, .unset, .unset, .unset, .unset] [(.int (1 : Int32))])) (fun tZ kZ => XS.goto X1.here hx rfl (pc0 := 118) (pc' := 122) rfl (hb hby at_118) (by decide) (by decide) kZ) ?_
          exact J122 _ (Or.inr rfl)
      by_cases hb4 : (p5 &&& (8 : Int32)) = (0 : Int32)
      · refine own_by (S' := T1.setTop (mkF m 87 #[.val (.long p1), .second, .val (.long p2), .second, .val (.long p3), .second, .val (.long p4), .second, .val (.int p5), .val (.long qv), .second, .val (.long rs), .second, .val (.long fq), .second, .val (.long lf), .second, .unset, .unset, .unset, .unset, .unset, .unset, .unset, .unset, .unset, .unset, .unset, .unset, .unset, .unset, .unset, .unset, .unset, .unset, .unset, .unset] [])) (fun tZ kZ => XS.ifYes X1.here hx rfl (pc0 := 79) (pc' := 87) rfl (hb hby at_79) rfl ((if0 _ _).trans (teq hb4).1) (by decide) (by decide) kZ) ?_
        refine own_by (S' := T1.setTop (mkF m 89 #[.val (.long p1), .second, .val (.long p2), .second, .val (.long p3), .second, .val (.long p4), .second, .val (.int p5), .val (.long qv), .second, .val (.long rs), .second, .val (.long fq), .second, .val (.long lf), .second, .unset, .unset, .unset, .unset, .unset, .unset, .unset, .unset, .unset, .unset, .unset, .unset, .unset, .unset, .unset, .unset, .unset, .unset, .unset, .unset] [(.long lf)])) (fun tZ kZ => XS.lload X1.here hx rfl (hb hby at_87) rfl kZ) ?_
        refine own_by (S' := T1.setTop (mkF m 90 #[.val (.long p1), .second, .val (.long p2), .second, .val (.long p3), .second, .val (.long p4), .second, .val (.int p5), .val (.long qv), .second, .val (.long rs), .second, .val (.long fq), .second, .val (.long lf), .second, .unset, .unset, .unset, .unset, .unset, .unset, .unset, .unset, .unset, .unset, .unset, .unset, .unset, .unset, .unset, .unset, .unset, .unset, .unset, .unset] [(.long (0 : Int64)), (.long lf)])) (fun tZ kZ => XS.lconst X1.here hx rfl (hb hby at_89) kZ) ?_
        refine own_by (S' := T1.setTop (mkF m 91 #[.val (.long p1), .second, .val (.long p2), .second, .val (.long p3), .second, .val (.long p4), .second, .val (.int p5), .val (.long qv), .second, .val (.long rs), .second, .val (.long fq), .second, .val (.long lf), .second, .unset, .unset, .unset, .unset, .unset, .unset, .unset, .unset, .unset, .unset, .unset, .unset, .unset, .unset, .unset, .unset, .unset, .unset, .unset, .unset] [(.int (lcmpW lf (0 : Int64)))])) (fun tZ kZ => XS.lcmp X1.here hx rfl (hb hby at_90) rfl kZ) ?_
        by_cases hb5 : (lcmpW lf (0 : Int64)) = (0 : Int32)
        · refine own_by (S' := T1.setTop (mkF m 94 #[.val (.long p1), .second, .val (.long p2), .second, .val (.long p3), .second, .val (.long p4), .second, .val (.int p5), .val (.long qv), .second, .val (.long rs), .second, .val (.long fq), .second, .val (.long lf), .second, .unset, .unset, .unset, .unset, .unset, .unset, .unset, .unset, .unset, .unset, .unset, .unset, .unset, .unset, .unset, .unset, .unset, .unset, .unset, .unset] [])) (fun tZ kZ => XS.ifNo X1.here hx rfl (hb hby at_91) rfl ((if0 _ _).trans (teq hb5).2) kZ) ?_
          refine own_by (S' := T1.setTop (mkF m 95 #[.val (.long p1), .second, .val (.long p2), .second, .val (.long p3), .second, .val (.long p4), .second, .val (.int p5), .val (.long qv), .second, .val (.long rs), .second, .val (.long fq), .second, .val (.long lf), .second, .unset, .unset, .unset, .unset, .unset, .unset, .unset, .unset, .unset, .unset, .unset, .unset, .unset, .unset, .unset, .unset, .unset, .unset, .unset, .unset] [(.long (0 : Int64))])) (fun tZ kZ => XS.lconst X1.here hx rfl (hb hby at_94) kZ) ?_
          refine own_by (S' := T1.setTop (mkF m 107 #[.val (.long p1), .second, .val (.long p2), .second, .val (.long p3), .second, .val (.long p4), .second, .val (.int p5), .val (.long qv), .second, .val (.long rs), .second, .val (.long fq), .second, .val (.long lf), .second, .unset, .unset, .unset, .unset, .unset, .unset, .unset, .unset, .unset, .unset, .unset, .unset, .unset, .unset, .unset, .unset, .unset, .unset, .unset, .unset] [(.long (0 : Int64))])) (fun tZ kZ => XS.goto X1.here hx rfl (pc0 := 95) (pc' := 107) rfl (hb hby at_95) (by decide) (by decide) kZ) ?_
          exact J107 _ 
        · refine own_by (S' := T1.setTop (mkF m 98 #[.val (.long p1), .second, .val (.long p2), .second, .val (.long p3), .second, .val (.long p4), .second, .val (.int p5), .val (.long qv), .second, .val (.long rs), .second, .val (.long fq), .second, .val (.long lf), .second, .unset, .unset, .unset, .unset, .unset, .unset, .unset, .unset, .unset, .unset, .unset, .unset, .unset, .unset, .unset, .unset, .unset, .unset, .unset, .unset] [])) (fun tZ kZ => XS.ifYes X1.here hx rfl (pc0 := 91) (pc' := 98) rfl (hb hby at_91) rfl ((if0 _ _).trans (feq hb5).2) (by decide) (by decide) kZ) ?_
          refine own_by (S' := T1.setTop (mkF m 100 #[.val (.long p1), .second, .val (.long p2), .second, .val (.long p3), .second, .val (.long p4), .second, .val (.int p5), .val (.long qv), .second, .val (.long rs), .second, .val (.long fq), .second, .val (.long lf), .second, .unset, .unset, .unset, .unset, .unset, .unset, .unset, .unset, .unset, .unset, .unset, .unset, .unset, .unset, .unset, .unset, .unset, .unset, .unset, .unset] [(.long p4)])) (fun tZ kZ => XS.lload X1.here hx rfl (hb hby at_98) rfl kZ) ?_
          refine own_by (S' := T1.setTop (mkF m 103 #[.val (.long p1), .second, .val (.long p2), .second, .val (.long p3), .second, .val (.long p4), .second, .val (.int p5), .val (.long qv), .second, .val (.long rs), .second, .val (.long fq), .second, .val (.long lf), .second, .unset, .unset, .unset, .unset, .unset, .unset, .unset, .unset, .unset, .unset, .unset, .unset, .unset, .unset, .unset, .unset, .unset, .unset, .unset, .unset] [(.long (9223372036854775807 : Int64)), (.long p4)])) (fun tZ kZ => X1.ldc2Long hx hown0 (mvT hZ0 (hw _ (List.mem_of_getElem? (i := 0) rfl))) (g := (mkF m 100 #[.val (.long p1), .second, .val (.long p2), .second, .val (.long p3), .second, .val (.long p4), .second, .val (.int p5), .val (.long qv), .second, .val (.long rs), .second, .val (.long fq), .second, .val (.long lf), .second, .unset, .unset, .unset, .unset, .unset, .unset, .unset, .unset, .unset, .unset, .unset, .unset, .unset, .unset, .unset, .unset, .unset, .unset, .unset, .unset] [(.long p4)])) rfl (hb hby at_100) _ kZ) ?_
          refine own_by (S' := T1.setTop (mkF m 104 #[.val (.long p1), .second, .val (.long p2), .second, .val (.long p3), .second, .val (.long p4), .second, .val (.int p5), .val (.long qv), .second, .val (.long rs), .second, .val (.long fq), .second, .val (.long lf), .second, .unset, .unset, .unset, .unset, .unset, .unset, .unset, .unset, .unset, .unset, .unset, .unset, .unset, .unset, .unset, .unset, .unset, .unset, .unset, .unset] [(.long (p4 &&& (9223372036854775807 : Int64)))])) (fun tZ kZ => XS.land X1.here hx rfl (hb hby at_103) rfl kZ) ?_
          refine own_by (S' := T1.setTop (mkF m 106 #[.val (.long p1), .second, .val (.long p2), .second, .val (.long p3), .second, .val (.long p4), .second, .val (.int p5), .val (.long qv), .second, .val (.long rs), .second, .val (.long fq), .second, .val (.long lf), .second, .unset, .unset, .unset, .unset, .unset, .unset, .unset, .unset, .unset, .unset, .unset, .unset, .unset, .unset, .unset, .unset, .unset, .unset, .unset, .unset] [(.long lf), (.long (p4 &&& (9223372036854775807 : Int64)))])) (fun tZ kZ => XS.lload X1.here hx rfl (hb hby at_104) rfl kZ) ?_
          refine own_by (S' := T1.setTop (mkF m 107 #[.val (.long p1), .second, .val (.long p2), .second, .val (.long p3), .second, .val (.long p4), .second, .val (.int p5), .val (.long qv), .second, .val (.long rs), .second, .val (.long fq), .second, .val (.long lf), .second, .unset, .unset, .unset, .unset, .unset, .unset, .unset, .unset, .unset, .unset, .unset, .unset, .unset, .unset, .unset, .unset, .unset, .unset, .unset, .unset] [(.long ((p4 &&& (9223372036854775807 : Int64)) - ((p4 &&& (9223372036854775807 : Int64)) / lf) * lf))])) (fun tZ kZ => XS.lrem X1.here hx rfl (hb hby at_106) rfl (fun q => hb5 ((lw_eq _ _).mpr q)) kZ) ?_
          exact J107 _ 
      · refine own_by (S' := T1.setTop (mkF m 82 #[.val (.long p1), .second, .val (.long p2), .second, .val (.long p3), .second, .val (.long p4), .second, .val (.int p5), .val (.long qv), .second, .val (.long rs), .second, .val (.long fq), .second, .val (.long lf), .second, .unset, .unset, .unset, .unset, .unset, .unset, .unset, .unset, .unset, .unset, .unset, .unset, .unset, .unset, .unset, .unset, .unset, .unset, .unset, .unset] [])) (fun tZ kZ => XS.ifNo X1.here hx rfl (hb hby at_79) rfl ((if0 _ _).trans (feq hb4).1) kZ) ?_
        refine own_by (S' := T1.setTop (mkF m 84 #[.val (.long p1), .second, .val (.long p2), .second, .val (.long p3), .second, .val (.long p4), .second, .val (.int p5), .val (.long qv), .second, .val (.long rs), .second, .val (.long fq), .second, .val (.long lf), .second, .unset, .unset, .unset, .unset, .unset, .unset, .unset, .unset, .unset, .unset, .unset, .unset, .unset, .unset, .unset, .unset, .unset, .unset, .unset, .unset] [(.long lf)])) (fun tZ kZ => XS.lload X1.here hx rfl (hb hby at_82) rfl kZ) ?_
        refine own_by (S' := T1.setTop (mkF m 107 #[.val (.long p1), .second, .val (.long p2), .second, .val (.long p3), .second, .val (.long p4), .second, .val (.int p5), .val (.long qv), .second, .val (.long rs), .second, .val (.long fq), .second, .val (.long lf), .second, .unset, .unset, .unset, .unset, .unset, .unset, .unset, .unset, .unset, .unset, .unset, .unset, .unset, .unset, .unset, .unset, .unset, .unset, .unset, .unset] [(.long lf)])) (fun tZ kZ => XS.goto X1.here hx rfl (pc0 := 84) (pc' := 107) rfl (hb hby at_84) (by decide) (by decide) kZ) ?_
        exact J107 _ 
    by_cases hb2 : (p5 &&& (4 : Int32)) = (0 : Int32)
    · refine own_by (S' := T1.setTop (mkF m 45 #[.val (.long p1), .second, .val (.long p2), .second, .val (.long p3), .second, .val (.long p4), .second, .val (.int p5), .val (.long qv), .second, .val (.long rs), .second, .unset, .unset, .unset, .unset, .unset, .unset, .unset, .unset, .unset, .unset, .unset, .unset, .unset, .unset, .unset, .unset, .unset, .unset, .unset, .unset, .unset, .unset, .unset, .unset] [])) (fun tZ kZ => XS.ifYes X1.here hx rfl (pc0 := 37) (pc' := 45) rfl (hb hby at_37) rfl ((if0 _ _).trans (teq hb2).1) (by decide) (by decide) kZ) ?_
      refine own_by (S' := T1.setTop (mkF m 47 #[.val (.long p1), .second, .val (.long p2), .second, .val (.long p3), .second, .val (.long p4), .second, .val (.int p5), .val (.long qv), .second, .val (.long rs), .second, .unset, .unset, .unset, .unset, .unset, .unset, .unset, .unset, .unset, .unset, .unset, .unset, .unset, .unset, .unset, .unset, .unset, .unset, .unset, .unset, .unset, .unset, .unset, .unset] [(.long rs)])) (fun tZ kZ => XS.lload X1.here hx rfl (hb hby at_45) rfl kZ) ?_
      refine own_by (S' := T1.setTop (mkF m 48 #[.val (.long p1), .second, .val (.long p2), .second, .val (.long p3), .second, .val (.long p4), .second, .val (.int p5), .val (.long qv), .second, .val (.long rs), .second, .unset, .unset, .unset, .unset, .unset, .unset, .unset, .unset, .unset, .unset, .unset, .unset, .unset, .unset, .unset, .unset, .unset, .unset, .unset, .unset, .unset, .unset, .unset, .unset] [(.long (0 : Int64)), (.long rs)])) (fun tZ kZ => XS.lconst X1.here hx rfl (hb hby at_47) kZ) ?_
      refine own_by (S' := T1.setTop (mkF m 49 #[.val (.long p1), .second, .val (.long p2), .second, .val (.long p3), .second, .val (.long p4), .second, .val (.int p5), .val (.long qv), .second, .val (.long rs), .second, .unset, .unset, .unset, .unset, .unset, .unset, .unset, .unset, .unset, .unset, .unset, .unset, .unset, .unset, .unset, .unset, .unset, .unset, .unset, .unset, .unset, .unset, .unset, .unset] [(.int (lcmpW rs (0 : Int64)))])) (fun tZ kZ => XS.lcmp X1.here hx rfl (hb hby at_48) rfl kZ) ?_
      by_cases hb3 : (lcmpW rs (0 : Int64)) = (0 : Int32)
      · refine own_by (S' := T1.setTop (mkF m 52 #[.val (.long p1), .second, .val (.long p2), .second, .val (.long p3), .second, .val (.long p4), .second, .val (.int p5), .val (.long qv), .second, .val (.long rs), .second, .unset, .unset, .unset, .unset, .unset, .unset, .unset, .unset, .unset, .unset, .unset, .unset, .unset, .unset, .unset, .unset, .unset, .unset, .unset, .unset, .unset, .unset, .unset, .unset] [])) (fun tZ kZ => XS.ifNo X1.here hx rfl (hb hby at_49) rfl ((if0 _ _).trans (teq hb3).2) kZ) ?_
        refine own_by (S' := T1.setTop (mkF m 53 #[.val (.long p1), .second, .val (.long p2), .second, .val (.long p3), .second, .val (.long p4), .second, .val (.int p5), .val (.long qv), .second, .val (.long rs), .second, .unset, .unset, .unset, .unset, .unset, .unset, .unset, .unset, .unset, .unset, .unset, .unset, .unset, .unset, .unset, .unset, .unset, .unset, .unset, .unset, .unset, .unset, .unset, .unset] [(.long (0 : Int64))])) (fun tZ kZ => XS.lconst X1.here hx rfl (hb hby at_52) kZ) ?_
        refine own_by (S' := T1.setTop (mkF m 65 #[.val (.long p1), .second, .val (.long p2), .second, .val (.long p3), .second, .val (.long p4), .second, .val (.int p5), .val (.long qv), .second, .val (.long rs), .second, .unset, .unset, .unset, .unset, .unset, .unset, .unset, .unset, .unset, .unset, .unset, .unset, .unset, .unset, .unset, .unset, .unset, .unset, .unset, .unset, .unset, .unset, .unset, .unset] [(.long (0 : Int64))])) (fun tZ kZ => XS.goto X1.here hx rfl (pc0 := 53) (pc' := 65) rfl (hb hby at_53) (by decide) (by decide) kZ) ?_
        exact J65 _ (by decide)
      · refine own_by (S' := T1.setTop (mkF m 56 #[.val (.long p1), .second, .val (.long p2), .second, .val (.long p3), .second, .val (.long p4), .second, .val (.int p5), .val (.long qv), .second, .val (.long rs), .second, .unset, .unset, .unset, .unset, .unset, .unset, .unset, .unset, .unset, .unset, .unset, .unset, .unset, .unset, .unset, .unset, .unset, .unset, .unset, .unset, .unset, .unset, .unset, .unset] [])) (fun tZ kZ => XS.ifYes X1.here hx rfl (pc0 := 49) (pc' := 56) rfl (hb hby at_49) rfl ((if0 _ _).trans (feq hb3).2) (by decide) (by decide) kZ) ?_
        have hrp : 0 < rs.toInt := by
          have r : ¬ rs.toInt = 0 := fun r => hb3 ((lw_eq _ _).mpr (Int64.toInt_inj.mp (r.trans own_e0.symm)))
          omega
        refine own_by (S' := T1.setTop (mkF m 58 #[.val (.long p1), .second, .val (.long p2), .second, .val (.long p3), .second, .val (.long p4), .second, .val (.int p5), .val (.long qv), .second, .val (.long rs), .second, .unset, .unset, .unset, .unset, .unset, .unset, .unset, .unset, .unset, .unset, .unset, .unset, .unset, .unset, .unset, .unset, .unset, .unset, .unset, .unset, .unset, .unset, .unset, .unset] [(.long p3)])) (fun tZ kZ => XS.lload X1.here hx rfl (hb hby at_56) rfl kZ) ?_
        refine own_by (S' := T1.setTop (mkF m 61 #[.val (.long p1), .second, .val (.long p2), .second, .val (.long p3), .second, .val (.long p4), .second, .val (.int p5), .val (.long qv), .second, .val (.long rs), .second, .unset, .unset, .unset, .unset, .unset, .unset, .unset, .unset, .unset, .unset, .unset, .unset, .unset, .unset, .unset, .unset, .unset, .unset, .unset, .unset, .unset, .unset, .unset, .unset] [(.long (9223372036854775807 : Int64)), (.long p3)])) (fun tZ kZ => X1.ldc2Long hx hown0 (mvT hZ0 (hw _ (List.mem_of_getElem? (i := 0) rfl))) (g := (mkF m 58 #[.val (.long p1), .second, .val (.long p2), .second, .val (.long p3), .second, .val (.long p4), .second, .val (.int p5), .val (.long qv), .second, .val (.long rs), .second, .unset, .unset, .unset, .unset, .unset, .unset, .unset, .unset, .unset, .unset, .unset, .unset, .unset, .unset, .unset, .unset, .unset, .unset, .unset, .unset, .unset, .unset, .unset, .unset] [(.long p3)])) rfl (hb hby at_58) _ kZ) ?_
        refine own_by (S' := T1.setTop (mkF m 62 #[.val (.long p1), .second, .val (.long p2), .second, .val (.long p3), .second, .val (.long p4), .second, .val (.int p5), .val (.long qv), .second, .val (.long rs), .second, .unset, .unset, .unset, .unset, .unset, .unset, .unset, .unset, .unset, .unset, .unset, .unset, .unset, .unset, .unset, .unset, .unset, .unset, .unset, .unset, .unset, .unset, .unset, .unset] [(.long (p3 &&& (9223372036854775807 : Int64)))])) (fun tZ kZ => XS.land X1.here hx rfl (hb hby at_61) rfl kZ) ?_
        refine own_by (S' := T1.setTop (mkF m 64 #[.val (.long p1), .second, .val (.long p2), .second, .val (.long p3), .second, .val (.long p4), .second, .val (.int p5), .val (.long qv), .second, .val (.long rs), .second, .unset, .unset, .unset, .unset, .unset, .unset, .unset, .unset, .unset, .unset, .unset, .unset, .unset, .unset, .unset, .unset, .unset, .unset, .unset, .unset, .unset, .unset, .unset, .unset] [(.long rs), (.long (p3 &&& (9223372036854775807 : Int64)))])) (fun tZ kZ => XS.lload X1.here hx rfl (hb hby at_62) rfl kZ) ?_
        refine own_by (S' := T1.setTop (mkF m 65 #[.val (.long p1), .second, .val (.long p2), .second, .val (.long p3), .second, .val (.long p4), .second, .val (.int p5), .val (.long qv), .second, .val (.long rs), .second, .unset, .unset, .unset, .unset, .unset, .unset, .unset, .unset, .unset, .unset, .unset, .unset, .unset, .unset, .unset, .unset, .unset, .unset, .unset, .unset, .unset, .unset, .unset, .unset] [(.long ((p3 &&& (9223372036854775807 : Int64)) - ((p3 &&& (9223372036854775807 : Int64)) / rs) * rs))])) (fun tZ kZ => XS.lrem X1.here hx rfl (hb hby at_64) rfl (own_nz hrp) kZ) ?_
        exact J65 _ (own_rem own_pos hrp)
    · refine own_by (S' := T1.setTop (mkF m 40 #[.val (.long p1), .second, .val (.long p2), .second, .val (.long p3), .second, .val (.long p4), .second, .val (.int p5), .val (.long qv), .second, .val (.long rs), .second, .unset, .unset, .unset, .unset, .unset, .unset, .unset, .unset, .unset, .unset, .unset, .unset, .unset, .unset, .unset, .unset, .unset, .unset, .unset, .unset, .unset, .unset, .unset, .unset] [])) (fun tZ kZ => XS.ifNo X1.here hx rfl (hb hby at_37) rfl ((if0 _ _).trans (feq hb2).1) kZ) ?_
      refine own_by (S' := T1.setTop (mkF m 42 #[.val (.long p1), .second, .val (.long p2), .second, .val (.long p3), .second, .val (.long p4), .second, .val (.int p5), .val (.long qv), .second, .val (.long rs), .second, .unset, .unset, .unset, .unset, .unset, .unset, .unset, .unset, .unset, .unset, .unset, .unset, .unset, .unset, .unset, .unset, .unset, .unset, .unset, .unset, .unset, .unset, .unset, .unset] [(.long rs)])) (fun tZ kZ => XS.lload X1.here hx rfl (hb hby at_40) rfl kZ) ?_
      refine own_by (S' := T1.setTop (mkF m 65 #[.val (.long p1), .second, .val (.long p2), .second, .val (.long p3), .second, .val (.long p4), .second, .val (.int p5), .val (.long qv), .second, .val (.long rs), .second, .unset, .unset, .unset, .unset, .unset, .unset, .unset, .unset, .unset, .unset, .unset, .unset, .unset, .unset, .unset, .unset, .unset, .unset, .unset, .unset, .unset, .unset, .unset, .unset] [(.long rs)])) (fun tZ kZ => XS.goto X1.here hx rfl (pc0 := 42) (pc' := 65) rfl (hb hby at_42) (by decide) (by decide) kZ) ?_
      exact J65 _ hrs
  by_cases hb1 : (p5 &&& (2 : Int32)) = (0 : Int32)
  · refine own_by (S' := T1.setTop (mkF m 23 #[.val (.long p1), .second, .val (.long p2), .second, .val (.long p3), .second, .val (.long p4), .second, .val (.int p5), .val (.long qv), .second, .unset, .unset, .unset, .unset, .unset, .unset, .unset, .unset, .unset, .unset, .unset, .unset, .unset, .unset, .unset, .unset, .unset, .unset, .unset, .unset, .unset, .unset, .unset, .unset, .unset, .unset] [])) (fun tZ kZ => XS.ifYes X1.here hx rfl (pc0 := 15) (pc' := 23) rfl (hb hby at_15) rfl ((if0 _ _).trans (teq hb1).1) (by decide) (by decide) kZ) ?_
    refine own_by (S' := T1.setTop (mkF m 24 #[.val (.long p1), .second, .val (.long p2), .second, .val (.long p3), .second, .val (.long p4), .second, .val (.int p5), .val (.long qv), .second, .unset, .unset, .unset, .unset, .unset, .unset, .unset, .unset, .unset, .unset, .unset, .unset, .unset, .unset, .unset, .unset, .unset, .unset, .unset, .unset, .unset, .unset, .unset, .unset, .unset, .unset] [(.long p2)])) (fun tZ kZ => XS.lloadN X1.here hx rfl (hb hby at_23) rfl kZ) ?_
    refine own_by (S' := T1.setTop (mkF m 27 #[.val (.long p1), .second, .val (.long p2), .second, .val (.long p3), .second, .val (.long p4), .second, .val (.int p5), .val (.long qv), .second, .unset, .unset, .unset, .unset, .unset, .unset, .unset, .unset, .unset, .unset, .unset, .unset, .unset, .unset, .unset, .unset, .unset, .unset, .unset, .unset, .unset, .unset, .unset, .unset, .unset, .unset] [(.long (9223372036854775807 : Int64)), (.long p2)])) (fun tZ kZ => X1.ldc2Long hx hown0 (mvT hZ0 (hw _ (List.mem_of_getElem? (i := 0) rfl))) (g := (mkF m 24 #[.val (.long p1), .second, .val (.long p2), .second, .val (.long p3), .second, .val (.long p4), .second, .val (.int p5), .val (.long qv), .second, .unset, .unset, .unset, .unset, .unset, .unset, .unset, .unset, .unset, .unset, .unset, .unset, .unset, .unset, .unset, .unset, .unset, .unset, .unset, .unset, .unset, .unset, .unset, .unset, .unset, .unset] [(.long p2)])) rfl (hb hby at_24) _ kZ) ?_
    refine own_by (S' := T1.setTop (mkF m 28 #[.val (.long p1), .second, .val (.long p2), .second, .val (.long p3), .second, .val (.long p4), .second, .val (.int p5), .val (.long qv), .second, .unset, .unset, .unset, .unset, .unset, .unset, .unset, .unset, .unset, .unset, .unset, .unset, .unset, .unset, .unset, .unset, .unset, .unset, .unset, .unset, .unset, .unset, .unset, .unset, .unset, .unset] [(.long (p2 &&& (9223372036854775807 : Int64)))])) (fun tZ kZ => XS.land X1.here hx rfl (hb hby at_27) rfl kZ) ?_
    refine own_by (S' := T1.setTop (mkF m 30 #[.val (.long p1), .second, .val (.long p2), .second, .val (.long p3), .second, .val (.long p4), .second, .val (.int p5), .val (.long qv), .second, .unset, .unset, .unset, .unset, .unset, .unset, .unset, .unset, .unset, .unset, .unset, .unset, .unset, .unset, .unset, .unset, .unset, .unset, .unset, .unset, .unset, .unset, .unset, .unset, .unset, .unset] [(.long qv), (.long (p2 &&& (9223372036854775807 : Int64)))])) (fun tZ kZ => XS.lload X1.here hx rfl (hb hby at_28) rfl kZ) ?_
    refine own_by (S' := T1.setTop (mkF m 31 #[.val (.long p1), .second, .val (.long p2), .second, .val (.long p3), .second, .val (.long p4), .second, .val (.int p5), .val (.long qv), .second, .unset, .unset, .unset, .unset, .unset, .unset, .unset, .unset, .unset, .unset, .unset, .unset, .unset, .unset, .unset, .unset, .unset, .unset, .unset, .unset, .unset, .unset, .unset, .unset, .unset, .unset] [(.long ((p2 &&& (9223372036854775807 : Int64)) - ((p2 &&& (9223372036854775807 : Int64)) / qv) * qv))])) (fun tZ kZ => XS.lrem X1.here hx rfl (hb hby at_30) rfl (own_nz (by omega)) kZ) ?_
    exact J31 _ (own_rem own_pos (by omega))
  · refine own_by (S' := T1.setTop (mkF m 18 #[.val (.long p1), .second, .val (.long p2), .second, .val (.long p3), .second, .val (.long p4), .second, .val (.int p5), .val (.long qv), .second, .unset, .unset, .unset, .unset, .unset, .unset, .unset, .unset, .unset, .unset, .unset, .unset, .unset, .unset, .unset, .unset, .unset, .unset, .unset, .unset, .unset, .unset, .unset, .unset, .unset, .unset] [])) (fun tZ kZ => XS.ifNo X1.here hx rfl (hb hby at_15) rfl ((if0 _ _).trans (feq hb1).1) kZ) ?_
    refine own_by (S' := T1.setTop (mkF m 20 #[.val (.long p1), .second, .val (.long p2), .second, .val (.long p3), .second, .val (.long p4), .second, .val (.int p5), .val (.long qv), .second, .unset, .unset, .unset, .unset, .unset, .unset, .unset, .unset, .unset, .unset, .unset, .unset, .unset, .unset, .unset, .unset, .unset, .unset, .unset, .unset, .unset, .unset, .unset, .unset, .unset, .unset] [(.long qv)])) (fun tZ kZ => XS.lload X1.here hx rfl (hb hby at_18) rfl kZ) ?_
    refine own_by (S' := T1.setTop (mkF m 31 #[.val (.long p1), .second, .val (.long p2), .second, .val (.long p3), .second, .val (.long p4), .second, .val (.int p5), .val (.long qv), .second, .unset, .unset, .unset, .unset, .unset, .unset, .unset, .unset, .unset, .unset, .unset, .unset, .unset, .unset, .unset, .unset, .unset, .unset, .unset, .unset, .unset, .unset, .unset, .unset, .unset, .unset] [(.long qv)])) (fun tZ kZ => XS.goto X1.here hx rfl (pc0 := 20) (pc' := 31) rfl (hb hby at_20) (by decide) (by decide) kZ) ?_
    exact J31 _ (by omega)
set_option maxRecDepth 65536 in
set_option maxHeartbeats 40000000 in
theorem comes_1 {Post : Tables → Env → Array Value → State → Outcome → State → Prop} (hpost : ∀ tb e args s v u, (limb_1_1.after args s (.returned v) u = true ∧ limb_1_2.after args s (.returned v) u = true ∧ True) → FramedW s (.returned v) u (Jvm.fieldLocs frame_1_writes args s ++ Jvm.arrayLocs frame_1_arrays args s ++ Jvm.staticLocs frame_1_statics s) 24 1216 → Post tb e args s (.returned v) u) :
    ArmFor flags0 classFile x code maxLocals ret World_1 tables_1 room_1 Calls_1 rest_1 Pre_1 Post := by
  intro l hfl _ _ p e ha hc hk s m args below hf hA hF happ hP
  obtain ⟨hcalls, hrest, hpre⟩ := hP
  obtain ⟨-, -, -, hnamed, -, -, -, hat⟩ := (Spec.applies_iff hf).mp happ
  obtain ⟨hg, hn⟩ := and_e (Cond.before_iff.mp (show (Jvm.Cond.and given_1 narrow_1).before args s = true from hpre))
  obtain ⟨gc, gr0⟩ := and_e hg
  obtain ⟨ga0, gr1⟩ := and_e gr0
  obtain ⟨ga1, gr2⟩ := and_e gr1
  obtain ⟨ga2, gr3⟩ := and_e gr2
  obtain ⟨ga3, gr4⟩ := and_e gr3
  obtain ⟨w0, w1, w2, w3, w4, rfl⟩ : ∃ w0 w1 w2 w3 w4 : Value, args = #[w0, w1, w2, w3, w4] := by
    have hs : args.size = 5 := by simpa [Cond.value, given_1] using gc
    obtain ⟨L⟩ := args
    match L, hs with
    | [w0, w1, w2, w3, w4], _ => exact ⟨w0, w1, w2, w3, w4, rfl⟩
  have hw := fun d (hd : d ∈ tables_1) => atoms_spec (ws := Jvm.Cond.code x code maxLocals ret :: tables_1) hat d (List.mem_cons_of_mem _ hd)
  have hfit : Fit s := fun {y c} hc i hi => by
    obtain ⟨ha, rfl⟩ := Array.getElem?_eq_some_iff.mp hc
    have q := List.all_eq_true.mp ((Array.all_eq_true_iff_forall_mem.mp hF) _ (Array.getElem_mem ha)) i (List.mem_range.mpr hi)
    simpa [Array.getElem?_eq_getElem hi] using q
  obtain ⟨hsets, hown0⟩ := atoms_of _ (rest_1_c_eq ▸ (show rest_1_c.before _ s = true from hrest))
  have hr0 := Cond.before_iff.mp hown0
  obtain ⟨i0, ei0⟩ := isL_v ga0
  obtain rfl : w0 = (.long i0) := Option.some.inj ei0
  obtain ⟨i1, ei1⟩ := isL_v ga1
  obtain rfl : w1 = (.long i1) := Option.some.inj ei1
  obtain ⟨i2, ei2⟩ := isL_v ga2
  obtain rfl : w2 = (.long i2) := Option.some.inj ei2
  obtain ⟨i3, ei3⟩ := isL_v ga3
  obtain rfl : w3 = (.long i3) := Option.some.inj ei3
  obtain ⟨i4, ei4⟩ := is_v gr4
  obtain rfl : w4 = (.int i4) := Option.some.inj ei4
  obtain ⟨zr, e_zr⟩ := exa_v (Cond.before_iff.mp (hsets _ (List.mem_of_getElem? (i := 2) rfl)))
  have E_zr := Exa.start e_zr (Cond.before_iff.mp (hsets _ (List.mem_of_getElem? (i := 2) rfl)))
  have S_zr : Sta s s.heap "java/math/BigInteger" "ZERO" "Ljava/math/BigInteger;" (.ref zr) := Sta.start e_zr (Or.inl (hsets _ (List.mem_of_getElem? (i := 1) rfl)))
  have F_zs := Fld.start ((fld_at e_zr).symm.trans (own_eqI (Cond.before_iff.mp (hsets _ (List.mem_of_getElem? (i := 3) rfl)))))
  obtain ⟨mz, e_mz⟩ := arr_v (Cond.before_iff.mp (hsets _ (List.mem_of_getElem? (i := 4) rfl)))
  obtain ⟨c_mz, A_mz⟩ := Arr.start e_mz (Cond.before_iff.mp (hsets _ (List.mem_of_getElem? (i := 4) rfl)))
  have F_zm := Fld.start ((fld_at e_zr).symm.trans e_mz)
  have z_mz := own_size e_mz A_mz (Cond.before_iff.mp (hsets _ (List.mem_of_getElem? (i := 6) rfl)))
  obtain ⟨pa, e_pa⟩ := arr_v (Cond.before_iff.mp (hsets _ (List.mem_of_getElem? (i := 15) rfl)))
  obtain ⟨c_pa, A_pa⟩ := Arr.start e_pa (Cond.before_iff.mp (hsets _ (List.mem_of_getElem? (i := 15) rfl)))
  have S_pa : Sta s s.heap "java/math/BigInteger" "posConst" "[Ljava/math/BigInteger;" (.ref pa) := Sta.start e_pa (Or.inl (hsets _ (List.mem_of_getElem? (i := 8) rfl)))
  have z_pa := own_size e_pa A_pa (Cond.before_iff.mp (hsets _ (List.mem_of_getElem? (i := 17) rfl)))
  obtain ⟨za, e_za⟩ := arr_v (Cond.before_iff.mp (hsets _ (List.mem_of_getElem? (i := 135) rfl)))
  obtain ⟨c_za, A_za⟩ := Arr.start e_za (Cond.before_iff.mp (hsets _ (List.mem_of_getElem? (i := 135) rfl)))
  have S_za : Sta s s.heap "java/math/BigDecimal" "ZERO_THROUGH_TEN" "[Ljava/math/BigDecimal;" (.ref za) := Sta.start e_za (Or.inl (hsets _ (List.mem_of_getElem? (i := 118) rfl)))
  have z_za := own_size e_za A_za (Cond.before_iff.mp (hsets _ (List.mem_of_getElem? (i := 137) rfl)))
  obtain ⟨rmo, e_rmo⟩ := exa_v (Cond.before_iff.mp (hsets _ (List.mem_of_getElem? (i := 236) rfl)))
  have E_rmo := Exa.start e_rmo (Cond.before_iff.mp (hsets _ (List.mem_of_getElem? (i := 236) rfl)))
  have S_rmo : Sta s s.heap "java/math/RoundingMode" "HALF_EVEN" "Ljava/math/RoundingMode;" (.ref rmo) := Sta.start e_rmo (Or.inl (hsets _ (List.mem_of_getElem? (i := 235) rfl)))
  have F_rm := Fld.start ((fld_at e_rmo).symm.trans (own_eqI (Cond.before_iff.mp (hsets _ (List.mem_of_getElem? (i := 239) rfl)))))
  obtain ⟨lt, e_lt⟩ := arr_v (Cond.before_iff.mp (hsets _ (List.mem_of_getElem? (i := 242) rfl)))
  obtain ⟨c_lt, A_lt⟩ := Arr.start e_lt (Cond.before_iff.mp (hsets _ (List.mem_of_getElem? (i := 242) rfl)))
  have S_lt : Sta s s.heap "java/math/BigDecimal" "LONG_TEN_POWERS_TABLE" "[J" (.ref lt) := Sta.start e_lt (Or.inl (hsets _ (List.mem_of_getElem? (i := 241) rfl)))
  have z_lt := own_size e_lt A_lt (Cond.before_iff.mp (hsets _ (List.mem_of_getElem? (i := 244) rfl)))
  have P_pa : ∀ k : Nat, 1 ≤ k → k ≤ 16 → ∃ r sg, c_pa.slots[k]? = some (.ref r) ∧ Exa s s.heap r "java/math/BigInteger" ∧ Fld s s.heap r "java/math/BigInteger" "signum" "I" (.int sg) := by
    intro k h1 h2
    match k, h1, h2 with
      | 1, _, _ =>
      obtain ⟨r, er⟩ := exa_v (Cond.before_iff.mp (hsets _ (List.mem_of_getElem? (i := 19) rfl)))
      exact ⟨r, 1, (elem_in er e_pa (Term.int_eval _) A_pa.1).2, Exa.start er (Cond.before_iff.mp (hsets _ (List.mem_of_getElem? (i := 19) rfl))), Fld.start ((fld_at er).symm.trans (own_eqI (Cond.before_iff.mp (hsets _ (List.mem_of_getElem? (i := 20) rfl)))))⟩
      | 2, _, _ =>
      obtain ⟨r, er⟩ := exa_v (Cond.before_iff.mp (hsets _ (List.mem_of_getElem? (i := 26) rfl)))
      exact ⟨r, 1, (elem_in er e_pa (Term.int_eval _) A_pa.1).2, Exa.start er (Cond.before_iff.mp (hsets _ (List.mem_of_getElem? (i := 26) rfl))), Fld.start ((fld_at er).symm.trans (own_eqI (Cond.before_iff.mp (hsets _ (List.mem_of_getElem? (i := 27) rfl)))))⟩
      | 3, _, _ =>
      obtain ⟨r, er⟩ := exa_v (Cond.before_iff.mp (hsets _ (List.mem_of_getElem? (i := 32) rfl)))
      exact ⟨r, 1, (elem_in er e_pa (Term.int_eval _) A_pa.1).2, Exa.start er (Cond.before_iff.mp (hsets _ (List.mem_of_getElem? (i := 32) rfl))), Fld.start ((fld_at er).symm.trans (own_eqI (Cond.before_iff.mp (hsets _ (List.mem_of_getElem? (i := 33) rfl)))))⟩
      | 4, _, _ =>
      obtain ⟨r, er⟩ := exa_v (Cond.before_iff.mp (hsets _ (List.mem_of_getElem? (i := 38) rfl)))
      exact ⟨r, 1, (elem_in er e_pa (Term.int_eval _) A_pa.1).2, Exa.start er (Cond.before_iff.mp (hsets _ (List.mem_of_getElem? (i := 38) rfl))), Fld.start ((fld_at er).symm.trans (own_eqI (Cond.before_iff.mp (hsets _ (List.mem_of_getElem? (i := 39) rfl)))))⟩
      | 5, _, _ =>
      obtain ⟨r, er⟩ := exa_v (Cond.before_iff.mp (hsets _ (List.mem_of_getElem? (i := 44) rfl)))
      exact ⟨r, 1, (elem_in er e_pa (Term.int_eval _) A_pa.1).2, Exa.start er (Cond.before_iff.mp (hsets _ (List.mem_of_getElem? (i := 44) rfl))), Fld.start ((fld_at er).symm.trans (own_eqI (Cond.before_iff.mp (hsets _ (List.mem_of_getElem? (i := 45) rfl)))))⟩
      | 6, _, _ =>
      obtain ⟨r, er⟩ := exa_v (Cond.before_iff.mp (hsets _ (List.mem_of_getElem? (i := 50) rfl)))
      exact ⟨r, 1, (elem_in er e_pa (Term.int_eval _) A_pa.1).2, Exa.start er (Cond.before_iff.mp (hsets _ (List.mem_of_getElem? (i := 50) rfl))), Fld.start ((fld_at er).symm.trans (own_eqI (Cond.before_iff.mp (hsets _ (List.mem_of_getElem? (i := 51) rfl)))))⟩
      | 7, _, _ =>
      obtain ⟨r, er⟩ := exa_v (Cond.before_iff.mp (hsets _ (List.mem_of_getElem? (i := 56) rfl)))
      exact ⟨r, 1, (elem_in er e_pa (Term.int_eval _) A_pa.1).2, Exa.start er (Cond.before_iff.mp (hsets _ (List.mem_of_getElem? (i := 56) rfl))), Fld.start ((fld_at er).symm.trans (own_eqI (Cond.before_iff.mp (hsets _ (List.mem_of_getElem? (i := 57) rfl)))))⟩
      | 8, _, _ =>
      obtain ⟨r, er⟩ := exa_v (Cond.before_iff.mp (hsets _ (List.mem_of_getElem? (i := 62) rfl)))
      exact ⟨r, 1, (elem_in er e_pa (Term.int_eval _) A_pa.1).2, Exa.start er (Cond.before_iff.mp (hsets _ (List.mem_of_getElem? (i := 62) rfl))), Fld.start ((fld_at er).symm.trans (own_eqI (Cond.before_iff.mp (hsets _ (List.mem_of_getElem? (i := 63) rfl)))))⟩
      | 9, _, _ =>
      obtain ⟨r, er⟩ := exa_v (Cond.before_iff.mp (hsets _ (List.mem_of_getElem? (i := 68) rfl)))
      exact ⟨r, 1, (elem_in er e_pa (Term.int_eval _) A_pa.1).2, Exa.start er (Cond.before_iff.mp (hsets _ (List.mem_of_getElem? (i := 68) rfl))), Fld.start ((fld_at er).symm.trans (own_eqI (Cond.before_iff.mp (hsets _ (List.mem_of_getElem? (i := 69) rfl)))))⟩
      | 10, _, _ =>
      obtain ⟨r, er⟩ := exa_v (Cond.before_iff.mp (hsets _ (List.mem_of_getElem? (i := 75) rfl)))
      exact ⟨r, 1, (elem_in er e_pa (Term.int_eval _) A_pa.1).2, Exa.start er (Cond.before_iff.mp (hsets _ (List.mem_of_getElem? (i := 75) rfl))), Fld.start ((fld_at er).symm.trans (own_eqI (Cond.before_iff.mp (hsets _ (List.mem_of_getElem? (i := 76) rfl)))))⟩
      | 11, _, _ =>
      obtain ⟨r, er⟩ := exa_v (Cond.before_iff.mp (hsets _ (List.mem_of_getElem? (i := 81) rfl)))
      exact ⟨r, 1, (elem_in er e_pa (Term.int_eval _) A_pa.1).2, Exa.start er (Cond.before_iff.mp (hsets _ (List.mem_of_getElem? (i := 81) rfl))), Fld.start ((fld_at er).symm.trans (own_eqI (Cond.before_iff.mp (hsets _ (List.mem_of_getElem? (i := 82) rfl)))))⟩
      | 12, _, _ =>
      obtain ⟨r, er⟩ := exa_v (Cond.before_iff.mp (hsets _ (List.mem_of_getElem? (i := 87) rfl)))
      exact ⟨r, 1, (elem_in er e_pa (Term.int_eval _) A_pa.1).2, Exa.start er (Cond.before_iff.mp (hsets _ (List.mem_of_getElem? (i := 87) rfl))), Fld.start ((fld_at er).symm.trans (own_eqI (Cond.before_iff.mp (hsets _ (List.mem_of_getElem? (i := 88) rfl)))))⟩
      | 13, _, _ =>
      obtain ⟨r, er⟩ := exa_v (Cond.before_iff.mp (hsets _ (List.mem_of_getElem? (i := 93) rfl)))
      exact ⟨r, 1, (elem_in er e_pa (Term.int_eval _) A_pa.1).2, Exa.start er (Cond.before_iff.mp (hsets _ (List.mem_of_getElem? (i := 93) rfl))), Fld.start ((fld_at er).symm.trans (own_eqI (Cond.before_iff.mp (hsets _ (List.mem_of_getElem? (i := 94) rfl)))))⟩
      | 14, _, _ =>
      obtain ⟨r, er⟩ := exa_v (Cond.before_iff.mp (hsets _ (List.mem_of_getElem? (i := 99) rfl)))
      exact ⟨r, 1, (elem_in er e_pa (Term.int_eval _) A_pa.1).2, Exa.start er (Cond.before_iff.mp (hsets _ (List.mem_of_getElem? (i := 99) rfl))), Fld.start ((fld_at er).symm.trans (own_eqI (Cond.before_iff.mp (hsets _ (List.mem_of_getElem? (i := 100) rfl)))))⟩
      | 15, _, _ =>
      obtain ⟨r, er⟩ := exa_v (Cond.before_iff.mp (hsets _ (List.mem_of_getElem? (i := 105) rfl)))
      exact ⟨r, 1, (elem_in er e_pa (Term.int_eval _) A_pa.1).2, Exa.start er (Cond.before_iff.mp (hsets _ (List.mem_of_getElem? (i := 105) rfl))), Fld.start ((fld_at er).symm.trans (own_eqI (Cond.before_iff.mp (hsets _ (List.mem_of_getElem? (i := 106) rfl)))))⟩
      | 16, _, _ =>
      obtain ⟨r, er⟩ := exa_v (Cond.before_iff.mp (hsets _ (List.mem_of_getElem? (i := 111) rfl)))
      exact ⟨r, 1, (elem_in er e_pa (Term.int_eval _) A_pa.1).2, Exa.start er (Cond.before_iff.mp (hsets _ (List.mem_of_getElem? (i := 111) rfl))), Fld.start ((fld_at er).symm.trans (own_eqI (Cond.before_iff.mp (hsets _ (List.mem_of_getElem? (i := 112) rfl)))))⟩
      | k + 17, _, h => exact absurd h (by omega)
  have P_za : ∀ k : Nat, k ≤ 10 → ∃ (r : Addr) (x : Int64), c_za.slots[k]? = some (.ref r) ∧ x.toInt = k ∧ Exa s s.heap r "java/math/BigDecimal" ∧ Fld s s.heap r "java/math/BigDecimal" "intCompact" "J" (.long x) ∧ Fld s s.heap r "java/math/BigDecimal" "scale" "I" (.int 0) := by
    intro k h2
    match k, h2 with
      | 0, _ =>
      obtain ⟨r, er⟩ := exa_v (Cond.before_iff.mp (hsets _ (List.mem_of_getElem? (i := 139) rfl)))
      exact ⟨r, 0, (elem_in er e_za (Term.int_eval _) A_za.1).2, rfl, Exa.start er (Cond.before_iff.mp (hsets _ (List.mem_of_getElem? (i := 139) rfl))), Fld.start ((fld_at er).symm.trans (own_eqL (Cond.before_iff.mp (hsets _ (List.mem_of_getElem? (i := 141) rfl))))), Fld.start ((fld_at er).symm.trans (own_eqI (Cond.before_iff.mp (hsets _ (List.mem_of_getElem? (i := 140) rfl)))))⟩
      | 1, _ =>
      obtain ⟨r, er⟩ := exa_v (Cond.before_iff.mp (hsets _ (List.mem_of_getElem? (i := 149) rfl)))
      exact ⟨r, 1, (elem_in er e_za (Term.int_eval _) A_za.1).2, rfl, Exa.start er (Cond.before_iff.mp (hsets _ (List.mem_of_getElem? (i := 149) rfl))), Fld.start ((fld_at er).symm.trans (own_eqL (Cond.before_iff.mp (hsets _ (List.mem_of_getElem? (i := 151) rfl))))), Fld.start ((fld_at er).symm.trans (own_eqI (Cond.before_iff.mp (hsets _ (List.mem_of_getElem? (i := 150) rfl)))))⟩
      | 2, _ =>
      obtain ⟨r, er⟩ := exa_v (Cond.before_iff.mp (hsets _ (List.mem_of_getElem? (i := 159) rfl)))
      exact ⟨r, 2, (elem_in er e_za (Term.int_eval _) A_za.1).2, rfl, Exa.start er (Cond.before_iff.mp (hsets _ (List.mem_of_getElem? (i := 159) rfl))), Fld.start ((fld_at er).symm.trans (own_eqL (Cond.before_iff.mp (hsets _ (List.mem_of_getElem? (i := 161) rfl))))), Fld.start ((fld_at er).symm.trans (own_eqI (Cond.before_iff.mp (hsets _ (List.mem_of_getElem? (i := 160) rfl)))))⟩
      | 3, _ =>
      obtain ⟨r, er⟩ := exa_v (Cond.before_iff.mp (hsets _ (List.mem_of_getElem? (i := 168) rfl)))
      exact ⟨r, 3, (elem_in er e_za (Term.int_eval _) A_za.1).2, rfl, Exa.start er (Cond.before_iff.mp (hsets _ (List.mem_of_getElem? (i := 168) rfl))), Fld.start ((fld_at er).symm.trans (own_eqL (Cond.before_iff.mp (hsets _ (List.mem_of_getElem? (i := 170) rfl))))), Fld.start ((fld_at er).symm.trans (own_eqI (Cond.before_iff.mp (hsets _ (List.mem_of_getElem? (i := 169) rfl)))))⟩
      | 4, _ =>
      obtain ⟨r, er⟩ := exa_v (Cond.before_iff.mp (hsets _ (List.mem_of_getElem? (i := 176) rfl)))
      exact ⟨r, 4, (elem_in er e_za (Term.int_eval _) A_za.1).2, rfl, Exa.start er (Cond.before_iff.mp (hsets _ (List.mem_of_getElem? (i := 176) rfl))), Fld.start ((fld_at er).symm.trans (own_eqL (Cond.before_iff.mp (hsets _ (List.mem_of_getElem? (i := 178) rfl))))), Fld.start ((fld_at er).symm.trans (own_eqI (Cond.before_iff.mp (hsets _ (List.mem_of_getElem? (i := 177) rfl)))))⟩
      | 5, _ =>
      obtain ⟨r, er⟩ := exa_v (Cond.before_iff.mp (hsets _ (List.mem_of_getElem? (i := 184) rfl)))
      exact ⟨r, 5, (elem_in er e_za (Term.int_eval _) A_za.1).2, rfl, Exa.start er (Cond.before_iff.mp (hsets _ (List.mem_of_getElem? (i := 184) rfl))), Fld.start ((fld_at er).symm.trans (own_eqL (Cond.before_iff.mp (hsets _ (List.mem_of_getElem? (i := 186) rfl))))), Fld.start ((fld_at er).symm.trans (own_eqI (Cond.before_iff.mp (hsets _ (List.mem_of_getElem? (i := 185) rfl)))))⟩
      | 6, _ =>
      obtain ⟨r, er⟩ := exa_v (Cond.before_iff.mp (hsets _ (List.mem_of_getElem? (i := 192) rfl)))
      exact ⟨r, 6, (elem_in er e_za (Term.int_eval _) A_za.1).2, rfl, Exa.start er (Cond.before_iff.mp (hsets _ (List.mem_of_getElem? (i := 192) rfl))), Fld.start ((fld_at er).symm.trans (own_eqL (Cond.before_iff.mp (hsets _ (List.mem_of_getElem? (i := 194) rfl))))), Fld.start ((fld_at er).symm.trans (own_eqI (Cond.before_iff.mp (hsets _ (List.mem_of_getElem? (i := 193) rfl)))))⟩
      | 7, _ =>
      obtain ⟨r, er⟩ := exa_v (Cond.before_iff.mp (hsets _ (List.mem_of_getElem? (i := 200) rfl)))
      exact ⟨r, 7, (elem_in er e_za (Term.int_eval _) A_za.1).2, rfl, Exa.start er (Cond.before_iff.mp (hsets _ (List.mem_of_getElem? (i := 200) rfl))), Fld.start ((fld_at er).symm.trans (own_eqL (Cond.before_iff.mp (hsets _ (List.mem_of_getElem? (i := 202) rfl))))), Fld.start ((fld_at er).symm.trans (own_eqI (Cond.before_iff.mp (hsets _ (List.mem_of_getElem? (i := 201) rfl)))))⟩
      | 8, _ =>
      obtain ⟨r, er⟩ := exa_v (Cond.before_iff.mp (hsets _ (List.mem_of_getElem? (i := 208) rfl)))
      exact ⟨r, 8, (elem_in er e_za (Term.int_eval _) A_za.1).2, rfl, Exa.start er (Cond.before_iff.mp (hsets _ (List.mem_of_getElem? (i := 208) rfl))), Fld.start ((fld_at er).symm.trans (own_eqL (Cond.before_iff.mp (hsets _ (List.mem_of_getElem? (i := 210) rfl))))), Fld.start ((fld_at er).symm.trans (own_eqI (Cond.before_iff.mp (hsets _ (List.mem_of_getElem? (i := 209) rfl)))))⟩
      | 9, _ =>
      obtain ⟨r, er⟩ := exa_v (Cond.before_iff.mp (hsets _ (List.mem_of_getElem? (i := 216) rfl)))
      exact ⟨r, 9, (elem_in er e_za (Term.int_eval _) A_za.1).2, rfl, Exa.start er (Cond.before_iff.mp (hsets _ (List.mem_of_getElem? (i := 216) rfl))), Fld.start ((fld_at er).symm.trans (own_eqL (Cond.before_iff.mp (hsets _ (List.mem_of_getElem? (i := 218) rfl))))), Fld.start ((fld_at er).symm.trans (own_eqI (Cond.before_iff.mp (hsets _ (List.mem_of_getElem? (i := 217) rfl)))))⟩
      | 10, _ =>
      obtain ⟨r, er⟩ := exa_v (Cond.before_iff.mp (hsets _ (List.mem_of_getElem? (i := 225) rfl)))
      exact ⟨r, 10, (elem_in er e_za (Term.int_eval _) A_za.1).2, rfl, Exa.start er (Cond.before_iff.mp (hsets _ (List.mem_of_getElem? (i := 225) rfl))), Fld.start ((fld_at er).symm.trans (own_eqL (Cond.before_iff.mp (hsets _ (List.mem_of_getElem? (i := 227) rfl))))), Fld.start ((fld_at er).symm.trans (own_eqI (Cond.before_iff.mp (hsets _ (List.mem_of_getElem? (i := 226) rfl)))))⟩
      | k + 11, h => exact absurd h (by omega)
  obtain ⟨mir, e_mi⟩ := own_mir (a0 := #[.long i0, .long i1, .long i2, .long i3, .int i4]) (show MirrorMade s "java/math/BigInteger" from hcalls.1)
  have WD : OwnWd s #[.long i0, .long i1, .long i2, .long i3, .int i4] s.heap zr mz pa za rmo lt mir c_mz c_pa c_za c_lt := ⟨S_zr, E_zr, F_zs, F_zm, A_mz, z_mz, S_pa, A_pa, z_pa, P_pa, S_za, A_za, z_za, P_za, S_rmo, F_rm, S_lt, A_lt, z_lt, e_mi⟩
  obtain ⟨n, o, h1, h2, h3, _, L, rfl, ⟨rfl, N⟩, hq⟩ := rm0 l s _ hw tables_1 i0 i1 i2 i3 i4 s.heap zr mz pa za rmo lt mir c_mz c_pa c_za c_lt s.heap s.heap.size (Nat.le_refl _) ⟨Nat.le_refl _, fun _ _ q => q⟩ WD (Nat.le_refl _) p e ha hc hk s m _ below hf ((Spec.applies_iff_loose hf).mp happ).1 ⟨rfl, State.Warmed39.refl s, rfl⟩ trivial
  refine ⟨n, _, h1, h2, h3, hpost _ _ _ _ _ _ ⟨Cond.after_iff.mpr rfl, Cond.after_iff.mpr (eq_i res_at (Term.int_eval (1)) rfl), trivial⟩ ⟨hq.1, hq.2.1, hq.2.2.1, (hq.2.2.2.sift fun y hy => Or.inr (N y hy)).mono (by decide) (by decide)⟩⟩
theorem main_1_1 : Claimed_1_1 := comes_1 fun _ _ _ _ _ _ h hF => ⟨h.1, hF⟩
theorem main_1_2 : Claimed_1_2 := comes_1 fun _ _ _ _ _ _ h hF => ⟨h.2.1, hF⟩

end Jvm.Pilot.@@N@@
namespace Jvm.Pilot.@@N@@
open Jvm Jvm.ClassFile Sem Op Lib Jvm.Free Jvm.Stand Jvm.Pilot.@@N@@.Jvm.D
/-! MADE BY PROGRAM (witnessworld.py) out of the Statement's table words and the real class files: 29 classes; the members and pool entries that the words name. The judged class is class 1, her method 1. -/
namespace start1
open Jvm.ClassFile
def u (s : String) : CpInfo := .utf8 (stringToUtf16 s)
/-- a pool by its gaps: so many unusable entries, then the entry; so many at the end -/
def gap : Nat → List CpInfo → List CpInfo
  | 0, r => r
  | n + 1, r => .unusable :: gap n r
def poolList (es : List (Nat × CpInfo)) (last : Nat) : List CpInfo := es.foldr (fun e r => gap e.1 (e.2 :: r)) (gap last [])
def pool (es : List (Nat × CpInfo)) (last : Nat) : Array CpInfo := ⟨poolList es last⟩
def fileOf (pool : Array CpInfo) (this : Nat) (attrs : Array Attribute := #[]) (ms : Array MethodInfo := #[]) (fl : Nat := 33) (sup : Nat := 0) (ifs : Array Nat := #[]) (fds : Array FieldInfo := #[]) : ClassFile where
  minorVersion := 0
  majorVersion := 65
  constantPool := pool
  accessFlags := fl
  thisClass := this
  superClass := sup
  interfaces := ifs
  fields := fds
  methods := ms
  attributes := attrs
def plain (name : String) (sup : Option ClassId) : Class where
  name := name
  kind := .ordinary
  loader := none
  accessFlags := 33
  super := sup
  interfaces := #[]
  cf := none
  fields := #[]
  methods := #[]
  instanceTypes := #[]
  staticTypes := #[]
  resolved := #[]
  callSites := []
  init := .initialized
  statics := none
  mirror := none

def pool0 : Array CpInfo := pool [(5, u "<init>"), (0, u "()V"), (1, .class_ 10), (1, u "java/lang/Object"), (0, u "getClass"), (0, u "()Ljava/lang/Class;")] 111

def k0c0 : Code := { maxStack := 0, maxLocals := 1, code := object_method_1_code, exceptionTable := #[], attributes := #[] }
def k0m0 : Method := { name := "<init>", desc := "()V", sig := { parameters := [], returnType := none }, accessFlags := 1, code := some k0c0 }
def k0m1 : Method := { name := "getClass", desc := "()Ljava/lang/Class;", sig := { parameters := [], returnType := some (.object "java/lang/Class") }, accessFlags := 273, code := none }
/-- java/lang/Object -/
def k0 : Class := { plain "java/lang/Object" none with
  accessFlags := 33
  interfaces := #[]
  cf := some (fileOf pool0 8 #[] #[{ accessFlags := 1, nameIndex := 5, descriptorIndex := 6, attributes := #[] }, { accessFlags := 273, nameIndex := 11, descriptorIndex := 12, attributes := #[] }] 33 0 #[] #[])
  fields := #[]
  methods := #[k0m0, k0m1]
  instanceTypes := #[]
  staticTypes := #[]
  resolved := Array.replicate 124 none
  statics := none }

def pool1 : Array CpInfo := pool [(2, .class_ 4), (1, u "java/lang/Object"), (0, u "<init>"), (0, u "()V"), (2, .long 9223372036854775807), (1, .methodref 12 13), (0, .class_ 14), (0, .nameAndType 15 16), (0, u "java/lang/Math"), (0, u "max"), (0, u "(JJ)J"), (0, .class_ 18), (0, u "com/example/fairgate/fairgate/processor/Order"), (0, .string 20), (0, u ""), (0, .methodref 17 22), (0, .nameAndType 5 23), (0, u "(Lcom/example/fairgate/fairgate/processor/OrderKey;Lcom/example/fairgate/fairgate/core/EntryPoint;Ljava/lang/String;Lcom/example/fairgate/fairgate/processor/Side;JJZ)V"), (0, .class_ 25), (0, u "com/example/fairgate/fairgate/processor/Trade"), (0, .methodref 24 27), (0, .nameAndType 5 28), (0, u "(JJLcom/example/fairgate/fairgate/processor/OrderKey;Lcom/example/fairgate/fairgate/processor/OrderKey;JJ)V"), (0, .methodref 17 30), (0, .nameAndType 31 32), (0, u "available"), (0, u "()J"), (0, .methodref 17 34), (0, .nameAndType 35 36), (0, u "reserve"), (0, u "(J)V"), (0, .methodref 17 38), (0, .nameAndType 39 40), (0, u "fill"), (0, u "(Lcom/example/fairgate/fairgate/processor/Trade;)Lcom/example/fairgate/fairgate/processor/Fill;"), (0, .methodref 17 42), (0, .nameAndType 43 36), (0, u "free"), (0, .methodref 17 45), (0, .nameAndType 46 6), (0, u "cancel"), (0, .class_ 48), (0, u "com/example/fairgate/fairgate/processor/OrderAvailablePinLaw"), (2, u "law"), (0, u "(JJJJI)Z")] 3

def k1m0 : Method := { name := "<init>", desc := "()V", sig := { parameters := [], returnType := none }, accessFlags := 1, code := none }
def k1c1 : Code := { maxStack := 12, maxLocals := 37, code := code, exceptionTable := #[], attributes := #[] }
def k1m1 : Method := { name := "law", desc := "(JJJJI)Z", sig := { parameters := [.long, .long, .long, .long, .int], returnType := some .boolean }, accessFlags := 9, code := some k1c1 }
/-- com/example/fairgate/fairgate/processor/OrderAvailablePinLaw -/
def k1 : Class := { plain "com/example/fairgate/fairgate/processor/OrderAvailablePinLaw" (some 0) with
  accessFlags := 49
  interfaces := #[]
  cf := some (fileOf pool1 47 #[] #[{ accessFlags := 1, nameIndex := 5, descriptorIndex := 6, attributes := #[] }, { accessFlags := 9, nameIndex := 51, descriptorIndex := 52, attributes := #[] }] 49 2 #[] #[])
  fields := #[]
  methods := #[k1m0, k1m1]
  instanceTypes := #[]
  staticTypes := #[]
  resolved := Array.replicate 56 none
  statics := none }

def pool2 : Array CpInfo := pool [(1, .class_ 2), (0, u "java/lang/Math"), (1, .class_ 6), (1, u "java/lang/Object"), (0, u "<init>"), (0, u "()V"), (89, .class_ 100), (1, u "java/lang/Math$RandomNumberGeneratorHolder"), (20, u "(JJ)J"), (50, u "negativeZeroFloatBits"), (0, u "J"), (2, u "negativeZeroDoubleBits"), (21, u "max"), (46, u "$assertionsDisabled"), (0, u "Z"), (91, u "twoToTheDoubleScaleDown"), (0, u "D"), (4, u "twoToTheDoubleScaleUp"), (9, u "E"), (3, u "PI"), (2, u "TAU"), (2, u "DEGREES_TO_RADIANS"), (0, u "RADIANS_TO_DEGREES")] 94

def k2m0 : Method := { name := "<init>", desc := "()V", sig := { parameters := [], returnType := none }, accessFlags := 2, code := none }
def k2c1 : Code := { maxStack := 4, maxLocals := 4, code := jdk_29_method_66_code, exceptionTable := #[], attributes := #[] }
def k2m1 : Method := { name := "max", desc := "(JJ)J", sig := { parameters := [.long, .long], returnType := some .long }, accessFlags := 9, code := some k2c1 }
/-- java/lang/Math -/
def k2 : Class := { plain "java/lang/Math" (some 0) with
  accessFlags := 49
  interfaces := #[]
  cf := some (fileOf pool2 1 #[.nestMembers #[98]] #[{ accessFlags := 2, nameIndex := 7, descriptorIndex := 8, attributes := #[] }, { accessFlags := 9, nameIndex := 198, descriptorIndex := 121, attributes := #[] }] 49 4 #[] #[{ accessFlags := 25, nameIndex := 354, descriptorIndex := 339, attributes := #[] }, { accessFlags := 25, nameIndex := 358, descriptorIndex := 339, attributes := #[] }, { accessFlags := 25, nameIndex := 361, descriptorIndex := 339, attributes := #[] }, { accessFlags := 26, nameIndex := 364, descriptorIndex := 339, attributes := #[] }, { accessFlags := 26, nameIndex := 365, descriptorIndex := 339, attributes := #[] }, { accessFlags := 26, nameIndex := 172, descriptorIndex := 173, attributes := #[] }, { accessFlags := 26, nameIndex := 176, descriptorIndex := 173, attributes := #[] }, { accessFlags := 8, nameIndex := 344, descriptorIndex := 339, attributes := #[] }, { accessFlags := 8, nameIndex := 338, descriptorIndex := 339, attributes := #[] }, { accessFlags := 4120, nameIndex := 245, descriptorIndex := 246, attributes := #[] }])
  fields := #[{ name := "E", type := .double, accessFlags := 25, slot := 0, constantValue := 0 }, { name := "PI", type := .double, accessFlags := 25, slot := 1, constantValue := 0 }, { name := "TAU", type := .double, accessFlags := 25, slot := 2, constantValue := 0 }, { name := "DEGREES_TO_RADIANS", type := .double, accessFlags := 26, slot := 3, constantValue := 0 }, { name := "RADIANS_TO_DEGREES", type := .double, accessFlags := 26, slot := 4, constantValue := 0 }, { name := "negativeZeroFloatBits", type := .long, accessFlags := 26, slot := 5, constantValue := 0 }, { name := "negativeZeroDoubleBits", type := .long, accessFlags := 26, slot := 6, constantValue := 0 }, { name := "twoToTheDoubleScaleUp", type := .double, accessFlags := 8, slot := 7, constantValue := 0 }, { name := "twoToTheDoubleScaleDown", type := .double, accessFlags := 8, slot := 8, constantValue := 0 }, { name := "$assertionsDisabled", type := .boolean, accessFlags := 4120, slot := 9, constantValue := 0 }]
  methods := #[k2m0, k2m1]
  instanceTypes := #[]
  staticTypes := #[.double, .double, .double, .double, .double, .long, .long, .double, .double, .boolean]
  resolved := Array.replicate 460 none
  statics := none }

def pool3 : Array CpInfo := pool [(12, .class_ 14), (1, u "com/example/fairgate/fairgate/processor/Instruction"), (61, .class_ 77), (0, u "com/example/fairgate/fairgate/processor/Instruction$Cancel"), (62, .class_ 141), (0, u "java/lang/Object")] 37

/-- com/example/fairgate/fairgate/processor/Instruction -/
def k3 : Class := { plain "com/example/fairgate/fairgate/processor/Instruction" (some 0) with
  accessFlags := 1536
  interfaces := #[]
  cf := some (fileOf pool3 12 #[.nestMembers #[76]] #[] 1536 140 #[] #[])
  fields := #[]
  methods := #[]
  instanceTypes := #[]
  staticTypes := #[]
  resolved := Array.replicate 179 none
  statics := none }

def pool4 : Array CpInfo := pool [(1, .methodref 2 3), (0, .class_ 4), (0, .nameAndType 5 6), (0, u "java/lang/Object"), (0, u "<init>"), (0, u "()V"), (0, .fieldref 8 9), (0, .class_ 10), (0, .nameAndType 11 12), (0, u "java/math/BigInteger"), (0, u "ZERO"), (0, u "Ljava/math/BigInteger;"), (0, .fieldref 14 15), (0, .class_ 16), (0, .nameAndType 17 12), (0, u "com/example/fairgate/fairgate/processor/Order"), (0, u "traded"), (0, .fieldref 14 19), (0, .nameAndType 20 21), (0, u "key"), (0, u "Lcom/example/fairgate/fairgate/processor/OrderKey;"), (0, .fieldref 14 23), (0, .nameAndType 24 25), (0, u "edge"), (0, u "Lcom/example/fairgate/fairgate/core/EntryPoint;"), (0, .fieldref 14 27), (0, .nameAndType 28 29), (0, u "symbol"), (0, u "Ljava/lang/String;"), (0, .fieldref 14 31), (0, .nameAndType 32 33), (0, u "side"), (0, u "Lcom/example/fairgate/fairgate/processor/Side;"), (0, .fieldref 14 35), (0, .nameAndType 36 37), (0, u "qty"), (0, u "J"), (0, .fieldref 14 39), (0, .nameAndType 40 37), (0, u "price"), (0, .fieldref 14 42), (0, .nameAndType 43 44), (0, u "immediateOrCancel"), (0, u "Z"), (0, .fieldref 14 46), (0, .nameAndType 47 37), (0, u "remaining"), (0, .fieldref 14 49), (0, .nameAndType 50 44), (0, u "cancelled"), (0, .fieldref 14 52), (0, .nameAndType 53 37), (0, u "reserved"), (5, .methodref 60 61), (0, .class_ 62), (0, .nameAndType 36 63), (0, u "com/example/fairgate/fairgate/processor/Trade"), (0, u "()J"), (0, .methodref 60 65), (0, .nameAndType 40 63), (0, .methodref 8 67), (0, .nameAndType 68 69), (0, u "valueOf"), (0, u "(J)Ljava/math/BigInteger;"), (0, .methodref 8 71), (0, .nameAndType 72 73), (0, u "multiply"), (0, u "(Ljava/math/BigInteger;)Ljava/math/BigInteger;"), (0, .methodref 8 75), (0, .nameAndType 76 73), (0, u "add"), (0, .class_ 78), (0, u "com/example/fairgate/fairgate/processor/Fill"), (0, .methodref 14 80), (0, .nameAndType 81 63), (0, u "cumQty"), (0, .methodref 14 83), (0, .nameAndType 84 63), (0, u "avgPrice"), (0, .methodref 77 86), (0, .nameAndType 5 87), (0, u "(Lcom/example/fairgate/fairgate/processor/Trade;Lcom/example/fairgate/fairgate/processor/OrderKey;Lcom/example/fairgate/fairgate/core/EntryPoint;JJJ)V"), (2, u "place"), (5, .class_ 97), (0, u "java/math/BigDecimal"), (0, .methodref 96 99), (0, .nameAndType 5 100), (0, u "(Ljava/math/BigInteger;)V"), (0, .methodref 96 102), (0, .nameAndType 68 103), (0, u "(J)Ljava/math/BigDecimal;"), (0, .fieldref 105 106), (0, .class_ 107), (0, .nameAndType 108 109), (0, u "java/math/RoundingMode"), (0, u "HALF_EVEN"), (0, u "Ljava/math/RoundingMode;"), (0, .methodref 96 111), (0, .nameAndType 112 113), (0, u "divide"), (0, u "(Ljava/math/BigDecimal;ILjava/math/RoundingMode;)Ljava/math/BigDecimal;"), (0, .methodref 96 115), (0, .nameAndType 116 63), (0, u "longValueExact"), (0, .class_ 118), (0, u "com/example/fairgate/fairgate/processor/Instruction"), (0, u "(Lcom/example/fairgate/fairgate/processor/OrderKey;Lcom/example/fairgate/fairgate/core/EntryPoint;Ljava/lang/String;Lcom/example/fairgate/fairgate/processor/Side;JJZ)V"), (7, u "available"), (1, u "reserve"), (0, u "(J)V"), (0, u "free"), (5, u "fill"), (0, u "(Lcom/example/fairgate/fairgate/processor/Trade;)Lcom/example/fairgate/fairgate/processor/Fill;"), (0, u "cancel")] 9

def k4c0 : Code := { maxStack := 3, maxLocals := 10, code := prog_140_method_1_code, exceptionTable := #[], attributes := #[] }
def k4m0 : Method := { name := "<init>", desc := "(Lcom/example/fairgate/fairgate/processor/OrderKey;Lcom/example/fairgate/fairgate/core/EntryPoint;Ljava/lang/String;Lcom/example/fairgate/fairgate/processor/Side;JJZ)V", sig := { parameters := [(.object "com/example/fairgate/fairgate/processor/OrderKey"), (.object "com/example/fairgate/fairgate/core/EntryPoint"), (.object "java/lang/String"), (.object "com/example/fairgate/fairgate/processor/Side"), .long, .long, .boolean], returnType := none }, accessFlags := 0, code := some k4c0 }
def k4c1 : Code := { maxStack := 4, maxLocals := 1, code := prog_140_method_7_code, exceptionTable := #[], attributes := #[] }
def k4m1 : Method := { name := "available", desc := "()J", sig := { parameters := [], returnType := some .long }, accessFlags := 0, code := some k4c1 }
def k4c2 : Code := { maxStack := 5, maxLocals := 3, code := prog_140_method_8_code, exceptionTable := #[], attributes := #[] }
def k4m2 : Method := { name := "reserve", desc := "(J)V", sig := { parameters := [.long], returnType := none }, accessFlags := 0, code := some k4c2 }
def k4c3 : Code := { maxStack := 5, maxLocals := 3, code := prog_140_method_9_code, exceptionTable := #[], attributes := #[] }
def k4m3 : Method := { name := "free", desc := "(J)V", sig := { parameters := [.long], returnType := none }, accessFlags := 0, code := some k4c3 }
def k4c4 : Code := { maxStack := 11, maxLocals := 2, code := prog_140_method_14_code, exceptionTable := #[], attributes := #[] }
def k4m4 : Method := { name := "fill", desc := "(Lcom/example/fairgate/fairgate/processor/Trade;)Lcom/example/fairgate/fairgate/processor/Fill;", sig := { parameters := [(.object "com/example/fairgate/fairgate/processor/Trade")], returnType := some (.object "com/example/fairgate/fairgate/processor/Fill") }, accessFlags := 0, code := some k4c4 }
def k4c5 : Code := { maxStack := 2, maxLocals := 1, code := prog_140_method_15_code, exceptionTable := #[], attributes := #[] }
def k4m5 : Method := { name := "cancel", desc := "()V", sig := { parameters := [], returnType := none }, accessFlags := 0, code := some k4c5 }
def k4c6 : Code := { maxStack := 4, maxLocals := 1, code := prog_140_method_20_code, exceptionTable := #[], attributes := #[] }
def k4m6 : Method := { name := "cumQty", desc := "()J", sig := { parameters := [], returnType := some .long }, accessFlags := 2, code := some k4c6 }
def k4c7 : Code := { maxStack := 4, maxLocals := 3, code := prog_140_method_21_code, exceptionTable := #[], attributes := #[] }
def k4m7 : Method := { name := "avgPrice", desc := "()J", sig := { parameters := [], returnType := some .long }, accessFlags := 2, code := some k4c7 }
/-- com/example/fairgate/fairgate/processor/Order -/
def k4 : Class := { plain "com/example/fairgate/fairgate/processor/Order" (some 0) with
  accessFlags := 48
  interfaces := #[3]
  cf := some (fileOf pool4 14 #[] #[{ accessFlags := 0, nameIndex := 5, descriptorIndex := 119, attributes := #[] }, { accessFlags := 0, nameIndex := 127, descriptorIndex := 63, attributes := #[] }, { accessFlags := 0, nameIndex := 129, descriptorIndex := 130, attributes := #[] }, { accessFlags := 0, nameIndex := 131, descriptorIndex := 130, attributes := #[] }, { accessFlags := 0, nameIndex := 137, descriptorIndex := 138, attributes := #[] }, { accessFlags := 0, nameIndex := 139, descriptorIndex := 6, attributes := #[] }, { accessFlags := 2, nameIndex := 81, descriptorIndex := 63, attributes := #[] }, { accessFlags := 2, nameIndex := 84, descriptorIndex := 63, attributes := #[] }] 48 2 #[117] #[{ accessFlags := 18, nameIndex := 20, descriptorIndex := 21, attributes := #[] }, { accessFlags := 18, nameIndex := 24, descriptorIndex := 25, attributes := #[] }, { accessFlags := 18, nameIndex := 28, descriptorIndex := 29, attributes := #[] }, { accessFlags := 18, nameIndex := 32, descriptorIndex := 33, attributes := #[] }, { accessFlags := 18, nameIndex := 36, descriptorIndex := 37, attributes := #[] }, { accessFlags := 18, nameIndex := 40, descriptorIndex := 37, attributes := #[] }, { accessFlags := 18, nameIndex := 43, descriptorIndex := 44, attributes := #[] }, { accessFlags := 2, nameIndex := 47, descriptorIndex := 37, attributes := #[] }, { accessFlags := 2, nameIndex := 53, descriptorIndex := 37, attributes := #[] }, { accessFlags := 2, nameIndex := 17, descriptorIndex := 12, attributes := #[] }, { accessFlags := 2, nameIndex := 50, descriptorIndex := 44, attributes := #[] }, { accessFlags := 2, nameIndex := 90, descriptorIndex := 37, attributes := #[] }])
  fields := #[{ name := "key", type := (.object "com/example/fairgate/fairgate/processor/OrderKey"), accessFlags := 18, slot := 0, constantValue := 0 }, { name := "edge", type := (.object "com/example/fairgate/fairgate/core/EntryPoint"), accessFlags := 18, slot := 1, constantValue := 0 }, { name := "symbol", type := (.object "java/lang/String"), accessFlags := 18, slot := 2, constantValue := 0 }, { name := "side", type := (.object "com/example/fairgate/fairgate/processor/Side"), accessFlags := 18, slot := 3, constantValue := 0 }, { name := "qty", type := .long, accessFlags := 18, slot := 4, constantValue := 0 }, { name := "price", type := .long, accessFlags := 18, slot := 5, constantValue := 0 }, { name := "immediateOrCancel", type := .boolean, accessFlags := 18, slot := 6, constantValue := 0 }, { name := "remaining", type := .long, accessFlags := 2, slot := 7, constantValue := 0 }, { name := "reserved", type := .long, accessFlags := 2, slot := 8, constantValue := 0 }, { name := "traded", type := (.object "java/math/BigInteger"), accessFlags := 2, slot := 9, constantValue := 0 }, { name := "cancelled", type := .boolean, accessFlags := 2, slot := 10, constantValue := 0 }, { name := "place", type := .long, accessFlags := 2, slot := 11, constantValue := 0 }]
  methods := #[k4m0, k4m1, k4m2, k4m3, k4m4, k4m5, k4m6, k4m7]
  instanceTypes := #[(.object "com/example/fairgate/fairgate/processor/OrderKey"), (.object "com/example/fairgate/fairgate/core/EntryPoint"), (.object "java/lang/String"), (.object "com/example/fairgate/fairgate/processor/Side"), .long, .long, .boolean, .long, .long, (.object "java/math/BigInteger"), .boolean, .long]
  staticTypes := #[]
  resolved := Array.replicate 149 none
  statics := none }

def pool5 : Array CpInfo := pool [(1, .class_ 2), (0, u "java/io/Serializable"), (0, .class_ 4), (0, u "java/lang/Object")] 2

/-- java/io/Serializable -/
def k5 : Class := { plain "java/io/Serializable" (some 0) with
  accessFlags := 1537
  interfaces := #[]
  cf := some (fileOf pool5 1 #[] #[] 1537 3 #[] #[])
  fields := #[]
  methods := #[]
  instanceTypes := #[]
  staticTypes := #[]
  resolved := Array.replicate 7 none
  statics := none }

def pool6 : Array CpInfo := pool [(1, .class_ 2), (0, u "java/lang/Comparable"), (0, .class_ 4), (0, u "java/lang/Object")] 7

/-- java/lang/Comparable -/
def k6 : Class := { plain "java/lang/Comparable" (some 0) with
  accessFlags := 1537
  interfaces := #[]
  cf := some (fileOf pool6 1 #[] #[] 1537 3 #[] #[])
  fields := #[]
  methods := #[]
  instanceTypes := #[]
  staticTypes := #[]
  resolved := Array.replicate 12 none
  statics := none }

def pool7 : Array CpInfo := pool [(2, .class_ 4), (1, u "java/lang/CharSequence"), (42, .class_ 48), (0, u "java/lang/CharSequence$1CodePointIterator"), (10, .class_ 60), (0, u "java/lang/CharSequence$1CharIterator"), (5, .class_ 67), (0, u "java/lang/Object")] 63

/-- java/lang/CharSequence -/
def k7 : Class := { plain "java/lang/CharSequence" (some 0) with
  accessFlags := 1537
  interfaces := #[]
  cf := some (fileOf pool7 2 #[.nestMembers #[47, 59]] #[] 1537 66 #[] #[])
  fields := #[]
  methods := #[]
  instanceTypes := #[]
  staticTypes := #[]
  resolved := Array.replicate 131 none
  statics := none }

def pool8 : Array CpInfo := pool [(1, .class_ 2), (0, u "java/lang/constant/Constable"), (0, .class_ 4), (0, u "java/lang/Object")] 6

/-- java/lang/constant/Constable -/
def k8 : Class := { plain "java/lang/constant/Constable" (some 0) with
  accessFlags := 1537
  interfaces := #[]
  cf := some (fileOf pool8 1 #[] #[] 1537 3 #[] #[])
  fields := #[]
  methods := #[]
  instanceTypes := #[]
  staticTypes := #[]
  resolved := Array.replicate 11 none
  statics := none }

def pool9 : Array CpInfo := pool [(1, .class_ 2), (0, u "java/lang/constant/ConstantDesc"), (0, .class_ 4), (0, u "java/lang/Object")] 32

/-- java/lang/constant/ConstantDesc -/
def k9 : Class := { plain "java/lang/constant/ConstantDesc" (some 0) with
  accessFlags := 1537
  interfaces := #[]
  cf := some (fileOf pool9 1 #[] #[] 1537 3 #[] #[])
  fields := #[]
  methods := #[]
  instanceTypes := #[]
  staticTypes := #[]
  resolved := Array.replicate 37 none
  statics := none }

def pool10 : Array CpInfo := pool [(2, .class_ 4), (1, u "java/lang/Object"), (0, u "<init>"), (0, u "()V"), (3, .class_ 12), (1, u "java/lang/String"), (0, u "value"), (0, u "[B"), (2, u "coder"), (0, u "B"), (2, u "hash"), (0, u "I"), (2, u "hashIsZero"), (0, u "Z"), (13, u "COMPACT_STRINGS"), (534, .class_ 576), (0, u "java/lang/CharSequence"), (22, u "CASE_INSENSITIVE_ORDER"), (0, u "Ljava/util/Comparator;"), (500, u "serialPersistentFields"), (0, u "[Ljava/io/ObjectStreamField;"), (0, .class_ 1104), (0, u "java/lang/String$CaseInsensitiveComparator"), (1, .class_ 1107), (0, u "java/io/Serializable"), (0, .class_ 1109), (0, u "java/lang/Comparable"), (0, .class_ 1111), (0, u "java/lang/constant/Constable"), (0, .class_ 1113), (0, u "java/lang/constant/ConstantDesc"), (2, u "serialVersionUID"), (0, u "J"), (3, u "REPL"), (0, u "C"), (2, u "LATIN1"), (1, u "UTF16")] 323

def k10m0 : Method := { name := "<init>", desc := "()V", sig := { parameters := [], returnType := none }, accessFlags := 1, code := none }
/-- java/lang/String -/
def k10 : Class := { plain "java/lang/String" (some 0) with
  accessFlags := 49
  interfaces := #[5, 6, 7, 8, 9]
  cf := some (fileOf pool10 10 #[.nestMembers #[1103]] #[{ accessFlags := 1, nameIndex := 5, descriptorIndex := 6, attributes := #[] }] 49 2 #[1106, 1108, 575, 1110, 1112] #[{ accessFlags := 18, nameIndex := 13, descriptorIndex := 14, attributes := #[] }, { accessFlags := 18, nameIndex := 17, descriptorIndex := 18, attributes := #[] }, { accessFlags := 2, nameIndex := 21, descriptorIndex := 22, attributes := #[] }, { accessFlags := 2, nameIndex := 25, descriptorIndex := 26, attributes := #[] }, { accessFlags := 26, nameIndex := 1116, descriptorIndex := 1117, attributes := #[] }, { accessFlags := 24, nameIndex := 40, descriptorIndex := 26, attributes := #[] }, { accessFlags := 26, nameIndex := 1101, descriptorIndex := 1102, attributes := #[] }, { accessFlags := 26, nameIndex := 1121, descriptorIndex := 1122, attributes := #[] }, { accessFlags := 25, nameIndex := 599, descriptorIndex := 600, attributes := #[] }, { accessFlags := 24, nameIndex := 1125, descriptorIndex := 18, attributes := #[] }, { accessFlags := 24, nameIndex := 1127, descriptorIndex := 18, attributes := #[] }])
  fields := #[{ name := "value", type := (.array .byte), accessFlags := 18, slot := 0, constantValue := 0 }, { name := "coder", type := .byte, accessFlags := 18, slot := 1, constantValue := 0 }, { name := "hash", type := .int, accessFlags := 2, slot := 2, constantValue := 0 }, { name := "hashIsZero", type := .boolean, accessFlags := 2, slot := 3, constantValue := 0 }, { name := "serialVersionUID", type := .long, accessFlags := 26, slot := 0, constantValue := 0 }, { name := "COMPACT_STRINGS", type := .boolean, accessFlags := 24, slot := 1, constantValue := 0 }, { name := "serialPersistentFields", type := (.array (.object "java/io/ObjectStreamField")), accessFlags := 26, slot := 2, constantValue := 0 }, { name := "REPL", type := .char, accessFlags := 26, slot := 3, constantValue := 0 }, { name := "CASE_INSENSITIVE_ORDER", type := (.object "java/util/Comparator"), accessFlags := 25, slot := 4, constantValue := 0 }, { name := "LATIN1", type := .byte, accessFlags := 24, slot := 5, constantValue := 0 }, { name := "UTF16", type := .byte, accessFlags := 24, slot := 6, constantValue := 0 }]
  methods := #[k10m0]
  instanceTypes := #[(.array .byte), .byte, .int, .boolean]
  staticTypes := #[.long, .boolean, (.array (.object "java/io/ObjectStreamField")), .char, (.object "java/util/Comparator"), .byte, .byte]
  resolved := Array.replicate 1451 none
  statics := none }

def pool11 : Array CpInfo := pool [(1, .methodref 2 3), (0, .class_ 4), (0, .nameAndType 5 6), (0, u "java/lang/Object"), (0, u "<init>"), (0, u "()V"), (1, .class_ 10), (1, u "java/lang/Number"), (2, .class_ 14), (0, u "java/io/Serializable"), (0, u "serialVersionUID"), (0, u "J")] 20

def k11c0 : Code := { maxStack := 1, maxLocals := 1, code := jdk_18_method_1_code, exceptionTable := #[], attributes := #[] }
def k11m0 : Method := { name := "<init>", desc := "()V", sig := { parameters := [], returnType := none }, accessFlags := 1, code := some k11c0 }
/-- java/lang/Number -/
def k11 : Class := { plain "java/lang/Number" (some 0) with
  accessFlags := 1057
  interfaces := #[5]
  cf := some (fileOf pool11 8 #[] #[{ accessFlags := 1, nameIndex := 5, descriptorIndex := 6, attributes := #[] }] 1057 2 #[13] #[{ accessFlags := 26, nameIndex := 15, descriptorIndex := 16, attributes := #[] }])
  fields := #[{ name := "serialVersionUID", type := .long, accessFlags := 26, slot := 0, constantValue := 0 }]
  methods := #[k11m0]
  instanceTypes := #[]
  staticTypes := #[.long]
  resolved := Array.replicate 37 none
  statics := none }

def pool12 : Array CpInfo := pool [(3, .methodref 4 5), (0, .class_ 6), (0, .nameAndType 7 8), (0, u "java/lang/Number"), (0, u "<init>"), (0, u "()V"), (13, .fieldref 23 24), (0, .class_ 25), (0, .nameAndType 26 27), (0, u "java/math/BigInteger"), (0, u "ZERO"), (0, u "Ljava/math/BigInteger;"), (0, .fieldref 23 29), (0, .nameAndType 30 31), (0, u "mag"), (0, u "[I"), (0, .fieldref 23 33), (0, .nameAndType 34 35), (0, u "signum"), (0, u "I"), (59, u "bitsPerDigit"), (0, u "[J"), (9, u "digitsPerInt"), (12, u "intRadix"), (60, u "SMALL_PRIME_PRODUCT"), (3, u "(Ljava/math/BigInteger;)Ljava/math/BigInteger;"), (52, u "valueOf"), (0, u "(J)Ljava/math/BigInteger;"), (2, u "add"), (18, u "ONE"), (6, u "TWO"), (43, u "$assertionsDisabled"), (0, u "Z"), (5, u "multiply"), (26, .long 16), (1, .fieldref 23 348), (0, .nameAndType 349 350), (0, u "posConst"), (0, u "[Ljava/math/BigInteger;"), (4, u "negConst"), (0, .methodref 23 357), (0, .nameAndType 7 358), (0, u "(J)V"), (38, .methodref 23 398), (0, .nameAndType 318 399), (0, u "(Ljava/math/BigInteger;ZZI)Ljava/math/BigInteger;"), (72, .class_ 474), (1, u "java/math/BigInteger$RecursiveOp"), (106, u "NEGATIVE_ONE"), (91, u "bnExpModThreshTable"), (72, u "lowestSetBitPlusTwo"), (2, u "bitLengthPlusOne"), (2, u "bitCountPlusOne"), (6, u "LOG_TWO"), (0, u "D"), (2, u "logCache"), (0, u "[D"), (13, u "NUM_ZEROS"), (2, u "ZEROS"), (0, u "Ljava/lang/String;"), (9, u "longRadix"), (5, u "digitsPerLong"), (22, u "powerCache"), (0, u "[[Ljava/math/BigInteger;"), (45, u "firstNonzeroIntNumPlusTwo"), (38, .class_ 909), (1, u "java/math/BigInteger$UnsafeHolder"), (141, u "TEN"), (106, u "serialPersistentFields"), (0, u "[Ljava/io/ObjectStreamField;"), (0, .class_ 1161), (0, u "java/lang/Comparable"), (0, u "LONG_MASK"), (0, u "J"), (1, u "MAX_MAG_LENGTH"), (0, u "PRIME_SEARCH_BIT_LENGTH_LIMIT"), (1, u "KARATSUBA_THRESHOLD"), (1, u "TOOM_COOK_THRESHOLD"), (1, u "KARATSUBA_SQUARE_THRESHOLD"), (1, u "TOOM_COOK_SQUARE_THRESHOLD"), (1, u "BURNIKEL_ZIEGLER_THRESHOLD"), (0, u "BURNIKEL_ZIEGLER_OFFSET"), (1, u "SCHOENHAGE_BASE_CONVERSION_THRESHOLD"), (1, u "MULTIPLY_SQUARE_THRESHOLD"), (0, u "MONTGOMERY_INTRINSIC_THRESHOLD"), (1, u "SMALL_PRIME_THRESHOLD"), (1, u "DEFAULT_PRIME_CERTAINTY"), (1, u "MAX_CONSTANT"), (3, u "serialVersionUID"), (338, .class_ 1532), (0, u "java/math/BigInteger$RecursiveOp$RecursiveSquare"), (0, .class_ 1534), (0, u "java/math/BigInteger$RecursiveOp$RecursiveMultiply")] 7

def k12c0 : Code := { maxStack := 4, maxLocals := 2, code := jdk_2097_method_29_code, exceptionTable := #[], attributes := #[] }
def k12m0 : Method := { name := "valueOf", desc := "(J)Ljava/math/BigInteger;", sig := { parameters := [.long], returnType := some (.object "java/math/BigInteger") }, accessFlags := 9, code := some k12c0 }
def k12c1 : Code := { maxStack := 4, maxLocals := 4, code := jdk_2097_method_30_code, exceptionTable := #[], attributes := #[] }
def k12m1 : Method := { name := "<init>", desc := "(J)V", sig := { parameters := [.long], returnType := none }, accessFlags := 2, code := some k12c1 }
def k12c2 : Code := { maxStack := 5, maxLocals := 4, code := jdk_2097_method_32_code, exceptionTable := #[], attributes := #[] }
def k12m2 : Method := { name := "add", desc := "(Ljava/math/BigInteger;)Ljava/math/BigInteger;", sig := { parameters := [(.object "java/math/BigInteger")], returnType := some (.object "java/math/BigInteger") }, accessFlags := 1, code := some k12c2 }
def k12c3 : Code := { maxStack := 5, maxLocals := 2, code := jdk_2097_method_40_code, exceptionTable := #[], attributes := #[] }
def k12m3 : Method := { name := "multiply", desc := "(Ljava/math/BigInteger;)Ljava/math/BigInteger;", sig := { parameters := [(.object "java/math/BigInteger")], returnType := some (.object "java/math/BigInteger") }, accessFlags := 1, code := some k12c3 }
def k12c4 : Code := { maxStack := 5, maxLocals := 9, code := jdk_2097_method_42_code, exceptionTable := #[], attributes := #[] }
def k12m4 : Method := { name := "multiply", desc := "(Ljava/math/BigInteger;ZZI)Ljava/math/BigInteger;", sig := { parameters := [(.object "java/math/BigInteger"), .boolean, .boolean, .int], returnType := some (.object "java/math/BigInteger") }, accessFlags := 2, code := some k12c4 }
/-- java/math/BigInteger -/
def k12 : Class := { plain "java/math/BigInteger" (some 11) with
  accessFlags := 33
  interfaces := #[6]
  cf := some (fileOf pool12 23 #[.nestMembers #[907, 472, 1531, 1533]] #[{ accessFlags := 9, nameIndex := 237, descriptorIndex := 238, attributes := #[] }, { accessFlags := 2, nameIndex := 7, descriptorIndex := 358, attributes := #[] }, { accessFlags := 1, nameIndex := 241, descriptorIndex := 184, attributes := #[] }, { accessFlags := 1, nameIndex := 318, descriptorIndex := 184, attributes := #[] }, { accessFlags := 2, nameIndex := 318, descriptorIndex := 399, attributes := #[] }] 33 4 #[1160] #[{ accessFlags := 16, nameIndex := 34, descriptorIndex := 35, attributes := #[] }, { accessFlags := 16, nameIndex := 30, descriptorIndex := 31, attributes := #[] }, { accessFlags := 2, nameIndex := 752, descriptorIndex := 35, attributes := #[] }, { accessFlags := 2, nameIndex := 749, descriptorIndex := 35, attributes := #[] }, { accessFlags := 2, nameIndex := 746, descriptorIndex := 35, attributes := #[] }, { accessFlags := 2, nameIndex := 868, descriptorIndex := 35, attributes := #[] }, { accessFlags := 24, nameIndex := 1162, descriptorIndex := 1163, attributes := #[] }, { accessFlags := 26, nameIndex := 1165, descriptorIndex := 35, attributes := #[] }, { accessFlags := 26, nameIndex := 1166, descriptorIndex := 35, attributes := #[] }, { accessFlags := 26, nameIndex := 1168, descriptorIndex := 35, attributes := #[] }, { accessFlags := 26, nameIndex := 1170, descriptorIndex := 35, attributes := #[] }, { accessFlags := 26, nameIndex := 1172, descriptorIndex := 35, attributes := #[] }, { accessFlags := 26, nameIndex := 1174, descriptorIndex := 35, attributes := #[] }, { accessFlags := 24, nameIndex := 1176, descriptorIndex := 35, attributes := #[] }, { accessFlags := 24, nameIndex := 1177, descriptorIndex := 35, attributes := #[] }, { accessFlags := 26, nameIndex := 1179, descriptorIndex := 35, attributes := #[] }, { accessFlags := 26, nameIndex := 1181, descriptorIndex := 35, attributes := #[] }, { accessFlags := 26, nameIndex := 1182, descriptorIndex := 35, attributes := #[] }, { accessFlags := 10, nameIndex := 95, descriptorIndex := 96, attributes := #[] }, { accessFlags := 26, nameIndex := 1184, descriptorIndex := 35, attributes := #[] }, { accessFlags := 26, nameIndex := 1186, descriptorIndex := 35, attributes := #[] }, { accessFlags := 26, nameIndex := 180, descriptorIndex := 27, attributes := #[] }, { accessFlags := 26, nameIndex := 1188, descriptorIndex := 35, attributes := #[] }, { accessFlags := 26, nameIndex := 349, descriptorIndex := 350, attributes := #[] }, { accessFlags := 26, nameIndex := 355, descriptorIndex := 350, attributes := #[] }, { accessFlags := 74, nameIndex := 821, descriptorIndex := 822, attributes := #[] }, { accessFlags := 26, nameIndex := 763, descriptorIndex := 764, attributes := #[] }, { accessFlags := 26, nameIndex := 759, descriptorIndex := 760, attributes := #[] }, { accessFlags := 25, nameIndex := 26, descriptorIndex := 27, attributes := #[] }, { accessFlags := 25, nameIndex := 260, descriptorIndex := 27, attributes := #[] }, { accessFlags := 25, nameIndex := 267, descriptorIndex := 27, attributes := #[] }, { accessFlags := 26, nameIndex := 581, descriptorIndex := 27, attributes := #[] }, { accessFlags := 25, nameIndex := 1051, descriptorIndex := 27, attributes := #[] }, { accessFlags := 8, nameIndex := 673, descriptorIndex := 31, attributes := #[] }, { accessFlags := 10, nameIndex := 778, descriptorIndex := 35, attributes := #[] }, { accessFlags := 26, nameIndex := 781, descriptorIndex := 782, attributes := #[] }, { accessFlags := 10, nameIndex := 798, descriptorIndex := 31, attributes := #[] }, { accessFlags := 10, nameIndex := 792, descriptorIndex := 350, attributes := #[] }, { accessFlags := 10, nameIndex := 106, descriptorIndex := 31, attributes := #[] }, { accessFlags := 10, nameIndex := 119, descriptorIndex := 31, attributes := #[] }, { accessFlags := 26, nameIndex := 1192, descriptorIndex := 1163, attributes := #[] }, { accessFlags := 26, nameIndex := 1158, descriptorIndex := 1159, attributes := #[] }, { accessFlags := 4120, nameIndex := 311, descriptorIndex := 312, attributes := #[] }])
  fields := #[{ name := "signum", type := .int, accessFlags := 16, slot := 0, constantValue := 0 }, { name := "mag", type := (.array .int), accessFlags := 16, slot := 1, constantValue := 0 }, { name := "bitCountPlusOne", type := .int, accessFlags := 2, slot := 2, constantValue := 0 }, { name := "bitLengthPlusOne", type := .int, accessFlags := 2, slot := 3, constantValue := 0 }, { name := "lowestSetBitPlusTwo", type := .int, accessFlags := 2, slot := 4, constantValue := 0 }, { name := "firstNonzeroIntNumPlusTwo", type := .int, accessFlags := 2, slot := 5, constantValue := 0 }, { name := "LONG_MASK", type := .long, accessFlags := 24, slot := 0, constantValue := 0 }, { name := "MAX_MAG_LENGTH", type := .int, accessFlags := 26, slot := 1, constantValue := 0 }, { name := "PRIME_SEARCH_BIT_LENGTH_LIMIT", type := .int, accessFlags := 26, slot := 2, constantValue := 0 }, { name := "KARATSUBA_THRESHOLD", type := .int, accessFlags := 26, slot := 3, constantValue := 0 }, { name := "TOOM_COOK_THRESHOLD", type := .int, accessFlags := 26, slot := 4, constantValue := 0 }, { name := "KARATSUBA_SQUARE_THRESHOLD", type := .int, accessFlags := 26, slot := 5, constantValue := 0 }, { name := "TOOM_COOK_SQUARE_THRESHOLD", type := .int, accessFlags := 26, slot := 6, constantValue := 0 }, { name := "BURNIKEL_ZIEGLER_THRESHOLD", type := .int, accessFlags := 24, slot := 7, constantValue := 0 }, { name := "BURNIKEL_ZIEGLER_OFFSET", type := .int, accessFlags := 24, slot := 8, constantValue := 0 }, { name := "SCHOENHAGE_BASE_CONVERSION_THRESHOLD", type := .int, accessFlags := 26, slot := 9, constantValue := 0 }, { name := "MULTIPLY_SQUARE_THRESHOLD", type := .int, accessFlags := 26, slot := 10, constantValue := 0 }, { name := "MONTGOMERY_INTRINSIC_THRESHOLD", type := .int, accessFlags := 26, slot := 11, constantValue := 0 }, { name := "bitsPerDigit", type := (.array .long), accessFlags := 10, slot := 12, constantValue := 0 }, { name := "SMALL_PRIME_THRESHOLD", type := .int, accessFlags := 26, slot := 13, constantValue := 0 }, { name := "DEFAULT_PRIME_CERTAINTY", type := .int, accessFlags := 26, slot := 14, constantValue := 0 }, { name := "SMALL_PRIME_PRODUCT", type := (.object "java/math/BigInteger"), accessFlags := 26, slot := 15, constantValue := 0 }, { name := "MAX_CONSTANT", type := .int, accessFlags := 26, slot := 16, constantValue := 0 }, { name := "posConst", type := (.array (.object "java/math/BigInteger")), accessFlags := 26, slot := 17, constantValue := 0 }, { name := "negConst", type := (.array (.object "java/math/BigInteger")), accessFlags := 26, slot := 18, constantValue := 0 }, { name := "powerCache", type := (.array (.array (.object "java/math/BigInteger"))), accessFlags := 74, slot := 19, constantValue := 0 }, { name := "logCache", type := (.array .double), accessFlags := 26, slot := 20, constantValue := 0 }, { name := "LOG_TWO", type := .double, accessFlags := 26, slot := 21, constantValue := 0 }, { name := "ZERO", type := (.object "java/math/BigInteger"), accessFlags := 25, slot := 22, constantValue := 0 }, { name := "ONE", type := (.object "java/math/BigInteger"), accessFlags := 25, slot := 23, constantValue := 0 }, { name := "TWO", type := (.object "java/math/BigInteger"), accessFlags := 25, slot := 24, constantValue := 0 }, { name := "NEGATIVE_ONE", type := (.object "java/math/BigInteger"), accessFlags := 26, slot := 25, constantValue := 0 }, { name := "TEN", type := (.object "java/math/BigInteger"), accessFlags := 25, slot := 26, constantValue := 0 }, { name := "bnExpModThreshTable", type := (.array .int), accessFlags := 8, slot := 27, constantValue := 0 }, { name := "NUM_ZEROS", type := .int, accessFlags := 10, slot := 28, constantValue := 0 }, { name := "ZEROS", type := (.object "java/lang/String"), accessFlags := 26, slot := 29, constantValue := 0 }, { name := "digitsPerLong", type := (.array .int), accessFlags := 10, slot := 30, constantValue := 0 }, { name := "longRadix", type := (.array (.object "java/math/BigInteger")), accessFlags := 10, slot := 31, constantValue := 0 }, { name := "digitsPerInt", type := (.array .int), accessFlags := 10, slot := 32, constantValue := 0 }, { name := "intRadix", type := (.array .int), accessFlags := 10, slot := 33, constantValue := 0 }, { name := "serialVersionUID", type := .long, accessFlags := 26, slot := 34, constantValue := 0 }, { name := "serialPersistentFields", type := (.array (.object "java/io/ObjectStreamField")), accessFlags := 26, slot := 35, constantValue := 0 }, { name := "$assertionsDisabled", type := .boolean, accessFlags := 4120, slot := 36, constantValue := 0 }]
  methods := #[k12m0, k12m1, k12m2, k12m3, k12m4]
  instanceTypes := #[.int, (.array .int), .int, .int, .int, .int]
  staticTypes := #[.long, .int, .int, .int, .int, .int, .int, .int, .int, .int, .int, .int, (.array .long), .int, .int, (.object "java/math/BigInteger"), .int, (.array (.object "java/math/BigInteger")), (.array (.object "java/math/BigInteger")), (.array (.array (.object "java/math/BigInteger"))), (.array .double), .double, (.object "java/math/BigInteger"), (.object "java/math/BigInteger"), (.object "java/math/BigInteger"), (.object "java/math/BigInteger"), (.object "java/math/BigInteger"), (.array .int), .int, (.object "java/lang/String"), (.array .int), (.array (.object "java/math/BigInteger")), (.array .int), (.array .int), .long, (.array (.object "java/io/ObjectStreamField")), .boolean]
  resolved := Array.replicate 1542 none
  mirror := some 3
  statics := some 0 }

def pool13 : Array CpInfo := pool [(1, .methodref 2 3), (0, .class_ 4), (0, .nameAndType 5 6), (0, u "java/lang/Object"), (0, u "<init>"), (0, u "()V"), (0, .class_ 8), (0, u "java/lang/Record")] 13

def k13c0 : Code := { maxStack := 1, maxLocals := 1, code := jdk_30_method_1_code, exceptionTable := #[], attributes := #[] }
def k13m0 : Method := { name := "<init>", desc := "()V", sig := { parameters := [], returnType := none }, accessFlags := 4, code := some k13c0 }
/-- java/lang/Record -/
def k13 : Class := { plain "java/lang/Record" (some 0) with
  accessFlags := 1057
  interfaces := #[]
  cf := some (fileOf pool13 7 #[] #[{ accessFlags := 4, nameIndex := 5, descriptorIndex := 6, attributes := #[] }] 1057 2 #[] #[])
  fields := #[]
  methods := #[k13m0]
  instanceTypes := #[]
  staticTypes := #[]
  resolved := Array.replicate 22 none
  statics := none }

def pool14 : Array CpInfo := pool [(1, .methodref 2 3), (0, .class_ 4), (0, .nameAndType 5 6), (0, u "java/lang/Record"), (0, u "<init>"), (0, u "()V"), (0, .fieldref 8 9), (0, .class_ 10), (0, .nameAndType 11 12), (0, u "com/example/fairgate/fairgate/processor/Trade"), (0, u "number"), (0, u "J"), (0, .fieldref 8 14), (0, .nameAndType 15 12), (0, u "time"), (0, .fieldref 8 17), (0, .nameAndType 18 19), (0, u "buy"), (0, u "Lcom/example/fairgate/fairgate/processor/OrderKey;"), (0, .fieldref 8 21), (0, .nameAndType 22 19), (0, u "sell"), (0, .fieldref 8 24), (0, .nameAndType 25 12), (0, u "price"), (0, .fieldref 8 27), (0, .nameAndType 28 12), (0, u "qty"), (12, u "(JJLcom/example/fairgate/fairgate/processor/OrderKey;Lcom/example/fairgate/fairgate/processor/OrderKey;JJ)V"), (6, u "()J")] 26

def k14c0 : Code := { maxStack := 3, maxLocals := 11, code := prog_159_method_1_code, exceptionTable := #[], attributes := #[] }
def k14m0 : Method := { name := "<init>", desc := "(JJLcom/example/fairgate/fairgate/processor/OrderKey;Lcom/example/fairgate/fairgate/processor/OrderKey;JJ)V", sig := { parameters := [.long, .long, (.object "com/example/fairgate/fairgate/processor/OrderKey"), (.object "com/example/fairgate/fairgate/processor/OrderKey"), .long, .long], returnType := none }, accessFlags := 1, code := some k14c0 }
def k14c1 : Code := { maxStack := 2, maxLocals := 1, code := prog_159_method_9_code, exceptionTable := #[], attributes := #[] }
def k14m1 : Method := { name := "price", desc := "()J", sig := { parameters := [], returnType := some .long }, accessFlags := 1, code := some k14c1 }
def k14c2 : Code := { maxStack := 2, maxLocals := 1, code := prog_159_method_10_code, exceptionTable := #[], attributes := #[] }
def k14m2 : Method := { name := "qty", desc := "()J", sig := { parameters := [], returnType := some .long }, accessFlags := 1, code := some k14c2 }
/-- com/example/fairgate/fairgate/processor/Trade -/
def k14 : Class := { plain "com/example/fairgate/fairgate/processor/Trade" (some 13) with
  accessFlags := 49
  interfaces := #[]
  cf := some (fileOf pool14 8 #[] #[{ accessFlags := 1, nameIndex := 5, descriptorIndex := 41, attributes := #[] }, { accessFlags := 1, nameIndex := 25, descriptorIndex := 48, attributes := #[] }, { accessFlags := 1, nameIndex := 28, descriptorIndex := 48, attributes := #[] }] 49 2 #[] #[{ accessFlags := 18, nameIndex := 11, descriptorIndex := 12, attributes := #[] }, { accessFlags := 18, nameIndex := 15, descriptorIndex := 12, attributes := #[] }, { accessFlags := 18, nameIndex := 18, descriptorIndex := 19, attributes := #[] }, { accessFlags := 18, nameIndex := 22, descriptorIndex := 19, attributes := #[] }, { accessFlags := 18, nameIndex := 25, descriptorIndex := 12, attributes := #[] }, { accessFlags := 18, nameIndex := 28, descriptorIndex := 12, attributes := #[] }])
  fields := #[{ name := "number", type := .long, accessFlags := 18, slot := 0, constantValue := 0 }, { name := "time", type := .long, accessFlags := 18, slot := 1, constantValue := 0 }, { name := "buy", type := (.object "com/example/fairgate/fairgate/processor/OrderKey"), accessFlags := 18, slot := 2, constantValue := 0 }, { name := "sell", type := (.object "com/example/fairgate/fairgate/processor/OrderKey"), accessFlags := 18, slot := 3, constantValue := 0 }, { name := "price", type := .long, accessFlags := 18, slot := 4, constantValue := 0 }, { name := "qty", type := .long, accessFlags := 18, slot := 5, constantValue := 0 }]
  methods := #[k14m0, k14m1, k14m2]
  instanceTypes := #[.long, .long, (.object "com/example/fairgate/fairgate/processor/OrderKey"), (.object "com/example/fairgate/fairgate/processor/OrderKey"), .long, .long]
  staticTypes := #[]
  resolved := Array.replicate 75 none
  statics := none }

def pool15 : Array CpInfo := pool [(1, .methodref 2 3), (0, .class_ 4), (0, .nameAndType 5 6), (0, u "java/lang/Record"), (0, u "<init>"), (0, u "()V"), (0, .fieldref 8 9), (0, .class_ 10), (0, .nameAndType 11 12), (0, u "com/example/fairgate/fairgate/processor/Fill"), (0, u "trade"), (0, u "Lcom/example/fairgate/fairgate/processor/Trade;"), (0, .fieldref 8 14), (0, .nameAndType 15 16), (0, u "order"), (0, u "Lcom/example/fairgate/fairgate/processor/OrderKey;"), (0, .fieldref 8 18), (0, .nameAndType 19 20), (0, u "edge"), (0, u "Lcom/example/fairgate/fairgate/core/EntryPoint;"), (0, .fieldref 8 22), (0, .nameAndType 23 24), (0, u "cumQty"), (0, u "J"), (0, .fieldref 8 26), (0, .nameAndType 27 24), (0, u "leavesQty"), (0, .fieldref 8 29), (0, .nameAndType 30 24), (0, u "avgPrice"), (12, u "(Lcom/example/fairgate/fairgate/processor/Trade;Lcom/example/fairgate/fairgate/processor/OrderKey;Lcom/example/fairgate/fairgate/core/EntryPoint;JJJ)V")] 35

def k15c0 : Code := { maxStack := 3, maxLocals := 10, code := prog_135_method_1_code, exceptionTable := #[], attributes := #[] }
def k15m0 : Method := { name := "<init>", desc := "(Lcom/example/fairgate/fairgate/processor/Trade;Lcom/example/fairgate/fairgate/processor/OrderKey;Lcom/example/fairgate/fairgate/core/EntryPoint;JJJ)V", sig := { parameters := [(.object "com/example/fairgate/fairgate/processor/Trade"), (.object "com/example/fairgate/fairgate/processor/OrderKey"), (.object "com/example/fairgate/fairgate/core/EntryPoint"), .long, .long, .long], returnType := none }, accessFlags := 1, code := some k15c0 }
/-- com/example/fairgate/fairgate/processor/Fill -/
def k15 : Class := { plain "com/example/fairgate/fairgate/processor/Fill" (some 13) with
  accessFlags := 49
  interfaces := #[]
  cf := some (fileOf pool15 8 #[] #[{ accessFlags := 1, nameIndex := 5, descriptorIndex := 43, attributes := #[] }] 49 2 #[] #[{ accessFlags := 18, nameIndex := 11, descriptorIndex := 12, attributes := #[] }, { accessFlags := 18, nameIndex := 15, descriptorIndex := 16, attributes := #[] }, { accessFlags := 18, nameIndex := 19, descriptorIndex := 20, attributes := #[] }, { accessFlags := 18, nameIndex := 23, descriptorIndex := 24, attributes := #[] }, { accessFlags := 18, nameIndex := 27, descriptorIndex := 24, attributes := #[] }, { accessFlags := 18, nameIndex := 30, descriptorIndex := 24, attributes := #[] }])
  fields := #[{ name := "trade", type := (.object "com/example/fairgate/fairgate/processor/Trade"), accessFlags := 18, slot := 0, constantValue := 0 }, { name := "order", type := (.object "com/example/fairgate/fairgate/processor/OrderKey"), accessFlags := 18, slot := 1, constantValue := 0 }, { name := "edge", type := (.object "com/example/fairgate/fairgate/core/EntryPoint"), accessFlags := 18, slot := 2, constantValue := 0 }, { name := "cumQty", type := .long, accessFlags := 18, slot := 3, constantValue := 0 }, { name := "leavesQty", type := .long, accessFlags := 18, slot := 4, constantValue := 0 }, { name := "avgPrice", type := .long, accessFlags := 18, slot := 5, constantValue := 0 }]
  methods := #[k15m0]
  instanceTypes := #[(.object "com/example/fairgate/fairgate/processor/Trade"), (.object "com/example/fairgate/fairgate/processor/OrderKey"), (.object "com/example/fairgate/fairgate/core/EntryPoint"), .long, .long, .long]
  staticTypes := #[]
  resolved := Array.replicate 79 none
  statics := none }

def pool16 : Array CpInfo := pool [(3, .class_ 4), (0, u "java/math/BigDecimal"), (4, .class_ 10), (0, u "java/math/BigInteger"), (0, .methodref 12 13), (0, .class_ 14), (0, .nameAndType 15 16), (0, u "java/lang/Number"), (0, u "<init>"), (0, u "()V"), (0, .fieldref 3 18), (0, .nameAndType 19 20), (0, u "scale"), (0, u "I"), (0, .fieldref 3 22), (0, .nameAndType 23 20), (0, u "precision"), (0, .fieldref 3 25), (0, .nameAndType 26 27), (0, u "intCompact"), (0, u "J"), (0, .fieldref 3 29), (0, .nameAndType 30 31), (0, u "intVal"), (0, u "Ljava/math/BigInteger;"), (63, .fieldref 3 96), (0, .nameAndType 97 98), (0, u "LONG_TEN_POWERS_TABLE"), (0, u "[J"), (4, .fieldref 104 105), (0, .class_ 106), (0, .nameAndType 107 20), (0, u "java/math/RoundingMode"), (0, u "oldMode"), (2, u "divideAndRound"), (10, .methodref 3 122), (0, .nameAndType 123 124), (0, u "compactValFor"), (0, u "(Ljava/math/BigInteger;)J"), (0, .long 9223372036854775808), (61, u "ZERO"), (2, u "INFLATED_BIGINT"), (4, u "valueOf"), (10, u "TWO"), (3, .methodref 211 212), (0, .class_ 213), (0, .nameAndType 214 215), (0, u "java/lang/Object"), (0, u "getClass"), (0, u "()Ljava/lang/Class;"), (13, .methodref 3 230), (0, .nameAndType 231 232), (0, u "toStrictBigInteger"), (0, u "(Ljava/math/BigInteger;)Ljava/math/BigInteger;"), (3, .methodref 3 237), (0, .nameAndType 195 238), (0, u "(J)Ljava/math/BigDecimal;"), (4, .methodref 3 244), (0, .nameAndType 15 245), (0, u "(Ljava/math/BigInteger;JII)V"), (0, .fieldref 3 247), (0, .nameAndType 248 249), (0, u "ZERO_THROUGH_TEN"), (0, u "[Ljava/math/BigDecimal;"), (2, u "ZERO_SCALED_BY"), (60, u "$assertionsDisabled"), (0, u "Z"), (12, u "checkScale"), (0, .methodref 3 329), (0, .nameAndType 195 330), (0, u "(JI)Ljava/math/BigDecimal;"), (37, .methodref 3 369), (0, .nameAndType 370 371), (0, u "divide"), (0, u "(JIJIII)Ljava/math/BigDecimal;"), (9, .methodref 3 382), (0, .nameAndType 370 383), (0, u "(Ljava/math/BigDecimal;II)Ljava/math/BigDecimal;"), (94, u "ONE_TENTH"), (0, u "Ljava/math/BigDecimal;"), (5, u "TEN"), (14, .class_ 502), (1, u "java/math/BigDecimal$1"), (1, u "[I"), (13, u "ONE_HALF"), (16, u "ONE"), (63, .methodref 3 600), (0, .nameAndType 601 602), (0, u "longMultiplyPowerTen"), (0, u "(JI)J"), (3, .methodref 3 607), (0, .nameAndType 110 608), (0, u "(JJIII)Ljava/math/BigDecimal;"), (26, u "(JJ)I"), (7, u "stringCache"), (0, u "Ljava/lang/String;"), (46, u "()J"), (5, .class_ 699), (1, u "java/math/BigDecimal$LongOverflow"), (5, u "longValueExact"), (2, u "FLOAT_10_POW"), (0, u "[F"), (39, u "DOUBLE_10_POW"), (0, u "[D"), (19, .class_ 772), (1, u "java/math/BigDecimal$StringBuilderHelper"), (35, u "BIG_TEN_POWERS_TABLE_MAX"), (2, u "BIG_TEN_POWERS_TABLE"), (0, u "[Ljava/math/BigInteger;"), (14, u "THRESHOLDS_TABLE"), (23, .class_ 853), (1, u "java/math/BigDecimal$UnsafeHolder"), (24, .fieldref 9 879), (0, .nameAndType 880 504), (0, u "mag"), (113, .methodref 3 995), (0, .nameAndType 327 635), (72, u "LONGLONG_TEN_POWERS_TABLE"), (0, u "[[J"), (112, u "BIG_TEN_POWERS_TABLE_INITLEN"), (113, .class_ 1297), (0, u "java/lang/Comparable"), (0, u "L"), (0, u "D"), (1, u "P_F"), (1, u "Q_MIN_F"), (1, u "Q_MAX_F"), (1, u "P_D"), (1, u "Q_MIN_D"), (1, u "Q_MAX_D"), (1, u "INFLATED"), (0, u "MAX_COMPACT_DIGITS"), (1, u "serialVersionUID"), (2, u "HALF_LONG_MAX_VALUE"), (0, u "HALF_LONG_MIN_VALUE"), (0, u "ROUND_UP"), (6, u "ROUND_DOWN"), (1, u "ROUND_CEILING"), (1, u "ROUND_FLOOR"), (1, u "ROUND_HALF_UP"), (1, u "ROUND_HALF_DOWN"), (1, u "ROUND_HALF_EVEN"), (1, u "ROUND_UNNECESSARY"), (1, u "DIV_NUM_BASE"), (43, u "(Ljava/math/BigInteger;)V"), (24, u "(Ljava/math/BigDecimal;ILjava/math/RoundingMode;)Ljava/math/BigDecimal;")] 225

def k16c0 : Code := { maxStack := 3, maxLocals := 6, code := jdk_17_method_1_code, exceptionTable := #[], attributes := #[] }
def k16m0 : Method := { name := "<init>", desc := "(Ljava/math/BigInteger;JII)V", sig := { parameters := [(.object "java/math/BigInteger"), .long, .int, .int], returnType := none }, accessFlags := 0, code := some k16c0 }
def k16c1 : Code := { maxStack := 3, maxLocals := 1, code := jdk_17_method_11_code, exceptionTable := #[], attributes := #[] }
def k16m1 : Method := { name := "toStrictBigInteger", desc := "(Ljava/math/BigInteger;)Ljava/math/BigInteger;", sig := { parameters := [(.object "java/math/BigInteger")], returnType := some (.object "java/math/BigInteger") }, accessFlags := 10, code := some k16c1 }
def k16c2 : Code := { maxStack := 3, maxLocals := 2, code := jdk_17_method_12_code, exceptionTable := #[], attributes := #[] }
def k16m2 : Method := { name := "<init>", desc := "(Ljava/math/BigInteger;)V", sig := { parameters := [(.object "java/math/BigInteger")], returnType := none }, accessFlags := 1, code := some k16c2 }
def k16c3 : Code := { maxStack := 7, maxLocals := 3, code := jdk_17_method_20_code, exceptionTable := #[], attributes := #[] }
def k16m3 : Method := { name := "valueOf", desc := "(JI)Ljava/math/BigDecimal;", sig := { parameters := [.long, .int], returnType := some (.object "java/math/BigDecimal") }, accessFlags := 9, code := some k16c3 }
def k16c4 : Code := { maxStack := 7, maxLocals := 2, code := jdk_17_method_21_code, exceptionTable := #[], attributes := #[] }
def k16m4 : Method := { name := "valueOf", desc := "(J)Ljava/math/BigDecimal;", sig := { parameters := [.long], returnType := some (.object "java/math/BigDecimal") }, accessFlags := 9, code := some k16c4 }
def k16c5 : Code := { maxStack := 8, maxLocals := 4, code := jdk_17_method_33_code, exceptionTable := #[], attributes := #[] }
def k16m5 : Method := { name := "divide", desc := "(Ljava/math/BigDecimal;II)Ljava/math/BigDecimal;", sig := { parameters := [(.object "java/math/BigDecimal"), .int, .int], returnType := some (.object "java/math/BigDecimal") }, accessFlags := 1, code := some k16c5 }
def k16c6 : Code := { maxStack := 4, maxLocals := 4, code := jdk_17_method_34_code, exceptionTable := #[], attributes := #[] }
def k16m6 : Method := { name := "divide", desc := "(Ljava/math/BigDecimal;ILjava/math/RoundingMode;)Ljava/math/BigDecimal;", sig := { parameters := [(.object "java/math/BigDecimal"), .int, (.object "java/math/RoundingMode")], returnType := some (.object "java/math/BigDecimal") }, accessFlags := 1, code := some k16c6 }
def k16c7 : Code := { maxStack := 4, maxLocals := 2, code := jdk_17_method_84_code, exceptionTable := #[], attributes := #[] }
def k16m7 : Method := { name := "longValueExact", desc := "()J", sig := { parameters := [], returnType := some .long }, accessFlags := 1, code := some k16c7 }
def k16c8 : Code := { maxStack := 4, maxLocals := 7, code := jdk_17_method_97_code, exceptionTable := #[], attributes := #[] }
def k16m8 : Method := { name := "longMultiplyPowerTen", desc := "(JI)J", sig := { parameters := [.long, .int], returnType := some .long }, accessFlags := 10, code := some k16c8 }
def k16c9 : Code := { maxStack := 5, maxLocals := 6, code := jdk_17_method_107_code, exceptionTable := #[], attributes := #[] }
def k16m9 : Method := { name := "compactValFor", desc := "(Ljava/math/BigInteger;)J", sig := { parameters := [(.object "java/math/BigInteger")], returnType := some .long }, accessFlags := 10, code := some k16c9 }
def k16c10 : Code := { maxStack := 4, maxLocals := 5, code := jdk_17_method_113_code, exceptionTable := #[], attributes := #[] }
def k16m10 : Method := { name := "checkScale", desc := "(JJ)I", sig := { parameters := [.long, .long], returnType := some .int }, accessFlags := 10, code := some k16c10 }
def k16c11 : Code := { maxStack := 8, maxLocals := 13, code := jdk_17_method_119_code, exceptionTable := #[], attributes := #[] }
def k16m11 : Method := { name := "divideAndRound", desc := "(JJIII)Ljava/math/BigDecimal;", sig := { parameters := [.long, .long, .int, .int, .int], returnType := some (.object "java/math/BigDecimal") }, accessFlags := 10, code := some k16c11 }
def k16c12 : Code := { maxStack := 9, maxLocals := 13, code := jdk_17_method_166_code, exceptionTable := #[], attributes := #[] }
def k16m12 : Method := { name := "divide", desc := "(JIJIII)Ljava/math/BigDecimal;", sig := { parameters := [.long, .int, .long, .int, .int, .int], returnType := some (.object "java/math/BigDecimal") }, accessFlags := 10, code := some k16c12 }
/-- java/math/BigDecimal -/
def k16 : Class := { plain "java/math/BigDecimal" (some 11) with
  accessFlags := 33
  interfaces := #[6]
  cf := some (fileOf pool16 3 #[.nestMembers #[500, 851, 770, 697]] #[{ accessFlags := 0, nameIndex := 15, descriptorIndex := 245, attributes := #[] }, { accessFlags := 10, nameIndex := 231, descriptorIndex := 232, attributes := #[] }, { accessFlags := 1, nameIndex := 15, descriptorIndex := 1386, attributes := #[] }, { accessFlags := 9, nameIndex := 195, descriptorIndex := 330, attributes := #[] }, { accessFlags := 9, nameIndex := 195, descriptorIndex := 238, attributes := #[] }, { accessFlags := 1, nameIndex := 370, descriptorIndex := 383, attributes := #[] }, { accessFlags := 1, nameIndex := 370, descriptorIndex := 1411, attributes := #[] }, { accessFlags := 1, nameIndex := 705, descriptorIndex := 691, attributes := #[] }, { accessFlags := 10, nameIndex := 601, descriptorIndex := 602, attributes := #[] }, { accessFlags := 10, nameIndex := 123, descriptorIndex := 124, attributes := #[] }, { accessFlags := 10, nameIndex := 327, descriptorIndex := 635, attributes := #[] }, { accessFlags := 10, nameIndex := 110, descriptorIndex := 608, attributes := #[] }, { accessFlags := 10, nameIndex := 370, descriptorIndex := 371, attributes := #[] }] 33 12 #[1296] #[{ accessFlags := 26, nameIndex := 1298, descriptorIndex := 1299, attributes := #[] }, { accessFlags := 26, nameIndex := 1301, descriptorIndex := 20, attributes := #[] }, { accessFlags := 26, nameIndex := 1303, descriptorIndex := 20, attributes := #[] }, { accessFlags := 26, nameIndex := 1305, descriptorIndex := 20, attributes := #[] }, { accessFlags := 26, nameIndex := 1307, descriptorIndex := 20, attributes := #[] }, { accessFlags := 26, nameIndex := 1309, descriptorIndex := 20, attributes := #[] }, { accessFlags := 26, nameIndex := 1311, descriptorIndex := 20, attributes := #[] }, { accessFlags := 18, nameIndex := 30, descriptorIndex := 31, attributes := #[] }, { accessFlags := 18, nameIndex := 19, descriptorIndex := 20, attributes := #[] }, { accessFlags := 130, nameIndex := 23, descriptorIndex := 20, attributes := #[] }, { accessFlags := 130, nameIndex := 643, descriptorIndex := 644, attributes := #[] }, { accessFlags := 24, nameIndex := 1313, descriptorIndex := 27, attributes := #[] }, { accessFlags := 26, nameIndex := 190, descriptorIndex := 31, attributes := #[] }, { accessFlags := 146, nameIndex := 26, descriptorIndex := 27, attributes := #[] }, { accessFlags := 26, nameIndex := 1314, descriptorIndex := 20, attributes := #[] }, { accessFlags := 26, nameIndex := 1316, descriptorIndex := 27, attributes := #[] }, { accessFlags := 26, nameIndex := 248, descriptorIndex := 249, attributes := #[] }, { accessFlags := 26, nameIndex := 252, descriptorIndex := 249, attributes := #[] }, { accessFlags := 26, nameIndex := 1319, descriptorIndex := 27, attributes := #[] }, { accessFlags := 26, nameIndex := 1320, descriptorIndex := 27, attributes := #[] }, { accessFlags := 25, nameIndex := 187, descriptorIndex := 479, attributes := #[] }, { accessFlags := 25, nameIndex := 535, descriptorIndex := 479, attributes := #[] }, { accessFlags := 25, nameIndex := 206, descriptorIndex := 479, attributes := #[] }, { accessFlags := 25, nameIndex := 485, descriptorIndex := 479, attributes := #[] }, { accessFlags := 26, nameIndex := 478, descriptorIndex := 479, attributes := #[] }, { accessFlags := 26, nameIndex := 518, descriptorIndex := 479, attributes := #[] }, { accessFlags := 25, nameIndex := 1321, descriptorIndex := 20, attributes := #[] }, { accessFlags := 25, nameIndex := 1328, descriptorIndex := 20, attributes := #[] }, { accessFlags := 25, nameIndex := 1330, descriptorIndex := 20, attributes := #[] }, { accessFlags := 25, nameIndex := 1332, descriptorIndex := 20, attributes := #[] }, { accessFlags := 25, nameIndex := 1334, descriptorIndex := 20, attributes := #[] }, { accessFlags := 25, nameIndex := 1336, descriptorIndex := 20, attributes := #[] }, { accessFlags := 25, nameIndex := 1338, descriptorIndex := 20, attributes := #[] }, { accessFlags := 25, nameIndex := 1340, descriptorIndex := 20, attributes := #[] }, { accessFlags := 26, nameIndex := 749, descriptorIndex := 750, attributes := #[] }, { accessFlags := 26, nameIndex := 708, descriptorIndex := 709, attributes := #[] }, { accessFlags := 26, nameIndex := 97, descriptorIndex := 98, attributes := #[] }, { accessFlags := 74, nameIndex := 811, descriptorIndex := 812, attributes := #[] }, { accessFlags := 26, nameIndex := 1182, descriptorIndex := 20, attributes := #[] }, { accessFlags := 26, nameIndex := 808, descriptorIndex := 20, attributes := #[] }, { accessFlags := 26, nameIndex := 827, descriptorIndex := 98, attributes := #[] }, { accessFlags := 26, nameIndex := 1342, descriptorIndex := 27, attributes := #[] }, { accessFlags := 26, nameIndex := 1068, descriptorIndex := 1069, attributes := #[] }, { accessFlags := 4120, nameIndex := 313, descriptorIndex := 314, attributes := #[] }])
  fields := #[{ name := "L", type := .double, accessFlags := 26, slot := 0, constantValue := 0 }, { name := "P_F", type := .int, accessFlags := 26, slot := 1, constantValue := 0 }, { name := "Q_MIN_F", type := .int, accessFlags := 26, slot := 2, constantValue := 0 }, { name := "Q_MAX_F", type := .int, accessFlags := 26, slot := 3, constantValue := 0 }, { name := "P_D", type := .int, accessFlags := 26, slot := 4, constantValue := 0 }, { name := "Q_MIN_D", type := .int, accessFlags := 26, slot := 5, constantValue := 0 }, { name := "Q_MAX_D", type := .int, accessFlags := 26, slot := 6, constantValue := 0 }, { name := "intVal", type := (.object "java/math/BigInteger"), accessFlags := 18, slot := 0, constantValue := 0 }, { name := "scale", type := .int, accessFlags := 18, slot := 1, constantValue := 0 }, { name := "precision", type := .int, accessFlags := 130, slot := 2, constantValue := 0 }, { name := "stringCache", type := (.object "java/lang/String"), accessFlags := 130, slot := 3, constantValue := 0 }, { name := "INFLATED", type := .long, accessFlags := 24, slot := 7, constantValue := 0 }, { name := "INFLATED_BIGINT", type := (.object "java/math/BigInteger"), accessFlags := 26, slot := 8, constantValue := 0 }, { name := "intCompact", type := .long, accessFlags := 146, slot := 4, constantValue := 0 }, { name := "MAX_COMPACT_DIGITS", type := .int, accessFlags := 26, slot := 9, constantValue := 0 }, { name := "serialVersionUID", type := .long, accessFlags := 26, slot := 10, constantValue := 0 }, { name := "ZERO_THROUGH_TEN", type := (.array (.object "java/math/BigDecimal")), accessFlags := 26, slot := 11, constantValue := 0 }, { name := "ZERO_SCALED_BY", type := (.array (.object "java/math/BigDecimal")), accessFlags := 26, slot := 12, constantValue := 0 }, { name := "HALF_LONG_MAX_VALUE", type := .long, accessFlags := 26, slot := 13, constantValue := 0 }, { name := "HALF_LONG_MIN_VALUE", type := .long, accessFlags := 26, slot := 14, constantValue := 0 }, { name := "ZERO", type := (.object "java/math/BigDecimal"), accessFlags := 25, slot := 15, constantValue := 0 }, { name := "ONE", type := (.object "java/math/BigDecimal"), accessFlags := 25, slot := 16, constantValue := 0 }, { name := "TWO", type := (.object "java/math/BigDecimal"), accessFlags := 25, slot := 17, constantValue := 0 }, { name := "TEN", type := (.object "java/math/BigDecimal"), accessFlags := 25, slot := 18, constantValue := 0 }, { name := "ONE_TENTH", type := (.object "java/math/BigDecimal"), accessFlags := 26, slot := 19, constantValue := 0 }, { name := "ONE_HALF", type := (.object "java/math/BigDecimal"), accessFlags := 26, slot := 20, constantValue := 0 }, { name := "ROUND_UP", type := .int, accessFlags := 25, slot := 21, constantValue := 0 }, { name := "ROUND_DOWN", type := .int, accessFlags := 25, slot := 22, constantValue := 0 }, { name := "ROUND_CEILING", type := .int, accessFlags := 25, slot := 23, constantValue := 0 }, { name := "ROUND_FLOOR", type := .int, accessFlags := 25, slot := 24, constantValue := 0 }, { name := "ROUND_HALF_UP", type := .int, accessFlags := 25, slot := 25, constantValue := 0 }, { name := "ROUND_HALF_DOWN", type := .int, accessFlags := 25, slot := 26, constantValue := 0 }, { name := "ROUND_HALF_EVEN", type := .int, accessFlags := 25, slot := 27, constantValue := 0 }, { name := "ROUND_UNNECESSARY", type := .int, accessFlags := 25, slot := 28, constantValue := 0 }, { name := "DOUBLE_10_POW", type := (.array .double), accessFlags := 26, slot := 29, constantValue := 0 }, { name := "FLOAT_10_POW", type := (.array .float), accessFlags := 26, slot := 30, constantValue := 0 }, { name := "LONG_TEN_POWERS_TABLE", type := (.array .long), accessFlags := 26, slot := 31, constantValue := 0 }, { name := "BIG_TEN_POWERS_TABLE", type := (.array (.object "java/math/BigInteger")), accessFlags := 74, slot := 32, constantValue := 0 }, { name := "BIG_TEN_POWERS_TABLE_INITLEN", type := .int, accessFlags := 26, slot := 33, constantValue := 0 }, { name := "BIG_TEN_POWERS_TABLE_MAX", type := .int, accessFlags := 26, slot := 34, constantValue := 0 }, { name := "THRESHOLDS_TABLE", type := (.array .long), accessFlags := 26, slot := 35, constantValue := 0 }, { name := "DIV_NUM_BASE", type := .long, accessFlags := 26, slot := 36, constantValue := 0 }, { name := "LONGLONG_TEN_POWERS_TABLE", type := (.array (.array .long)), accessFlags := 26, slot := 37, constantValue := 0 }, { name := "$assertionsDisabled", type := .boolean, accessFlags := 4120, slot := 38, constantValue := 0 }]
  methods := #[k16m0, k16m1, k16m2, k16m3, k16m4, k16m5, k16m6, k16m7, k16m8, k16m9, k16m10, k16m11, k16m12]
  instanceTypes := #[(.object "java/math/BigInteger"), .int, .int, (.object "java/lang/String"), .long]
  staticTypes := #[.double, .int, .int, .int, .int, .int, .int, .long, (.object "java/math/BigInteger"), .int, .long, (.array (.object "java/math/BigDecimal")), (.array (.object "java/math/BigDecimal")), .long, .long, (.object "java/math/BigDecimal"), (.object "java/math/BigDecimal"), (.object "java/math/BigDecimal"), (.object "java/math/BigDecimal"), (.object "java/math/BigDecimal"), (.object "java/math/BigDecimal"), .int, .int, .int, .int, .int, .int, .int, .int, (.array .double), (.array .float), (.array .long), (.array (.object "java/math/BigInteger")), .int, .int, (.array .long), .long, (.array (.array .long)), .boolean]
  resolved := Array.replicate 1637 none
  statics := some 1 }

def pool17 : Array CpInfo := pool [(2, .class_ 4), (1, u "java/lang/Enum"), (0, u "name"), (0, u "Ljava/lang/String;"), (2, u "ordinal"), (0, u "I"), (1, .class_ 14), (1, u "java/lang/Object"), (4, u "hash"), (86, .class_ 108), (1, u "java/lang/Enum$EnumDesc"), (2, .class_ 112), (0, u "java/lang/constant/Constable"), (0, .class_ 114), (0, u "java/lang/Comparable"), (0, .class_ 116), (0, u "java/io/Serializable")] 87

/-- java/lang/Enum -/
def k17 : Class := { plain "java/lang/Enum" (some 0) with
  accessFlags := 1057
  interfaces := #[8, 6, 5]
  cf := some (fileOf pool17 2 #[.nestMembers #[106]] #[] 1057 12 #[111, 113, 115] #[{ accessFlags := 18, nameIndex := 5, descriptorIndex := 6, attributes := #[] }, { accessFlags := 18, nameIndex := 9, descriptorIndex := 10, attributes := #[] }, { accessFlags := 2, nameIndex := 19, descriptorIndex := 10, attributes := #[] }])
  fields := #[{ name := "name", type := (.object "java/lang/String"), accessFlags := 18, slot := 0, constantValue := 0 }, { name := "ordinal", type := .int, accessFlags := 18, slot := 1, constantValue := 0 }, { name := "hash", type := .int, accessFlags := 2, slot := 2, constantValue := 0 }]
  methods := #[]
  instanceTypes := #[(.object "java/lang/String"), .int, .int]
  staticTypes := #[]
  resolved := Array.replicate 204 none
  statics := none }

def pool18 : Array CpInfo := pool [(1, .class_ 2), (0, u "java/math/RoundingMode"), (2, u "UP"), (0, u "Ljava/math/RoundingMode;"), (2, u "DOWN"), (2, u "CEILING"), (2, u "FLOOR"), (2, u "HALF_UP"), (2, u "HALF_DOWN"), (2, u "HALF_EVEN"), (2, u "UNNECESSARY"), (2, u "$VALUES"), (0, u "[Ljava/math/RoundingMode;"), (6, .class_ 40), (1, u "java/lang/Enum"), (8, u "oldMode"), (0, u "I")] 43

/-- java/math/RoundingMode -/
def k18 : Class := { plain "java/math/RoundingMode" (some 17) with
  accessFlags := 16433
  interfaces := #[]
  cf := some (fileOf pool18 1 #[] #[] 16433 38 #[] #[{ accessFlags := 16409, nameIndex := 5, descriptorIndex := 6, attributes := #[] }, { accessFlags := 16409, nameIndex := 9, descriptorIndex := 6, attributes := #[] }, { accessFlags := 16409, nameIndex := 12, descriptorIndex := 6, attributes := #[] }, { accessFlags := 16409, nameIndex := 15, descriptorIndex := 6, attributes := #[] }, { accessFlags := 16409, nameIndex := 18, descriptorIndex := 6, attributes := #[] }, { accessFlags := 16409, nameIndex := 21, descriptorIndex := 6, attributes := #[] }, { accessFlags := 16409, nameIndex := 24, descriptorIndex := 6, attributes := #[] }, { accessFlags := 16409, nameIndex := 27, descriptorIndex := 6, attributes := #[] }, { accessFlags := 16, nameIndex := 49, descriptorIndex := 50, attributes := #[] }, { accessFlags := 4122, nameIndex := 30, descriptorIndex := 31, attributes := #[] }])
  fields := #[{ name := "UP", type := (.object "java/math/RoundingMode"), accessFlags := 16409, slot := 0, constantValue := 0 }, { name := "DOWN", type := (.object "java/math/RoundingMode"), accessFlags := 16409, slot := 1, constantValue := 0 }, { name := "CEILING", type := (.object "java/math/RoundingMode"), accessFlags := 16409, slot := 2, constantValue := 0 }, { name := "FLOOR", type := (.object "java/math/RoundingMode"), accessFlags := 16409, slot := 3, constantValue := 0 }, { name := "HALF_UP", type := (.object "java/math/RoundingMode"), accessFlags := 16409, slot := 4, constantValue := 0 }, { name := "HALF_DOWN", type := (.object "java/math/RoundingMode"), accessFlags := 16409, slot := 5, constantValue := 0 }, { name := "HALF_EVEN", type := (.object "java/math/RoundingMode"), accessFlags := 16409, slot := 6, constantValue := 0 }, { name := "UNNECESSARY", type := (.object "java/math/RoundingMode"), accessFlags := 16409, slot := 7, constantValue := 0 }, { name := "oldMode", type := .int, accessFlags := 16, slot := 3, constantValue := 0 }, { name := "$VALUES", type := (.array (.object "java/math/RoundingMode")), accessFlags := 4122, slot := 8, constantValue := 0 }]
  methods := #[]
  instanceTypes := #[(.object "java/lang/String"), .int, .int, .int]
  staticTypes := #[(.object "java/math/RoundingMode"), (.object "java/math/RoundingMode"), (.object "java/math/RoundingMode"), (.object "java/math/RoundingMode"), (.object "java/math/RoundingMode"), (.object "java/math/RoundingMode"), (.object "java/math/RoundingMode"), (.object "java/math/RoundingMode"), (.array (.object "java/math/RoundingMode"))]
  resolved := Array.replicate 94 none
  statics := some 2 }

def pool19 : Array CpInfo := pool [(1, u "java/lang/Class"), (0, .class_ 1), (0, u "java/lang/Object"), (0, .class_ 3)] 3

/-- java/lang/Class -/
def k19 : Class := { plain "java/lang/Class" (some 0) with
  accessFlags := 49
  interfaces := #[]
  cf := some (fileOf pool19 2 #[] #[] 49 4 #[] #[])
  fields := #[]
  methods := #[]
  instanceTypes := #[]
  staticTypes := #[]
  resolved := Array.replicate 8 none
  statics := none }

def pool20 : Array CpInfo := pool [(1, u "java/lang/Cloneable"), (0, .class_ 1), (0, u "java/lang/Object"), (0, .class_ 3)] 3

/-- java/lang/Cloneable -/
def k20 : Class := { plain "java/lang/Cloneable" (some 0) with
  accessFlags := 1537
  interfaces := #[]
  cf := some (fileOf pool20 2 #[] #[] 1537 4 #[] #[])
  fields := #[]
  methods := #[]
  instanceTypes := #[]
  staticTypes := #[]
  resolved := Array.replicate 8 none
  statics := none }

/-- the primitive byte -/
def k21 : Class := { plain "byte" none with kind := .primitive 'B', accessFlags := 0x411 }
/-- [B -/
def k22 : Class := { plain "[B" (some 0) with kind := .array 21 .byte, interfaces := #[20, 5], accessFlags := 1041 }

/-- the primitive int -/
def k23 : Class := { plain "int" none with kind := .primitive 'I', accessFlags := 0x411 }
/-- [I -/
def k24 : Class := { plain "[I" (some 0) with kind := .array 23 .int, interfaces := #[20, 5], accessFlags := 1041 }

/-- the primitive long -/
def k25 : Class := { plain "long" none with kind := .primitive 'J', accessFlags := 0x411 }
/-- [J -/
def k26 : Class := { plain "[J" (some 0) with kind := .array 25 .long, interfaces := #[20, 5], accessFlags := 1041 }

/-- [Ljava/math/BigDecimal; -/
def k27 : Class := { plain "[Ljava/math/BigDecimal;" (some 0) with kind := .array 16 (.object "java/math/BigDecimal"), interfaces := #[20, 5], accessFlags := 1041 }

/-- [Ljava/math/BigInteger; -/
def k28 : Class := { plain "[Ljava/math/BigInteger;" (some 0) with kind := .array 12 (.object "java/math/BigInteger"), interfaces := #[20, 5], accessFlags := 1041 }

def heap : Heap := #[{ cls := 12, slots := #[.long 0, .int 0, .int 0, .int 0, .int 0, .int 0, .int 0, .int 0, .int 0, .int 0, .int 0, .int 0, .null, .int 0, .int 0, .null, .int 0, .ref 4, .null, .null, .null, .double 0, .ref 23, .ref 24, .ref 25, .null, .ref 33, .null, .int 0, .null, .null, .null, .null, .null, .long 0, .null, .int 0], vm := .statics 12 },
  { cls := 16, slots := #[.double 0, .int 0, .int 0, .int 0, .int 0, .int 0, .int 0, .long 0, .null, .int 0, .long 0, .ref 5, .null, .long 0, .long 0, .ref 40, .ref 41, .ref 42, .ref 50, .null, .null, .int 0, .int 0, .int 0, .int 0, .int 0, .int 0, .int 0, .int 0, .null, .null, .ref 54, .null, .int 0, .int 0, .null, .long 0, .null, .int 0], vm := .statics 16 },
  { cls := 18, slots := #[.null, .null, .null, .null, .null, .null, .ref 53, .null, .null], vm := .statics 18 },
  { cls := 19, slots := #[], vm := .mirror 12 },
  { cls := 28, slots := #[.null, .ref 24, .ref 25, .ref 26, .ref 27, .ref 28, .ref 29, .ref 30, .ref 31, .ref 32, .ref 33, .ref 34, .ref 35, .ref 36, .ref 37, .ref 38, .ref 39], vm := .none },
  { cls := 27, slots := #[.ref 40, .ref 41, .ref 42, .ref 43, .ref 44, .ref 45, .ref 46, .ref 47, .ref 48, .ref 49, .ref 50], vm := .none },
  { cls := 24, slots := #[], vm := .none },
  { cls := 24, slots := #[.int 1], vm := .none },
  { cls := 24, slots := #[.int 2], vm := .none },
  { cls := 24, slots := #[.int 3], vm := .none },
  { cls := 24, slots := #[.int 4], vm := .none },
  { cls := 24, slots := #[.int 5], vm := .none },
  { cls := 24, slots := #[.int 6], vm := .none },
  { cls := 24, slots := #[.int 7], vm := .none },
  { cls := 24, slots := #[.int 8], vm := .none },
  { cls := 24, slots := #[.int 9], vm := .none },
  { cls := 24, slots := #[.int 10], vm := .none },
  { cls := 24, slots := #[.int 11], vm := .none },
  { cls := 24, slots := #[.int 12], vm := .none },
  { cls := 24, slots := #[.int 13], vm := .none },
  { cls := 24, slots := #[.int 14], vm := .none },
  { cls := 24, slots := #[.int 15], vm := .none },
  { cls := 24, slots := #[.int 16], vm := .none },
  { cls := 12, slots := #[.int 0, .ref 6, .int 0, .int 0, .int 0, .int 0], vm := .none },
  { cls := 12, slots := #[.int 1, .ref 7, .int 0, .int 0, .int 0, .int 0], vm := .none },
  { cls := 12, slots := #[.int 1, .ref 8, .int 0, .int 0, .int 0, .int 0], vm := .none },
  { cls := 12, slots := #[.int 1, .ref 9, .int 0, .int 0, .int 0, .int 0], vm := .none },
  { cls := 12, slots := #[.int 1, .ref 10, .int 0, .int 0, .int 0, .int 0], vm := .none },
  { cls := 12, slots := #[.int 1, .ref 11, .int 0, .int 0, .int 0, .int 0], vm := .none },
  { cls := 12, slots := #[.int 1, .ref 12, .int 0, .int 0, .int 0, .int 0], vm := .none },
  { cls := 12, slots := #[.int 1, .ref 13, .int 0, .int 0, .int 0, .int 0], vm := .none },
  { cls := 12, slots := #[.int 1, .ref 14, .int 0, .int 0, .int 0, .int 0], vm := .none },
  { cls := 12, slots := #[.int 1, .ref 15, .int 0, .int 0, .int 0, .int 0], vm := .none },
  { cls := 12, slots := #[.int 1, .ref 16, .int 0, .int 0, .int 0, .int 0], vm := .none },
  { cls := 12, slots := #[.int 1, .ref 17, .int 0, .int 0, .int 0, .int 0], vm := .none },
  { cls := 12, slots := #[.int 1, .ref 18, .int 0, .int 0, .int 0, .int 0], vm := .none },
  { cls := 12, slots := #[.int 1, .ref 19, .int 0, .int 0, .int 0, .int 0], vm := .none },
  { cls := 12, slots := #[.int 1, .ref 20, .int 0, .int 0, .int 0, .int 0], vm := .none },
  { cls := 12, slots := #[.int 1, .ref 21, .int 0, .int 0, .int 0, .int 0], vm := .none },
  { cls := 12, slots := #[.int 1, .ref 22, .int 0, .int 0, .int 0, .int 0], vm := .none },
  { cls := 16, slots := #[.ref 23, .int 0, .int 0, .null, .long 0], vm := .none },
  { cls := 16, slots := #[.ref 24, .int 0, .int 0, .null, .long 1], vm := .none },
  { cls := 16, slots := #[.ref 25, .int 0, .int 0, .null, .long 2], vm := .none },
  { cls := 16, slots := #[.ref 26, .int 0, .int 0, .null, .long 3], vm := .none },
  { cls := 16, slots := #[.ref 27, .int 0, .int 0, .null, .long 4], vm := .none },
  { cls := 16, slots := #[.ref 28, .int 0, .int 0, .null, .long 5], vm := .none },
  { cls := 16, slots := #[.ref 29, .int 0, .int 0, .null, .long 6], vm := .none },
  { cls := 16, slots := #[.ref 30, .int 0, .int 0, .null, .long 7], vm := .none },
  { cls := 16, slots := #[.ref 31, .int 0, .int 0, .null, .long 8], vm := .none },
  { cls := 16, slots := #[.ref 32, .int 0, .int 0, .null, .long 9], vm := .none },
  { cls := 16, slots := #[.ref 33, .int 0, .int 0, .null, .long 10], vm := .none },
  { cls := 22, slots := #[.int 72], vm := .none },
  { cls := 10, slots := #[.ref 51, .int 0, .int 0, .int 0], vm := .none },
  { cls := 18, slots := #[.ref 52, .int 6, .int 0, .int 6], vm := .none },
  { cls := 26, slots := #[.long 1, .long 10, .long 100, .long 1000, .long 10000, .long 100000, .long 1000000, .long 10000000, .long 100000000, .long 1000000000, .long 10000000000, .long 100000000000, .long 1000000000000, .long 10000000000000, .long 100000000000000, .long 1000000000000000, .long 10000000000000000, .long 100000000000000000, .long 1000000000000000000], vm := .none }]
def classes : Array Class := #[k0, k1, k2, k3, k4, k5, k6, k7, k8, k9, k10, k11, k12, k13, k14, k15, k16, k17, k18, k19, k20, k21, k22, k23, k24, k25, k26, k27, k28]
def interned : List (Array UInt16 × Addr) := []
def slotsUsed : Nat := 314
def theMethod : MethodId := ⟨1, 1⟩
def args0 : Array Value := #[.long 100, .long 60, .long 30, .long 7, .int 0]
def aboutOver (below : List Frame) : State where
  vm := { classes := classes, interned := interned.toArray }
  heap := heap
  slotsUsed := slotsUsed
  threads := #[{ frames := .invoking theMethod args0 :: below }]
def below0 : List Frame := [.native { method := ⟨0, 0⟩, args := #[] }]
def about1 : State := aboutOver below0
def p0 : Program := .bare "" "" ""
def e0 : Env := launch0.env 0 0 0
theorem w_frames : about1.frames = Frame.invoking theMethod args0 :: below0 := rfl
set_option maxRecDepth 65536 in
theorem w_args : argsFit about1.vm theMethod args0 = true := by decide +kernel
set_option maxRecDepth 65536 in
theorem w_heap : heapFits about1 = true := by decide +kernel
set_option maxRecDepth 65536 in
theorem w_runnable : about1.curStatus? = some .runnable := by decide +kernel
set_option maxRecDepth 65536 in
theorem w_alone : about1.alone = true := by decide +kernel
set_option maxRecDepth 65536 in
theorem w_named : about1.methodNamed? x = some theMethod := by decide +kernel
set_option maxRecDepth 65536 in
theorem w_hears : about1.hears theMethod below0 = true := by decide +kernel
set_option maxRecDepth 65536 in
theorem w_ripe : about1.ripe theMethod args0 below0 = true := by decide +kernel
theorem w_running : about1.status = .running := rfl
set_option maxRecDepth 65536 in
theorem w_room : about1.hasRoom e0.platform room_1 = true :=
  launch0.hasRoom_least _ room_1 (by decide +kernel) (by decide +kernel) (by decide +kernel) (by decide +kernel) (by decide +kernel) (by decide +kernel)
theorem allAtoms_all (ts : List Jvm.Cond) (a : Array Jvm.Value) (st : Jvm.State) : (allAtoms ts).before a st = ts.all (fun c => c.before a st) := by
  induction ts with
  | nil => rfl
  | cons c t ih =>
    show (Jvm.Cond.and c (allAtoms t)).before a st = _
    rw [Jvm.Cond.before_and, ih, List.all_cons]
def words1 : List Jvm.Cond := Jvm.Cond.code x code maxLocals ret :: tables_1
/-- a 'code' word, met by the world's own term for the bytes: nothing is compared byte by byte -/
theorem code_word {y : MethodName} {bytes : ByteArray} {mx : Nat} {rt : Option FieldType} {a : Array Value} {s : State} {m : MethodId} {meth : Method} {c : Code} (h1 : s.methodNamed? y = some m) (h2 : s.vm.method? m = some meth) (h3 : meth.code = some c) (h4 : c.code = bytes)
    (h5 : (c.maxLocals == mx && c.exceptionTable.isEmpty && decide (c.maxStack ≤ mostOperands) && decide (meth.sig.returnType = rt) && !meth.locks && decide (parseMethodDescriptor y.desc = some meth.sig)) = true) : (Jvm.Cond.code y bytes mx rt).before a s = true := by
  simp only [Bool.and_eq_true, beq_iff_eq, Bool.not_eq_true', decide_eq_true_eq] at h5
  obtain ⟨⟨⟨⟨⟨g1, g2⟩, g3⟩, g4⟩, g5⟩, g6⟩ := h5
  simp [Cond.before, Cond.holds, Cond.value, h1, h2, h3, h4, g1, g2, g3, g4, g5, g6]
def isCode : Jvm.Cond → Bool
  | .code _ _ _ _ => true
  | _ => false
theorem all_split {L : List Jvm.Cond} {P : Jvm.Cond → Bool} (h1 : L.all (fun c => isCode c || P c) = true) (h2 : ∀ c ∈ L.filter isCode, P c = true) : L.all P = true := by
  refine List.all_eq_true.mpr fun c hc => ?_
  have h := List.all_eq_true.mp h1 c hc
  rcases Bool.eq_false_or_eq_true (isCode c) with hi | hi
  · exact h2 c (List.mem_filter.mpr ⟨hc, hi⟩)
  · simpa [hi] using h
set_option maxRecDepth 65536 in
theorem w_c0 : (Jvm.Cond.code x code maxLocals ret).before args0 about1 = true := code_word (m := ⟨1, 1⟩) (meth := k1m1) (c := k1c1) (by decide +kernel) rfl rfl rfl (by decide +kernel)
set_option maxRecDepth 65536 in
theorem w_c1 : (Jvm.Cond.code ({ cls := "java/lang/Math", name := "max", desc := "(JJ)J" } : Jvm.MethodName) jdk_29_method_66_code (4 : Nat) (Option.some Jvm.ClassFile.FieldType.long)).before args0 about1 = true := code_word (m := ⟨2, 1⟩) (meth := k2m1) (c := k2c1) (by decide +kernel) rfl rfl rfl (by decide +kernel)
set_option maxRecDepth 65536 in
theorem w_c2 : (Jvm.Cond.code ({ cls := "com/example/fairgate/fairgate/processor/Order", name := "<init>", desc := "(Lcom/example/fairgate/fairgate/processor/OrderKey;Lcom/example/fairgate/fairgate/core/EntryPoint;Ljava/lang/String;Lcom/example/fairgate/fairgate/processor/Side;JJZ)V" } : Jvm.MethodName) prog_140_method_1_code (10 : Nat) (Option.none : Option Jvm.ClassFile.FieldType)).before args0 about1 = true := code_word (m := ⟨4, 0⟩) (meth := k4m0) (c := k4c0) (by decide +kernel) rfl rfl rfl (by decide +kernel)
set_option maxRecDepth 65536 in
theorem w_c3 : (Jvm.Cond.code ({ cls := "java/lang/Object", name := "<init>", desc := "()V" } : Jvm.MethodName) object_method_1_code (1 : Nat) (Option.none : Option Jvm.ClassFile.FieldType)).before args0 about1 = true := code_word (m := ⟨0, 0⟩) (meth := k0m0) (c := k0c0) (by decide +kernel) rfl rfl rfl (by decide +kernel)
set_option maxRecDepth 65536 in
theorem w_c4 : (Jvm.Cond.code ({ cls := "com/example/fairgate/fairgate/processor/Trade", name := "<init>", desc := "(JJLcom/example/fairgate/fairgate/processor/OrderKey;Lcom/example/fairgate/fairgate/processor/OrderKey;JJ)V" } : Jvm.MethodName) prog_159_method_1_code (11 : Nat) (Option.none : Option Jvm.ClassFile.FieldType)).before args0 about1 = true := code_word (m := ⟨14, 0⟩) (meth := k14m0) (c := k14c0) (by decide +kernel) rfl rfl rfl (by decide +kernel)
set_option maxRecDepth 65536 in
theorem w_c5 : (Jvm.Cond.code ({ cls := "java/lang/Record", name := "<init>", desc := "()V" } : Jvm.MethodName) jdk_30_method_1_code (1 : Nat) (Option.none : Option Jvm.ClassFile.FieldType)).before args0 about1 = true := code_word (m := ⟨13, 0⟩) (meth := k13m0) (c := k13c0) (by decide +kernel) rfl rfl rfl (by decide +kernel)
set_option maxRecDepth 65536 in
theorem w_c6 : (Jvm.Cond.code ({ cls := "com/example/fairgate/fairgate/processor/Order", name := "available", desc := "()J" } : Jvm.MethodName) prog_140_method_7_code (1 : Nat) (Option.some Jvm.ClassFile.FieldType.long)).before args0 about1 = true := code_word (m := ⟨4, 1⟩) (meth := k4m1) (c := k4c1) (by decide +kernel) rfl rfl rfl (by decide +kernel)
set_option maxRecDepth 65536 in
theorem w_c7 : (Jvm.Cond.code ({ cls := "com/example/fairgate/fairgate/processor/Order", name := "reserve", desc := "(J)V" } : Jvm.MethodName) prog_140_method_8_code (3 : Nat) (Option.none : Option Jvm.ClassFile.FieldType)).before args0 about1 = true := code_word (m := ⟨4, 2⟩) (meth := k4m2) (c := k4c2) (by decide +kernel) rfl rfl rfl (by decide +kernel)
set_option maxRecDepth 65536 in
theorem w_c8 : (Jvm.Cond.code ({ cls := "com/example/fairgate/fairgate/processor/Order", name := "fill", desc := "(Lcom/example/fairgate/fairgate/processor/Trade;)Lcom/example/fairgate/fairgate/processor/Fill;" } : Jvm.MethodName) prog_140_method_14_code (2 : Nat) (Option.some (Jvm.ClassFile.FieldType.object "com/example/fairgate/fairgate/processor/Fill"))).before args0 about1 = true := code_word (m := ⟨4, 4⟩) (meth := k4m4) (c := k4c4) (by decide +kernel) rfl rfl rfl (by decide +kernel)
set_option maxRecDepth 65536 in
theorem w_c9 : (Jvm.Cond.code ({ cls := "com/example/fairgate/fairgate/processor/Trade", name := "qty", desc := "()J" } : Jvm.MethodName) prog_159_method_10_code (1 : Nat) (Option.some Jvm.ClassFile.FieldType.long)).before args0 about1 = true := code_word (m := ⟨14, 2⟩) (meth := k14m2) (c := k14c2) (by decide +kernel) rfl rfl rfl (by decide +kernel)
set_option maxRecDepth 65536 in
theorem w_c10 : (Jvm.Cond.code ({ cls := "com/example/fairgate/fairgate/processor/Trade", name := "price", desc := "()J" } : Jvm.MethodName) prog_159_method_9_code (1 : Nat) (Option.some Jvm.ClassFile.FieldType.long)).before args0 about1 = true := code_word (m := ⟨14, 1⟩) (meth := k14m1) (c := k14c1) (by decide +kernel) rfl rfl rfl (by decide +kernel)
set_option maxRecDepth 65536 in
theorem w_c11 : (Jvm.Cond.code ({ cls := "java/math/BigInteger", name := "valueOf", desc := "(J)Ljava/math/BigInteger;" } : Jvm.MethodName) jdk_2097_method_29_code (2 : Nat) (Option.some (Jvm.ClassFile.FieldType.object "java/math/BigInteger"))).before args0 about1 = true := code_word (m := ⟨12, 0⟩) (meth := k12m0) (c := k12c0) (by decide +kernel) rfl rfl rfl (by decide +kernel)
set_option maxRecDepth 65536 in
theorem w_c12 : (Jvm.Cond.code ({ cls := "java/math/BigInteger", name := "multiply", desc := "(Ljava/math/BigInteger;)Ljava/math/BigInteger;" } : Jvm.MethodName) jdk_2097_method_40_code (2 : Nat) (Option.some (Jvm.ClassFile.FieldType.object "java/math/BigInteger"))).before args0 about1 = true := code_word (m := ⟨12, 3⟩) (meth := k12m3) (c := k12c3) (by decide +kernel) rfl rfl rfl (by decide +kernel)
set_option maxRecDepth 65536 in
theorem w_c13 : (Jvm.Cond.code ({ cls := "java/math/BigInteger", name := "multiply", desc := "(Ljava/math/BigInteger;ZZI)Ljava/math/BigInteger;" } : Jvm.MethodName) jdk_2097_method_42_code (9 : Nat) (Option.some (Jvm.ClassFile.FieldType.object "java/math/BigInteger"))).before args0 about1 = true := code_word (m := ⟨12, 4⟩) (meth := k12m4) (c := k12c4) (by decide +kernel) rfl rfl rfl (by decide +kernel)
set_option maxRecDepth 65536 in
theorem w_c14 : (Jvm.Cond.code ({ cls := "java/math/BigInteger", name := "add", desc := "(Ljava/math/BigInteger;)Ljava/math/BigInteger;" } : Jvm.MethodName) jdk_2097_method_32_code (4 : Nat) (Option.some (Jvm.ClassFile.FieldType.object "java/math/BigInteger"))).before args0 about1 = true := code_word (m := ⟨12, 2⟩) (meth := k12m2) (c := k12c2) (by decide +kernel) rfl rfl rfl (by decide +kernel)
set_option maxRecDepth 65536 in
theorem w_c15 : (Jvm.Cond.code ({ cls := "com/example/fairgate/fairgate/processor/Order", name := "cumQty", desc := "()J" } : Jvm.MethodName) prog_140_method_20_code (1 : Nat) (Option.some Jvm.ClassFile.FieldType.long)).before args0 about1 = true := code_word (m := ⟨4, 6⟩) (meth := k4m6) (c := k4c6) (by decide +kernel) rfl rfl rfl (by decide +kernel)
set_option maxRecDepth 65536 in
theorem w_c16 : (Jvm.Cond.code ({ cls := "com/example/fairgate/fairgate/processor/Order", name := "avgPrice", desc := "()J" } : Jvm.MethodName) prog_140_method_21_code (3 : Nat) (Option.some Jvm.ClassFile.FieldType.long)).before args0 about1 = true := code_word (m := ⟨4, 7⟩) (meth := k4m7) (c := k4c7) (by decide +kernel) rfl rfl rfl (by decide +kernel)
set_option maxRecDepth 65536 in
theorem w_c17 : (Jvm.Cond.code ({ cls := "java/math/BigDecimal", name := "<init>", desc := "(Ljava/math/BigInteger;)V" } : Jvm.MethodName) jdk_17_method_12_code (2 : Nat) (Option.none : Option Jvm.ClassFile.FieldType)).before args0 about1 = true := code_word (m := ⟨16, 2⟩) (meth := k16m2) (c := k16c2) (by decide +kernel) rfl rfl rfl (by decide +kernel)
set_option maxRecDepth 65536 in
theorem w_c18 : (Jvm.Cond.code ({ cls := "java/lang/Number", name := "<init>", desc := "()V" } : Jvm.MethodName) jdk_18_method_1_code (1 : Nat) (Option.none : Option Jvm.ClassFile.FieldType)).before args0 about1 = true := code_word (m := ⟨11, 0⟩) (meth := k11m0) (c := k11c0) (by decide +kernel) rfl rfl rfl (by decide +kernel)
set_option maxRecDepth 65536 in
theorem w_c19 : (Jvm.Cond.code ({ cls := "java/math/BigDecimal", name := "toStrictBigInteger", desc := "(Ljava/math/BigInteger;)Ljava/math/BigInteger;" } : Jvm.MethodName) jdk_17_method_11_code (1 : Nat) (Option.some (Jvm.ClassFile.FieldType.object "java/math/BigInteger"))).before args0 about1 = true := code_word (m := ⟨16, 1⟩) (meth := k16m1) (c := k16c1) (by decide +kernel) rfl rfl rfl (by decide +kernel)
set_option maxRecDepth 65536 in
theorem w_c20 : (Jvm.Cond.code ({ cls := "java/math/BigDecimal", name := "compactValFor", desc := "(Ljava/math/BigInteger;)J" } : Jvm.MethodName) jdk_17_method_107_code (6 : Nat) (Option.some Jvm.ClassFile.FieldType.long)).before args0 about1 = true := code_word (m := ⟨16, 9⟩) (meth := k16m9) (c := k16c9) (by decide +kernel) rfl rfl rfl (by decide +kernel)
set_option maxRecDepth 65536 in
theorem w_c21 : (Jvm.Cond.code ({ cls := "java/math/BigDecimal", name := "valueOf", desc := "(J)Ljava/math/BigDecimal;" } : Jvm.MethodName) jdk_17_method_21_code (2 : Nat) (Option.some (Jvm.ClassFile.FieldType.object "java/math/BigDecimal"))).before args0 about1 = true := code_word (m := ⟨16, 4⟩) (meth := k16m4) (c := k16c4) (by decide +kernel) rfl rfl rfl (by decide +kernel)
set_option maxRecDepth 65536 in
theorem w_c22 : (Jvm.Cond.code ({ cls := "java/math/BigDecimal", name := "divide", desc := "(Ljava/math/BigDecimal;ILjava/math/RoundingMode;)Ljava/math/BigDecimal;" } : Jvm.MethodName) jdk_17_method_34_code (4 : Nat) (Option.some (Jvm.ClassFile.FieldType.object "java/math/BigDecimal"))).before args0 about1 = true := code_word (m := ⟨16, 6⟩) (meth := k16m6) (c := k16c6) (by decide +kernel) rfl rfl rfl (by decide +kernel)
set_option maxRecDepth 65536 in
theorem w_c23 : (Jvm.Cond.code ({ cls := "java/math/BigDecimal", name := "divide", desc := "(Ljava/math/BigDecimal;II)Ljava/math/BigDecimal;" } : Jvm.MethodName) jdk_17_method_33_code (4 : Nat) (Option.some (Jvm.ClassFile.FieldType.object "java/math/BigDecimal"))).before args0 about1 = true := code_word (m := ⟨16, 5⟩) (meth := k16m5) (c := k16c5) (by decide +kernel) rfl rfl rfl (by decide +kernel)
set_option maxRecDepth 65536 in
theorem w_c24 : (Jvm.Cond.code ({ cls := "java/math/BigDecimal", name := "divide", desc := "(JIJIII)Ljava/math/BigDecimal;" } : Jvm.MethodName) jdk_17_method_166_code (13 : Nat) (Option.some (Jvm.ClassFile.FieldType.object "java/math/BigDecimal"))).before args0 about1 = true := code_word (m := ⟨16, 12⟩) (meth := k16m12) (c := k16c12) (by decide +kernel) rfl rfl rfl (by decide +kernel)
set_option maxRecDepth 65536 in
theorem w_c25 : (Jvm.Cond.code ({ cls := "java/math/BigDecimal", name := "checkScale", desc := "(JJ)I" } : Jvm.MethodName) jdk_17_method_113_code (5 : Nat) (Option.some Jvm.ClassFile.FieldType.int)).before args0 about1 = true := code_word (m := ⟨16, 10⟩) (meth := k16m10) (c := k16c10) (by decide +kernel) rfl rfl rfl (by decide +kernel)
set_option maxRecDepth 65536 in
theorem w_c26 : (Jvm.Cond.code ({ cls := "java/math/BigDecimal", name := "longMultiplyPowerTen", desc := "(JI)J" } : Jvm.MethodName) jdk_17_method_97_code (7 : Nat) (Option.some Jvm.ClassFile.FieldType.long)).before args0 about1 = true := code_word (m := ⟨16, 8⟩) (meth := k16m8) (c := k16c8) (by decide +kernel) rfl rfl rfl (by decide +kernel)
set_option maxRecDepth 65536 in
theorem w_c27 : (Jvm.Cond.code ({ cls := "java/math/BigDecimal", name := "divideAndRound", desc := "(JJIII)Ljava/math/BigDecimal;" } : Jvm.MethodName) jdk_17_method_119_code (13 : Nat) (Option.some (Jvm.ClassFile.FieldType.object "java/math/BigDecimal"))).before args0 about1 = true := code_word (m := ⟨16, 11⟩) (meth := k16m11) (c := k16c11) (by decide +kernel) rfl rfl rfl (by decide +kernel)
set_option maxRecDepth 65536 in
theorem w_c28 : (Jvm.Cond.code ({ cls := "java/math/BigDecimal", name := "valueOf", desc := "(JI)Ljava/math/BigDecimal;" } : Jvm.MethodName) jdk_17_method_20_code (3 : Nat) (Option.some (Jvm.ClassFile.FieldType.object "java/math/BigDecimal"))).before args0 about1 = true := code_word (m := ⟨16, 3⟩) (meth := k16m3) (c := k16c3) (by decide +kernel) rfl rfl rfl (by decide +kernel)
set_option maxRecDepth 65536 in
theorem w_c29 : (Jvm.Cond.code ({ cls := "java/math/BigDecimal", name := "longValueExact", desc := "()J" } : Jvm.MethodName) jdk_17_method_84_code (2 : Nat) (Option.some Jvm.ClassFile.FieldType.long)).before args0 about1 = true := code_word (m := ⟨16, 7⟩) (meth := k16m7) (c := k16c7) (by decide +kernel) rfl rfl rfl (by decide +kernel)
set_option maxRecDepth 65536 in
theorem w_c30 : (Jvm.Cond.code ({ cls := "com/example/fairgate/fairgate/processor/Fill", name := "<init>", desc := "(Lcom/example/fairgate/fairgate/processor/Trade;Lcom/example/fairgate/fairgate/processor/OrderKey;Lcom/example/fairgate/fairgate/core/EntryPoint;JJJ)V" } : Jvm.MethodName) prog_135_method_1_code (10 : Nat) (Option.none : Option Jvm.ClassFile.FieldType)).before args0 about1 = true := code_word (m := ⟨15, 0⟩) (meth := k15m0) (c := k15c0) (by decide +kernel) rfl rfl rfl (by decide +kernel)
set_option maxRecDepth 65536 in
theorem w_c31 : (Jvm.Cond.code ({ cls := "com/example/fairgate/fairgate/processor/Order", name := "free", desc := "(J)V" } : Jvm.MethodName) prog_140_method_9_code (3 : Nat) (Option.none : Option Jvm.ClassFile.FieldType)).before args0 about1 = true := code_word (m := ⟨4, 3⟩) (meth := k4m3) (c := k4c3) (by decide +kernel) rfl rfl rfl (by decide +kernel)
set_option maxRecDepth 65536 in
theorem w_c32 : (Jvm.Cond.code ({ cls := "com/example/fairgate/fairgate/processor/Order", name := "cancel", desc := "()V" } : Jvm.MethodName) prog_140_method_15_code (1 : Nat) (Option.none : Option Jvm.ClassFile.FieldType)).before args0 about1 = true := code_word (m := ⟨4, 5⟩) (meth := k4m5) (c := k4c5) (by decide +kernel) rfl rfl rfl (by decide +kernel)
set_option maxRecDepth 65536 in
theorem w_c33 : (Jvm.Cond.code ({ cls := "java/math/BigInteger", name := "<init>", desc := "(J)V" } : Jvm.MethodName) jdk_2097_method_30_code (4 : Nat) (Option.none : Option Jvm.ClassFile.FieldType)).before args0 about1 = true := code_word (m := ⟨12, 1⟩) (meth := k12m1) (c := k12c1) (by decide +kernel) rfl rfl rfl (by decide +kernel)
set_option maxRecDepth 65536 in
theorem w_c34 : (Jvm.Cond.code ({ cls := "java/math/BigDecimal", name := "<init>", desc := "(Ljava/math/BigInteger;JII)V" } : Jvm.MethodName) jdk_17_method_1_code (6 : Nat) (Option.none : Option Jvm.ClassFile.FieldType)).before args0 about1 = true := code_word (m := ⟨16, 0⟩) (meth := k16m0) (c := k16c0) (by decide +kernel) rfl rfl rfl (by decide +kernel)
def codes1 : List Jvm.Cond := [Jvm.Cond.code x code maxLocals ret, Jvm.Cond.code ({ cls := "java/lang/Math", name := "max", desc := "(JJ)J" } : Jvm.MethodName) jdk_29_method_66_code (4 : Nat) (Option.some Jvm.ClassFile.FieldType.long), Jvm.Cond.code ({ cls := "com/example/fairgate/fairgate/processor/Order", name := "<init>", desc := "(Lcom/example/fairgate/fairgate/processor/OrderKey;Lcom/example/fairgate/fairgate/core/EntryPoint;Ljava/lang/String;Lcom/example/fairgate/fairgate/processor/Side;JJZ)V" } : Jvm.MethodName) prog_140_method_1_code (10 : Nat) (Option.none : Option Jvm.ClassFile.FieldType), Jvm.Cond.code ({ cls := "java/lang/Object", name := "<init>", desc := "()V" } : Jvm.MethodName) object_method_1_code (1 : Nat) (Option.none : Option Jvm.ClassFile.FieldType), Jvm.Cond.code ({ cls := "com/example/fairgate/fairgate/processor/Trade", name := "<init>", desc := "(JJLcom/example/fairgate/fairgate/processor/OrderKey;Lcom/example/fairgate/fairgate/processor/OrderKey;JJ)V" } : Jvm.MethodName) prog_159_method_1_code (11 : Nat) (Option.none : Option Jvm.ClassFile.FieldType), Jvm.Cond.code ({ cls := "java/lang/Record", name := "<init>", desc := "()V" } : Jvm.MethodName) jdk_30_method_1_code (1 : Nat) (Option.none : Option Jvm.ClassFile.FieldType), Jvm.Cond.code ({ cls := "com/example/fairgate/fairgate/processor/Order", name := "available", desc := "()J" } : Jvm.MethodName) prog_140_method_7_code (1 : Nat) (Option.some Jvm.ClassFile.FieldType.long), Jvm.Cond.code ({ cls := "com/example/fairgate/fairgate/processor/Order", name := "reserve", desc := "(J)V" } : Jvm.MethodName) prog_140_method_8_code (3 : Nat) (Option.none : Option Jvm.ClassFile.FieldType), Jvm.Cond.code ({ cls := "com/example/fairgate/fairgate/processor/Order", name := "fill", desc := "(Lcom/example/fairgate/fairgate/processor/Trade;)Lcom/example/fairgate/fairgate/processor/Fill;" } : Jvm.MethodName) prog_140_method_14_code (2 : Nat) (Option.some (Jvm.ClassFile.FieldType.object "com/example/fairgate/fairgate/processor/Fill")), Jvm.Cond.code ({ cls := "com/example/fairgate/fairgate/processor/Trade", name := "qty", desc := "()J" } : Jvm.MethodName) prog_159_method_10_code (1 : Nat) (Option.some Jvm.ClassFile.FieldType.long), Jvm.Cond.code ({ cls := "com/example/fairgate/fairgate/processor/Trade", name := "price", desc := "()J" } : Jvm.MethodName) prog_159_method_9_code (1 : Nat) (Option.some Jvm.ClassFile.FieldType.long), Jvm.Cond.code ({ cls := "java/math/BigInteger", name := "valueOf", desc := "(J)Ljava/math/BigInteger;" } : Jvm.MethodName) jdk_2097_method_29_code (2 : Nat) (Option.some (Jvm.ClassFile.FieldType.object "java/math/BigInteger")), Jvm.Cond.code ({ cls := "java/math/BigInteger", name := "multiply", desc := "(Ljava/math/BigInteger;)Ljava/math/BigInteger;" } : Jvm.MethodName) jdk_2097_method_40_code (2 : Nat) (Option.some (Jvm.ClassFile.FieldType.object "java/math/BigInteger")), Jvm.Cond.code ({ cls := "java/math/BigInteger", name := "multiply", desc := "(Ljava/math/BigInteger;ZZI)Ljava/math/BigInteger;" } : Jvm.MethodName) jdk_2097_method_42_code (9 : Nat) (Option.some (Jvm.ClassFile.FieldType.object "java/math/BigInteger")), Jvm.Cond.code ({ cls := "java/math/BigInteger", name := "add", desc := "(Ljava/math/BigInteger;)Ljava/math/BigInteger;" } : Jvm.MethodName) jdk_2097_method_32_code (4 : Nat) (Option.some (Jvm.ClassFile.FieldType.object "java/math/BigInteger")), Jvm.Cond.code ({ cls := "com/example/fairgate/fairgate/processor/Order", name := "cumQty", desc := "()J" } : Jvm.MethodName) prog_140_method_20_code (1 : Nat) (Option.some Jvm.ClassFile.FieldType.long), Jvm.Cond.code ({ cls := "com/example/fairgate/fairgate/processor/Order", name := "avgPrice", desc := "()J" } : Jvm.MethodName) prog_140_method_21_code (3 : Nat) (Option.some Jvm.ClassFile.FieldType.long), Jvm.Cond.code ({ cls := "java/math/BigDecimal", name := "<init>", desc := "(Ljava/math/BigInteger;)V" } : Jvm.MethodName) jdk_17_method_12_code (2 : Nat) (Option.none : Option Jvm.ClassFile.FieldType), Jvm.Cond.code ({ cls := "java/lang/Number", name := "<init>", desc := "()V" } : Jvm.MethodName) jdk_18_method_1_code (1 : Nat) (Option.none : Option Jvm.ClassFile.FieldType), Jvm.Cond.code ({ cls := "java/math/BigDecimal", name := "toStrictBigInteger", desc := "(Ljava/math/BigInteger;)Ljava/math/BigInteger;" } : Jvm.MethodName) jdk_17_method_11_code (1 : Nat) (Option.some (Jvm.ClassFile.FieldType.object "java/math/BigInteger")), Jvm.Cond.code ({ cls := "java/math/BigDecimal", name := "compactValFor", desc := "(Ljava/math/BigInteger;)J" } : Jvm.MethodName) jdk_17_method_107_code (6 : Nat) (Option.some Jvm.ClassFile.FieldType.long), Jvm.Cond.code ({ cls := "java/math/BigDecimal", name := "valueOf", desc := "(J)Ljava/math/BigDecimal;" } : Jvm.MethodName) jdk_17_method_21_code (2 : Nat) (Option.some (Jvm.ClassFile.FieldType.object "java/math/BigDecimal")), Jvm.Cond.code ({ cls := "java/math/BigDecimal", name := "divide", desc := "(Ljava/math/BigDecimal;ILjava/math/RoundingMode;)Ljava/math/BigDecimal;" } : Jvm.MethodName) jdk_17_method_34_code (4 : Nat) (Option.some (Jvm.ClassFile.FieldType.object "java/math/BigDecimal")), Jvm.Cond.code ({ cls := "java/math/BigDecimal", name := "divide", desc := "(Ljava/math/BigDecimal;II)Ljava/math/BigDecimal;" } : Jvm.MethodName) jdk_17_method_33_code (4 : Nat) (Option.some (Jvm.ClassFile.FieldType.object "java/math/BigDecimal")), Jvm.Cond.code ({ cls := "java/math/BigDecimal", name := "divide", desc := "(JIJIII)Ljava/math/BigDecimal;" } : Jvm.MethodName) jdk_17_method_166_code (13 : Nat) (Option.some (Jvm.ClassFile.FieldType.object "java/math/BigDecimal")), Jvm.Cond.code ({ cls := "java/math/BigDecimal", name := "checkScale", desc := "(JJ)I" } : Jvm.MethodName) jdk_17_method_113_code (5 : Nat) (Option.some Jvm.ClassFile.FieldType.int), Jvm.Cond.code ({ cls := "java/math/BigDecimal", name := "longMultiplyPowerTen", desc := "(JI)J" } : Jvm.MethodName) jdk_17_method_97_code (7 : Nat) (Option.some Jvm.ClassFile.FieldType.long), Jvm.Cond.code ({ cls := "java/math/BigDecimal", name := "divideAndRound", desc := "(JJIII)Ljava/math/BigDecimal;" } : Jvm.MethodName) jdk_17_method_119_code (13 : Nat) (Option.some (Jvm.ClassFile.FieldType.object "java/math/BigDecimal")), Jvm.Cond.code ({ cls := "java/math/BigDecimal", name := "valueOf", desc := "(JI)Ljava/math/BigDecimal;" } : Jvm.MethodName) jdk_17_method_20_code (3 : Nat) (Option.some (Jvm.ClassFile.FieldType.object "java/math/BigDecimal")), Jvm.Cond.code ({ cls := "java/math/BigDecimal", name := "longValueExact", desc := "()J" } : Jvm.MethodName) jdk_17_method_84_code (2 : Nat) (Option.some Jvm.ClassFile.FieldType.long), Jvm.Cond.code ({ cls := "com/example/fairgate/fairgate/processor/Fill", name := "<init>", desc := "(Lcom/example/fairgate/fairgate/processor/Trade;Lcom/example/fairgate/fairgate/processor/OrderKey;Lcom/example/fairgate/fairgate/core/EntryPoint;JJJ)V" } : Jvm.MethodName) prog_135_method_1_code (10 : Nat) (Option.none : Option Jvm.ClassFile.FieldType), Jvm.Cond.code ({ cls := "com/example/fairgate/fairgate/processor/Order", name := "free", desc := "(J)V" } : Jvm.MethodName) prog_140_method_9_code (3 : Nat) (Option.none : Option Jvm.ClassFile.FieldType), Jvm.Cond.code ({ cls := "com/example/fairgate/fairgate/processor/Order", name := "cancel", desc := "()V" } : Jvm.MethodName) prog_140_method_15_code (1 : Nat) (Option.none : Option Jvm.ClassFile.FieldType), Jvm.Cond.code ({ cls := "java/math/BigInteger", name := "<init>", desc := "(J)V" } : Jvm.MethodName) jdk_2097_method_30_code (4 : Nat) (Option.none : Option Jvm.ClassFile.FieldType), Jvm.Cond.code ({ cls := "java/math/BigDecimal", name := "<init>", desc := "(Ljava/math/BigInteger;JII)V" } : Jvm.MethodName) jdk_17_method_1_code (6 : Nat) (Option.none : Option Jvm.ClassFile.FieldType)]
set_option maxRecDepth 65536 in
theorem codes_eq : words1.filter isCode = codes1 := rfl
theorem w_codes : ∀ c ∈ words1.filter isCode, c.before args0 about1 = true := by
  rw [codes_eq]
  intro c hc
  simp only [codes1, List.mem_cons, List.not_mem_nil, or_false] at hc
  rcases hc with rfl | rfl | rfl | rfl | rfl | rfl | rfl | rfl | rfl | rfl | rfl | rfl | rfl | rfl | rfl | rfl | rfl | rfl | rfl | rfl | rfl | rfl | rfl | rfl | rfl | rfl | rfl | rfl | rfl | rfl | rfl | rfl | rfl | rfl | rfl
  · exact w_c0
  · exact w_c1
  · exact w_c2
  · exact w_c3
  · exact w_c4
  · exact w_c5
  · exact w_c6
  · exact w_c7
  · exact w_c8
  · exact w_c9
  · exact w_c10
  · exact w_c11
  · exact w_c12
  · exact w_c13
  · exact w_c14
  · exact w_c15
  · exact w_c16
  · exact w_c17
  · exact w_c18
  · exact w_c19
  · exact w_c20
  · exact w_c21
  · exact w_c22
  · exact w_c23
  · exact w_c24
  · exact w_c25
  · exact w_c26
  · exact w_c27
  · exact w_c28
  · exact w_c29
  · exact w_c30
  · exact w_c31
  · exact w_c32
  · exact w_c33
  · exact w_c34
set_option maxRecDepth 65536 in
theorem w_t1 : (words1.take 24).all (fun c => isCode c || c.before args0 about1) = true := by decide +kernel
set_option maxRecDepth 65536 in
theorem w_t2 : ((words1.drop 24).take 24).all (fun c => isCode c || c.before args0 about1) = true := by decide +kernel
set_option maxRecDepth 65536 in
theorem w_t3 : (((words1.drop 24).drop 24).take 24).all (fun c => isCode c || c.before args0 about1) = true := by decide +kernel
set_option maxRecDepth 65536 in
theorem w_t4 : ((((words1.drop 24).drop 24).drop 24).take 24).all (fun c => isCode c || c.before args0 about1) = true := by decide +kernel
set_option maxRecDepth 65536 in
theorem w_t5 : (((((words1.drop 24).drop 24).drop 24).drop 24).take 24).all (fun c => isCode c || c.before args0 about1) = true := by decide +kernel
set_option maxRecDepth 65536 in
theorem w_t6 : ((((((words1.drop 24).drop 24).drop 24).drop 24).drop 24).take 24).all (fun c => isCode c || c.before args0 about1) = true := by decide +kernel
set_option maxRecDepth 65536 in
theorem w_t7 : (((((((words1.drop 24).drop 24).drop 24).drop 24).drop 24).drop 24).take 24).all (fun c => isCode c || c.before args0 about1) = true := by decide +kernel
set_option maxRecDepth 65536 in
theorem w_t8 : ((((((((words1.drop 24).drop 24).drop 24).drop 24).drop 24).drop 24).drop 24).take 24).all (fun c => isCode c || c.before args0 about1) = true := by decide +kernel
set_option maxRecDepth 65536 in
theorem w_t9 : (((((((((words1.drop 24).drop 24).drop 24).drop 24).drop 24).drop 24).drop 24).drop 24).take 24).all (fun c => isCode c || c.before args0 about1) = true := by decide +kernel
set_option maxRecDepth 65536 in
theorem w_t10 : ((((((((((words1.drop 24).drop 24).drop 24).drop 24).drop 24).drop 24).drop 24).drop 24).drop 24).take 24).all (fun c => isCode c || c.before args0 about1) = true := by decide +kernel
set_option maxRecDepth 65536 in
theorem w_t11 : ((((((((((words1.drop 24).drop 24).drop 24).drop 24).drop 24).drop 24).drop 24).drop 24).drop 24).drop 24).all (fun c => isCode c || c.before args0 about1) = true := by decide +kernel
theorem w_tables : (allAtoms (Jvm.Cond.code x code maxLocals ret :: tables_1)).before args0 about1 = true := by
  rw [allAtoms_all]
  show words1.all (fun c => c.before args0 about1) = true
  refine all_split ?_ w_codes
  rw [← List.take_append_drop 24 words1, List.all_append, w_t1, ← List.take_append_drop 24 (words1.drop 24), List.all_append, w_t2, ← List.take_append_drop 24 ((words1.drop 24).drop 24), List.all_append, w_t3, ← List.take_append_drop 24 (((words1.drop 24).drop 24).drop 24), List.all_append, w_t4, ← List.take_append_drop 24 ((((words1.drop 24).drop 24).drop 24).drop 24), List.all_append, w_t5, ← List.take_append_drop 24 (((((words1.drop 24).drop 24).drop 24).drop 24).drop 24), List.all_append, w_t6, ← List.take_append_drop 24 ((((((words1.drop 24).drop 24).drop 24).drop 24).drop 24).drop 24), List.all_append, w_t7, ← List.take_append_drop 24 (((((((words1.drop 24).drop 24).drop 24).drop 24).drop 24).drop 24).drop 24), List.all_append, w_t8, ← List.take_append_drop 24 ((((((((words1.drop 24).drop 24).drop 24).drop 24).drop 24).drop 24).drop 24).drop 24), List.all_append, w_t9, ← List.take_append_drop 24 (((((((((words1.drop 24).drop 24).drop 24).drop 24).drop 24).drop 24).drop 24).drop 24).drop 24), List.all_append, w_t10, w_t11]
  rfl
set_option maxRecDepth 65536 in
theorem w_rest : rest_1_c.before args0 about1 = true := by decide +kernel
set_option maxRecDepth 65536 in
theorem w_case : (Jvm.Cond.and given_1 narrow_1).before args0 about1 = true := by decide +kernel
theorem w_applies : (headSpec (Jvm.Cond.code x code maxLocals ret :: tables_1) room_1).applies x e0.platform about1 = true :=
  (Spec.applies_iff w_frames).mpr ⟨w_running, w_runnable, w_alone, w_named, w_hears, w_ripe, w_room, w_tables⟩
theorem atStart : AtStart classFile x code maxLocals ret World_1 tables_1 room_1 Calls_1 rest_1 Pre_1 launch0 p0 e0 about1 theMethod args0 below0 :=
  ⟨lists_1, trivial, launch0.admits_env _ _ _, launch0.least_env, fairChoices_fair.cas, fairChoices_fair.clock, w_frames, w_args, w_heap, w_applies, ⟨⟨12, k12, 3, by decide +kernel, rfl, rfl, _, rfl, rfl⟩, trivial⟩, w_rest, w_case⟩
end start1
theorem witness_1 : WitnessClaimed_1 := ⟨start1.p0, start1.e0, start1.about1, start1.theMethod, start1.args0, start1.below0, start1.atStart⟩
end Jvm.Pilot.@@N@@
