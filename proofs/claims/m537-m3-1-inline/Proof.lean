import JvmDerived
import JvmDerived.Pilot.@@N@@Statement
import JvmDerived.Pilot.@@N@@Code
@@BLOCK:LamKit.lean.txt@@
set_option linter.unusedVariables false
set_option linter.unusedSimpArgs false
namespace Jvm.Pilot.@@N@@
open Jvm Jvm.ClassFile Sem Op Lib Jvm.Free Jvm.Stand Jvm.LawKit Jvm.RoadKit Bundle Jvm.Pilot.@@N@@.Jvm.D
section Own
variable {p : Program} {l : Launch} {e : Env} {R : Room} {s : State} {m : MethodId} {args : Array Value} {below : List Frame} {meth : Method} {c : Code} {T : State} {locs : List Loc} {cells slots : Nat}
/-- from S the run comes to an end that E tells -/
def OwnG (p : Program) (e : Env) (below : List Frame) (E : Outcome → State → Prop) (S : State) : Prop :=
  ∃ s₂ o, Steps p.tables e below S s₂ ∧ s₂.status = .running ∧ Ended s₂ below o ∧ E o s₂
/-- it returned, Q holds of the value and the heap, and the frame is k new cells of n slots -/
def OwnE (s : State) (Q : Option Value → Heap → List Loc → Prop) (k n : Nat) (o : Outcome) (U : State) : Prop :=
  ∃ v L, o = .returned v ∧ Q v U.heap L ∧ FrameEnd s o U L k n
theorem own_by {E : Outcome → State → Prop} {S S' : State} (h : ∀ t, Steps p.tables e below S' t → Steps p.tables e below S t) (g : OwnG p e below E S') : OwnG p e below E S := by
  obtain ⟨s2, o, h1, r⟩ := g
  exact ⟨s2, o, h _ h1, r⟩
theorem own_ret (X : Stand p l e R s m args below meth c T locs cells slots) (hx : p.tables.exec = Jvm.exec) {pc : Nat} {Ls : Array Slot} {w : Value} {t : FieldType} {i : Instr} {rest : List Value} (hret : meth.sig.returnType = some t) (hn : narrow t w = w)
    (hi : (i = .ireturn ∧ (t = .int ∨ t = .boolean ∨ t = .byte ∨ t = .char ∨ t = .short) ∧ ∃ z, w = .int z) ∨ (i = .lreturn ∧ t = .long ∧ ∃ z, w = .long z) ∨ (i = .dreturn ∧ t = .double ∧ ∃ z, w = .double z) ∨ (i = .freturn ∧ t = .float ∧ ∃ z, w = .float z) ∨ (i = .areturn ∧ t.isReference = true ∧ w.isRef = true))
    (hd : decode c.code pc = .ok (i, 1)) (hlk : meth.locks = false) {Q : Option Value → Heap → List Loc → Prop} {k n : Nat} (hk : cells ≤ k) (hs : slots ≤ n) (hQ : Q (some w) T.heap locs) : OwnG p e below (OwnE s Q k n) (T.setTop (mkF m pc Ls (w :: rest))) := by
  obtain ⟨fs, hr, hrun, hended, hW, hsame⟩ := X.leave (v := some w) (fun h => by rw [hret] at h; cases h) hlk
  exact ⟨_, _, retOut X hx hret hn hi hd hr, hrun, hended, _, _, rfl, hQ, ⟨_, rfl⟩, hW, hsame.mono hk hs⟩
theorem own_retI (X : Stand p l e R s m args below meth c T locs cells slots) (hx : p.tables.exec = Jvm.exec) {pc : Nat} {Ls : Array Slot} {z : Int32} {t : FieldType} {rest : List Value} (hret : meth.sig.returnType = some t) (ht : t = .int ∨ t = .boolean ∨ t = .byte ∨ t = .char ∨ t = .short) (hn : narrow t (.int z) = .int z)
    (hd : decode c.code pc = .ok (.ireturn, 1)) (hlk : meth.locks = false) {Q : Option Value → Heap → List Loc → Prop} {k n : Nat} (hk : cells ≤ k) (hs : slots ≤ n) (hQ : Q (some (.int z)) T.heap locs) : OwnG p e below (OwnE s Q k n) (T.setTop (mkF m pc Ls (.int z :: rest))) :=
  own_ret X hx hret hn (Or.inl ⟨rfl, ht, _, rfl⟩) hd hlk hk hs hQ
theorem own_retL (X : Stand p l e R s m args below meth c T locs cells slots) (hx : p.tables.exec = Jvm.exec) {pc : Nat} {Ls : Array Slot} {z : Int64} {rest : List Value} (hret : meth.sig.returnType = some .long)
    (hd : decode c.code pc = .ok (.lreturn, 1)) (hlk : meth.locks = false) {Q : Option Value → Heap → List Loc → Prop} {k n : Nat} (hk : cells ≤ k) (hs : slots ≤ n) (hQ : Q (some (.long z)) T.heap locs) : OwnG p e below (OwnE s Q k n) (T.setTop (mkF m pc Ls (.long z :: rest))) :=
  own_ret X hx hret rfl (Or.inr (Or.inl ⟨rfl, rfl, _, rfl⟩)) hd hlk hk hs hQ
theorem own_retD (X : Stand p l e R s m args below meth c T locs cells slots) (hx : p.tables.exec = Jvm.exec) {pc : Nat} {Ls : Array Slot} {z : UInt64} {rest : List Value} (hret : meth.sig.returnType = some .double)
    (hd : decode c.code pc = .ok (.dreturn, 1)) (hlk : meth.locks = false) {Q : Option Value → Heap → List Loc → Prop} {k n : Nat} (hk : cells ≤ k) (hs : slots ≤ n) (hQ : Q (some (.double z)) T.heap locs) : OwnG p e below (OwnE s Q k n) (T.setTop (mkF m pc Ls (.double z :: rest))) :=
  own_ret X hx hret rfl (Or.inr (Or.inr (Or.inl ⟨rfl, rfl, _, rfl⟩))) hd hlk hk hs hQ
theorem own_narR {t : FieldType} (ht : t.isReference = true) {w : Value} (hw : w.isRef = true) : narrow t w = w := by
  cases t <;> cases w <;> first | rfl | (simp [FieldType.isReference] at ht; done) | (simp [Value.isRef] at hw; done)
theorem own_retA (X : Stand p l e R s m args below meth c T locs cells slots) (hx : p.tables.exec = Jvm.exec) {pc : Nat} {Ls : Array Slot} {w : Value} {t : FieldType} {rest : List Value} (hret : meth.sig.returnType = some t) (ht : t.isReference = true) (hw : w.isRef = true)
    (hd : decode c.code pc = .ok (.areturn, 1)) (hlk : meth.locks = false) {Q : Option Value → Heap → List Loc → Prop} {k n : Nat} (hk : cells ≤ k) (hs : slots ≤ n) (hQ : Q (some w) T.heap locs) : OwnG p e below (OwnE s Q k n) (T.setTop (mkF m pc Ls (w :: rest))) :=
  own_ret X hx hret (own_narR ht hw) (Or.inr (Or.inr (Or.inr (Or.inr ⟨rfl, ht, hw⟩)))) hd hlk hk hs hQ
theorem own_ret0 (X : Stand p l e R s m args below meth c T locs cells slots) (hx : p.tables.exec = Jvm.exec) {pc : Nat} {Ls : Array Slot} (hret : meth.sig.returnType = none)
    (hd : decode c.code pc = .ok (.return_, 1)) (hlk : meth.locks = false) {Q : Option Value → Heap → List Loc → Prop} {k n : Nat} (hk : cells ≤ k) (hs : slots ≤ n) (hQ : Q none T.heap locs) : OwnG p e below (OwnE s Q k n) (T.setTop (mkF m pc Ls [])) := by
  obtain ⟨fs, hr, hrun, hended, hW, hsame⟩ := X.leave (v := none) (fun _ => rfl) hlk
  exact ⟨_, _, X.returnOut hx hret hd hr, hrun, hended, _, _, rfl, hQ, ⟨_, rfl⟩, hW, hsame.mono hk hs⟩
/-- the same, where the walk may have interned -/
def OwnEW (s : State) (Q : Option Value → Heap → List Loc → Prop) (k n : Nat) (o : Outcome) (U : State) : Prop :=
  ∃ v L, o = .returned v ∧ Q v U.heap L ∧ ReturnedEndW s o U L k n
theorem own_endW {s U : State} {o : Outcome} {L : List Loc} {k n k' n' : Nat} (h : ReturnedEndW s o U L k n) (hk : k ≤ k') (hn : n ≤ n') : ReturnedEndW s o U L k' n' := ⟨h.1, h.2.1, h.2.2.1, h.2.2.2.mono hk hn⟩
theorem own_retW {vm₁ : Vm} (X : Stand p l e R (s.setVm vm₁) m args below meth c T locs cells slots) {n1 : Nat} (hS : s.Since vm₁ n1) (hn1 : n1 ≤ T.heap.size) (hx : p.tables.exec = Jvm.exec) {pc : Nat} {Ls : Array Slot} {w : Value} {t : FieldType} {i : Instr} {rest : List Value} (hret : meth.sig.returnType = some t) (hn : narrow t w = w)
    (hi : (i = .ireturn ∧ (t = .int ∨ t = .boolean ∨ t = .byte ∨ t = .char ∨ t = .short) ∧ ∃ z, w = .int z) ∨ (i = .lreturn ∧ t = .long ∧ ∃ z, w = .long z) ∨ (i = .dreturn ∧ t = .double ∧ ∃ z, w = .double z) ∨ (i = .freturn ∧ t = .float ∧ ∃ z, w = .float z) ∨ (i = .areturn ∧ t.isReference = true ∧ w.isRef = true))
    (hd : decode c.code pc = .ok (i, 1)) (hlk : meth.locks = false) {Q : Option Value → Heap → List Loc → Prop} {k n : Nat} (hk : cells ≤ k) (hs : slots ≤ n) (hQ : Q (some w) T.heap locs) : OwnG p e below (OwnEW s Q k n) (T.setTop (mkF m pc Ls (w :: rest))) := by
  obtain ⟨fs, hr, hrun, hended, hE⟩ := X.leaveW hS hn1 (v := some w) (fun h => by rw [hret] at h; cases h) hlk
  exact ⟨_, _, retOut X hx hret hn hi hd hr, hrun, hended, _, _, rfl, hQ, own_endW hE hk hs⟩
theorem own_retWI {vm₁ : Vm} (X : Stand p l e R (s.setVm vm₁) m args below meth c T locs cells slots) {n1 : Nat} (hS : s.Since vm₁ n1) (hn1 : n1 ≤ T.heap.size) (hx : p.tables.exec = Jvm.exec) {pc : Nat} {Ls : Array Slot} {z : Int32} {t : FieldType} {rest : List Value} (hret : meth.sig.returnType = some t) (ht : t = .int ∨ t = .boolean ∨ t = .byte ∨ t = .char ∨ t = .short) (hn : narrow t (.int z) = .int z)
    (hd : decode c.code pc = .ok (.ireturn, 1)) (hlk : meth.locks = false) {Q : Option Value → Heap → List Loc → Prop} {k n : Nat} (hk : cells ≤ k) (hs : slots ≤ n) (hQ : Q (some (.int z)) T.heap locs) : OwnG p e below (OwnEW s Q k n) (T.setTop (mkF m pc Ls (.int z :: rest))) :=
  own_retW X hS hn1 hx hret hn (Or.inl ⟨rfl, ht, _, rfl⟩) hd hlk hk hs hQ
theorem own_retWA {vm₁ : Vm} (X : Stand p l e R (s.setVm vm₁) m args below meth c T locs cells slots) {n1 : Nat} (hS : s.Since vm₁ n1) (hn1 : n1 ≤ T.heap.size) (hx : p.tables.exec = Jvm.exec) {pc : Nat} {Ls : Array Slot} {w : Value} {t : FieldType} {rest : List Value} (hret : meth.sig.returnType = some t) (ht : t.isReference = true) (hw : w.isRef = true)
    (hd : decode c.code pc = .ok (.areturn, 1)) (hlk : meth.locks = false) {Q : Option Value → Heap → List Loc → Prop} {k n : Nat} (hk : cells ≤ k) (hs : slots ≤ n) (hQ : Q (some w) T.heap locs) : OwnG p e below (OwnEW s Q k n) (T.setTop (mkF m pc Ls (w :: rest))) :=
  own_retW X hS hn1 hx hret (own_narR ht hw) (Or.inr (Or.inr (Or.inr (Or.inr ⟨rfl, ht, hw⟩)))) hd hlk hk hs hQ
theorem own_retW0 {vm₁ : Vm} (X : Stand p l e R (s.setVm vm₁) m args below meth c T locs cells slots) {n1 : Nat} (hS : s.Since vm₁ n1) (hn1 : n1 ≤ T.heap.size) (hx : p.tables.exec = Jvm.exec) {pc : Nat} {Ls : Array Slot} (hret : meth.sig.returnType = none)
    (hd : decode c.code pc = .ok (.return_, 1)) (hlk : meth.locks = false) {Q : Option Value → Heap → List Loc → Prop} {k n : Nat} (hk : cells ≤ k) (hs : slots ≤ n) (hQ : Q none T.heap locs) : OwnG p e below (OwnEW s Q k n) (T.setTop (mkF m pc Ls [])) := by
  obtain ⟨fs, hr, hrun, hended, hE⟩ := X.leaveW hS hn1 (v := none) (fun _ => rfl) hlk
  exact ⟨_, _, X.returnOut hx hret hd hr, hrun, hended, _, _, rfl, hQ, own_endW hE hk hs⟩
theorem own_ext0 {h h' : Heap} (K : Keep h h' []) : Ext h h' := ⟨K.1, fun a c q => K.2.1 a c q (by simp)⟩
theorem own_staK {Z : State} {h h' : Heap} {C n d : String} {v : Value} {ws : List Addr} (S : Sta Z h C n d v) (K : Keep h h' ws) (q : ∀ x ∈ ws, ∃ c : Cell, h[x]? = some c ∧ c.vm.isStatics = false) : Sta Z h' C n d v := by
  obtain ⟨cf, i, k, f, st, cell, h1, h2, h3, h4, h5, h6, h7⟩ := S
  refine ⟨cf, i, k, f, st, cell, h1, h2, h3, h4, K.2.1 st cell h5 (fun hm => ?_), h6, h7⟩
  obtain ⟨c, c1, c2⟩ := q st hm
  rw [h5] at c1
  cases c1
  rw [h6] at c2
  cases c2
theorem own_plain {Z : State} {h : Heap} {a : Addr} {C : String} (E : Exa Z h a C) : ∃ c : Cell, h[a]? = some c ∧ c.vm.isStatics = false := by
  obtain ⟨c, k, h1, h2, h3, h4, h5⟩ := E
  exact ⟨c, h1, h4⟩
theorem own_arrK {Z : State} {h h' : Heap} {a : Addr} {c : Cell} {ty : FieldType} {ws : List Addr} (A : Arr Z h a c ty) (K : Keep h h' ws) (q : a ∉ ws) : Arr Z h' a c ty := ⟨K.2.1 a c A.1 q, A.2⟩
/-- the array at a, of the class k, holds just vs -/
def OwnA (Z : State) (h : Heap) (a : Addr) (k : ClassId) (ty : FieldType) (vs : List Value) : Prop := ∃ c : Cell, Arr Z h a c ty ∧ c.cls = k ∧ c.slots.toList = vs
theorem OwnA.lt {Z : State} {h : Heap} {a : Addr} {k : ClassId} {ty : FieldType} {vs : List Value} (F : OwnA Z h a k ty vs) : a < h.size := by obtain ⟨c, A, -⟩ := F; exact A.lt
theorem OwnA.ext {Z : State} {h h' : Heap} {a : Addr} {k : ClassId} {ty : FieldType} {vs : List Value} (F : OwnA Z h a k ty vs) (E : Ext h h') : OwnA Z h' a k ty vs := by obtain ⟨c, A, r⟩ := F; exact ⟨c, A.ext E, r⟩
theorem OwnA.other {Z : State} {h h' : Heap} {a b : Addr} {k : ClassId} {ty : FieldType} {vs : List Value} {sl : Nat} {v : Value} (F : OwnA Z h a k ty vs) (W : Wr h h' b sl v) (q : a ≠ b) : OwnA Z h' a k ty vs := by obtain ⟨c, A, r⟩ := F; exact ⟨c, A.other W q, r⟩
theorem OwnA.keep {Z : State} {h h' : Heap} {a : Addr} {k : ClassId} {ty : FieldType} {vs : List Value} {ws : List Addr} (F : OwnA Z h a k ty vs) (K : Keep h h' ws) (q : a ∉ ws) : OwnA Z h' a k ty vs := by obtain ⟨c, A, r⟩ := F; exact ⟨c, own_arrK A K q, r⟩
theorem OwnA.new {Z : State} {h : Heap} {a : Addr} {k : ClassId} {ty : FieldType} {z : Int32} (A : Arr Z h a (newA k ty z) ty) : OwnA Z h a k ty (List.replicate z.toNatClampNeg (defaultValue ty)) := ⟨_, A, rfl, by simp [newA]⟩
theorem OwnA.set {Z : State} {h h' : Heap} {a : Addr} {k : ClassId} {ty : FieldType} {vs : List Value} {j : Nat} {v : Value} (F : OwnA Z h a k ty vs) (W : Wr h h' a j v) : OwnA Z h' a k ty (vs.set j v) := by
  obtain ⟨c, A, r1, r2⟩ := F
  refine ⟨_, A.same W, r1, ?_⟩
  rw [← r2]
  simp [Cell.setSlot]
theorem OwnA.inb {c : Cell} {vs : List Value} {j : Int32} (H : c.slots.toList = vs) (h1 : ¬ j < 0) (h2 : j.toNatClampNeg < vs.length) : ¬ (j < 0 ∨ c.slots.size ≤ j.toNatClampNeg) := by
  rintro (q | q)
  · exact h1 q
  · rw [← H, Array.length_toList] at h2; omega
theorem OwnA.at {c : Cell} {vs : List Value} {j : Int32} {v : Value} (H : c.slots.toList = vs) (h : vs[j.toNatClampNeg]? = some v) : c.slots[j.toNatClampNeg]? = some v := by
  rw [← H] at h; simpa using h
theorem OwnA.size {c : Cell} {vs : List Value} {z : Int32} (H : c.slots.toList = vs) (h : vs.length = z.toNatClampNeg) : c.slots.size = z.toNatClampNeg := by
  rw [← h, ← H, Array.length_toList]
theorem OwnA.ofArv {Z : State} {h : Heap} {a : Addr} {k : ClassId} {ty : FieldType} {z : Int32} {vs : List Value} {d : Value} (F : Arv Z h a k ty z vs d) (hl : z.toNatClampNeg = vs.length) : OwnA Z h a k ty vs := by
  obtain ⟨c, A, r1, r2, r3, r4, r5⟩ := F
  refine ⟨c, A, r1, ?_⟩
  apply List.ext_getElem?
  intro i
  by_cases hi : i < c.slots.size
  · have q := r4 i hi
    rw [Array.getElem?_toList, q, List.getD_eq_getElem?_getD]
    rw [r2, hl] at hi
    rw [List.getElem?_eq_getElem hi]; rfl
  · rw [Array.getElem?_toList, Array.getElem?_eq_none (by omega), List.getElem?_eq_none (by omega)]
theorem OwnA.one {Z : State} {h : Heap} {a : Addr} {k k' : ClassId} {ty ty' : FieldType} {vs vs' : List Value} (F : OwnA Z h a k ty vs) (G : OwnA Z h a k' ty' vs') : vs = vs' := by
  obtain ⟨c, A, -, r⟩ := F
  obtain ⟨c', A', -, r'⟩ := G
  have q := A.1.symm.trans A'.1
  cases q
  rw [← r, ← r']
theorem own_fldOne {Z : State} {h : Heap} {a : Addr} {C n d : String} {v w : Value} (F : Fld Z h a C n d v) (G : Fld Z h a C n d w) : v = w := by
  obtain ⟨c, cf, k, i, f, h1, h2, h3, h4, h5, h6, h7⟩ := F
  obtain ⟨c', cf', k', i', f', g1, g2, g3, g4, g5, g6, g7⟩ := G
  have q := h1.symm.trans g1
  cases q
  have q := h2.symm.trans g2
  cases q
  have q := h7.symm.trans g7
  cases q
  rfl
theorem own_decl {Z : State} {a0 : Array Value} {y : MethodName} {b : ByteArray} {ml : Nat} {rt : Option FieldType} (hi : (Jvm.Cond.instanceMethod y).before a0 Z = true) (hc : (Jvm.Cond.code y b ml rt).before a0 Z = true) : (Jvm.Cond.declares y).before a0 Z = true := by
  obtain ⟨mk, methM, hnamed, hmethM, hstM, habM⟩ := Cond.instanceMethod_spec hi
  obtain ⟨m2, cM, q1, -, -, -, -, -, -, hsig⟩ := Cond.code_spec hnamed hc
  cases hmethM.symm.trans q1
  simp [Cond.before, Cond.holds, Cond.value, hnamed, hmethM, hstM, hsig]
theorem own_selp {Z : State} {a0 : Array Value} {C : String} {y y' : MethodName} (h' : (Jvm.Cond.selects C y' y').before a0 Z = true) (hc : y'.cls = y.cls) (hp : (Jvm.Cond.privateMethod y).before a0 Z = true) (hi : (Jvm.Cond.instanceMethod y).before a0 Z = true) (hy : y.cls ≠ "java/lang/invoke/MethodHandle" ∧ y.cls ≠ "java/lang/invoke/VarHandle") : (Jvm.Cond.selects y.cls y y).before a0 Z = true := by
  obtain ⟨c2, r2, m2, q1, q2, q3, q4, kP, hkP, hkPi⟩ := Cond.selects_spec h'
  exact selects_self_of_private (c := m2.cls) (by rw [← hc]; exact findClass_of_methodNamed q3) hkP hkPi (Cond.privateMethod_at hp) hi hy
theorem own_plainA {Z : State} {h : Heap} {a : Addr} {k : ClassId} {ty : FieldType} {vs : List Value} (F : OwnA Z h a k ty vs) : ∃ c : Cell, h[a]? = some c ∧ c.vm.isStatics = false := by
  obtain ⟨c, A, -⟩ := F
  exact ⟨c, A.1, A.plain⟩
theorem own_eqI {args : Array Value} {s : State} {u : Term} {k : Int32} (h : (Jvm.Cond.eq u (.int k)).value args s none s [] = some true) : u.eval args s none [] s = some (.int k) := by
  cases hv : u.eval args s none [] s with
  | none => simp [Cond.value, hv] at h
  | some v => cases v <;> simp [Cond.value, Term.eval, hv] at h ⊢ <;> exact h
theorem own_eqL {args : Array Value} {s : State} {u : Term} {k : Int64} (h : (Jvm.Cond.eq u (.long k)).value args s none s [] = some true) : u.eval args s none [] s = some (.long k) := by
  cases hv : u.eval args s none [] s with
  | none => simp [Cond.value, hv] at h
  | some v => cases v <;> simp [Cond.value, Term.eval, hv] at h ⊢ <;> exact h
theorem own_size {args : Array Value} {s : State} {u : Term} {a : Addr} {cl : Cell} {ty : FieldType} {k : Int32} (ev : u.eval args s none [] s = some (.ref a)) (A : Arr s s.heap a cl ty) (h : (Jvm.Cond.eq (.length u) (.int k)).value args s none s [] = some true) : cl.slots.size = k.toNatClampNeg := by
  have h1 := own_eqI h
  have h2 : s.arrayAt? a = some cl := A.fin (Vm.Alike.refl _)
  simp only [Term.eval, ev, h2, Option.bind_eq_bind, Option.bind_some] at h1
  split at h1
  · rename_i hl
    have h3 : cl.slots.size.toInt32 = k := by simpa using h1
    rw [← h3]
    have := len_toInt hl
    rw [Int32.toNatClampNeg, this]; rfl
  · simp at h1
theorem own_elL {args : Array Value} {s : State} {u : Term} {a : Addr} {cl : Cell} {ty : FieldType} {j : Int32} {k : Int64} (ev : u.eval args s none [] s = some (.ref a)) (A : Arr s s.heap a cl ty) (h : (Jvm.Cond.eq (.elem u (.int j)) (.long k)).value args s none s [] = some true) : cl.slots[j.toNatClampNeg]? = some (.long k) :=
  (elem_in (own_eqL h) ev (Term.int_eval _) A.1).2
theorem own_elI {args : Array Value} {s : State} {u : Term} {a : Addr} {cl : Cell} {ty : FieldType} {j k : Int32} (ev : u.eval args s none [] s = some (.ref a)) (A : Arr s s.heap a cl ty) (h : (Jvm.Cond.eq (.elem u (.int j)) (.int k)).value args s none s [] = some true) : cl.slots[j.toNatClampNeg]? = some (.int k) :=
  (elem_in (own_eqI h) ev (Term.int_eval _) A.1).2
theorem own_ne {args : Array Value} {s : State} {u : Term} {z k : Int32} (ev : u.eval args s none [] s = some (.int z)) (h : (Jvm.Cond.not (Jvm.Cond.eq u (.int k))).value args s none s [] = some true) : ¬ z = k := by
  have h2 := not_v h
  intro q
  subst q
  simp [Cond.value, Term.eval, ev] at h2
theorem own_in {i z : Int32} {cl : Cell} (S : cl.slots.size = z.toNatClampNeg) (h1 : ¬ i < 0) (h2 : i < z) : ¬ (i < 0 ∨ cl.slots.size ≤ i.toNatClampNeg) := by
  rintro (q | q)
  · exact h1 q
  · rw [S] at q
    rw [Int32.lt_iff_toInt_lt] at h1 h2
    have e0 : (0 : Int32).toInt = 0 := rfl
    have e1 : ((i.toNatClampNeg : Nat) : Int) = i.toInt := by rw [Int32.toNatClampNeg]; exact Int.toNat_of_nonneg (by omega)
    have e2 : ((z.toNatClampNeg : Nat) : Int) = z.toInt := by rw [Int32.toNatClampNeg]; exact Int.toNat_of_nonneg (by omega)
    omega
theorem hw_ {Z : State} {a0 : Array Value} (hw : ∀ d ∈ tables_1, d.before a0 Z = true) (i : Nat) {d : Jvm.Cond} (h : tables_1[i]? = some d) : d.before a0 Z = true := hw d (List.mem_of_getElem? h)
end Own

theorem pd_0 : parseMethodDescriptor "(I)V" = some ⟨[.int], none⟩ := by decide +kernel
theorem pd_1 : parseMethodDescriptor "(D)D" = some ⟨[.double], some .double⟩ := by decide +kernel
theorem pd_2 : parseMethodDescriptor "(D)Z" = some ⟨[.double], some .boolean⟩ := by decide +kernel
theorem pd_3 : parseMethodDescriptor "()B" = some ⟨[], some .byte⟩ := by decide +kernel
theorem pd_4 : parseMethodDescriptor "(I)I" = some ⟨[.int], some .int⟩ := by decide +kernel
theorem pd_5 : parseMethodDescriptor "()Z" = some ⟨[], some .boolean⟩ := by decide +kernel
theorem pd_6 : parseMethodDescriptor "(II[B)I" = some ⟨[.int, .int, (.array .byte)], some .int⟩ := by decide +kernel
theorem pd_7 : parseMethodDescriptor "(I)Ljava/lang/AbstractStringBuilder;" = some ⟨[.int], some (.object "java/lang/AbstractStringBuilder")⟩ := by decide +kernel
theorem pd_8 : parseMethodDescriptor "(Ljava/lang/String;)V" = some ⟨[(.object "java/lang/String")], none⟩ := by decide +kernel
theorem pd_9 : parseMethodDescriptor "([BIB)V" = some ⟨[(.array .byte), .int, .byte], none⟩ := by decide +kernel
theorem pd_10 : parseMethodDescriptor "()I" = some ⟨[], some .int⟩ := by decide +kernel
theorem pd_11 : parseMethodDescriptor "(ILjava/lang/String;)V" = some ⟨[.int, (.object "java/lang/String")], none⟩ := by decide +kernel
theorem pd_12 : parseMethodDescriptor "(Ljava/lang/String;)Ljava/lang/AbstractStringBuilder;" = some ⟨[(.object "java/lang/String")], some (.object "java/lang/AbstractStringBuilder")⟩ := by decide +kernel
theorem pd_13 : parseMethodDescriptor "(II)V" = some ⟨[.int, .int], none⟩ := by decide +kernel
theorem pd_14 : parseMethodDescriptor "(II)I" = some ⟨[.int, .int], some .int⟩ := by decide +kernel
theorem pd_15 : parseMethodDescriptor "([BII)[B" = some ⟨[(.array .byte), .int, .int], some (.array .byte)⟩ := by decide +kernel
theorem pd_16 : parseMethodDescriptor "()[B" = some ⟨[], some (.array .byte)⟩ := by decide +kernel
theorem pd_17 : parseMethodDescriptor "(Ljava/lang/AbstractStringBuilder;Ljava/lang/Void;)V" = some ⟨[(.object "java/lang/AbstractStringBuilder"), (.object "java/lang/Void")], none⟩ := by decide +kernel
theorem pd_18 : parseMethodDescriptor "(Ljava/lang/StringBuilder;)V" = some ⟨[(.object "java/lang/StringBuilder")], none⟩ := by decide +kernel
theorem pd_19 : parseMethodDescriptor "(Ljava/lang/String;J)V" = some ⟨[(.object "java/lang/String"), .long], none⟩ := by decide +kernel
theorem pd_20 : parseMethodDescriptor "(D)V" = some ⟨[.double], none⟩ := by decide +kernel
theorem pd_21 : parseMethodDescriptor "(Ljava/util/function/IntConsumer;)V" = some ⟨[(.object "java/util/function/IntConsumer")], none⟩ := by decide +kernel
theorem pd_22 : parseMethodDescriptor "(Ljava/lang/String;D)V" = some ⟨[(.object "java/lang/String"), .double], none⟩ := by decide +kernel
theorem pd_23 : parseMethodDescriptor "()V" = some ⟨[], none⟩ := by decide +kernel
theorem pd_24 : parseMethodDescriptor "(I)Ljava/lang/StringBuilder;" = some ⟨[.int], some (.object "java/lang/StringBuilder")⟩ := by decide +kernel
theorem pd_25 : parseMethodDescriptor "(Ljava/lang/String;)Ljava/lang/StringBuilder;" = some ⟨[(.object "java/lang/String")], some (.object "java/lang/StringBuilder")⟩ := by decide +kernel
theorem pd_26 : parseMethodDescriptor "()Ljava/lang/String;" = some ⟨[], some (.object "java/lang/String")⟩ := by decide +kernel
theorem pd_27 : parseMethodDescriptor "(I)Ljava/util/OptionalInt;" = some ⟨[.int], some (.object "java/util/OptionalInt")⟩ := by decide +kernel
theorem pd_28 : parseMethodDescriptor "(DLjava/util/OptionalInt;DDDDDDDIII)V" = some ⟨[.double, (.object "java/util/OptionalInt"), .double, .double, .double, .double, .double, .double, .double, .int, .int, .int], none⟩ := by decide +kernel
theorem pd_29 : parseMethodDescriptor "(JJ)J" = some ⟨[.long, .long], some .long⟩ := by decide +kernel
theorem pd_30 : parseMethodDescriptor "(DIDDDDDDDIII)V" = some ⟨[.double, .int, .double, .double, .double, .double, .double, .double, .double, .int, .int, .int], none⟩ := by decide +kernel
def QSame (r : Option Value) (h0 : Heap) (n0 : Nat) (v : Option Value) (h : Heap) (L : List Loc) : Prop := v = r ∧ Fr n0 L ∧ h = h0
theorem own_str {Z : State} {a0 : Array Value} (hw : ∀ d ∈ tables_1, d.before a0 Z = true) : ∀ a ∈ Bundle.stringAtoms, a.before a0 Z = true := by
  intro a ha
  simp only [Bundle.stringAtoms, List.mem_cons, List.not_mem_nil, or_false] at ha
  rcases ha with rfl | rfl | rfl | rfl | rfl | rfl | rfl
  · exact (hw_ hw 61 rfl)
  · exact (hw_ hw 62 rfl)
  · exact (hw_ hw 63 rfl)
  · exact (hw_ hw 64 rfl)
  · exact (hw_ hw 65 rfl)
  · exact (hw_ hw 66 rfl)
  · exact (hw_ hw 67 rfl)
section OwnL
open Jvm.LamKit Jvm.Lambda
variable {p : Program} {l : Launch} {e : Env} {R : Room} {s : State} {m : MethodId} {args : Array Value} {below : List Frame} {meth : Method} {c : Code} {T : State} {locs : List Loc} {cells slots : Nat}
theorem own_wh {A B D : State} (h1 : A.WarmedH B.vm) (h2 : B.WarmedH D.vm) : A.WarmedH D.vm := State.WarmedH.trans h1 h2
theorem own_ib {Z A : State} {vm' : Vm} {Ts : List String} (I : IB Z A.vm Ts) (h : A.WarmedH vm') : IB Z vm' Ts := by
  obtain ⟨more, h1, h2⟩ := I
  exact ⟨more, by rw [h.interned_eq]; exact h1, h2⟩
theorem own_ib0 {Z : State} {vm' : Vm} (h : Z.WarmedH vm') : IB Z vm' [] := own_ib IB.start h
/-- a callee that starts where nothing is interned yet, and tells what is interned at its end -/
theorem own_backH {Z : State} {a0 : Array Value} {h : Heap} {y : MethodName} {bytes : ByteArray} {maxL : Nat} {ret : Option FieldType} {rm : Room} {len W : Nat} {as' : Array Value} {Q : Option Value → Heap → List Loc → Prop} {I : Vm → Prop}
    (hM : MetFree l y (head1 [Jvm.Cond.code y bytes maxL ret] rm) (fun a U => a = as' ∧ Z.WarmedH U.vm ∧ U.heap = h) (fun _ _ _ _ _ => True) (fun _ U o U' => ∃ v L, o = .returned v ∧ (Q v U'.heap L ∧ I U'.vm) ∧ ReturnedEndW U o U' L rm.cells rm.slots))
    (hZ : Z.WarmedH s.vm) (wc : (Jvm.Cond.code y bytes maxL ret).before a0 Z = true) (wz : (Jvm.Cond.initialized y.cls).before a0 Z = true) (hf : rm.frames + 1 ≤ R.frames) (hl : W + (maxL + 11) + rm.locals ≤ R.locals) :
    BackS l R p e below s args y len W (fun A a => a = as' ∧ A.U.heap = h ∧ A.cells + rm.cells ≤ R.cells ∧ A.slots + rm.slots ≤ R.slots)
      (fun A _ v B => ∃ L, (Q v B.U.heap L ∧ I B.U.vm) ∧ B.locs = A.locs ++ L ∧ B.cells = A.cells + rm.cells ∧ B.slots = A.slots + rm.slots) :=
  BackS.of_freeW (bytes := bytes) (maxL := maxL) (ret := ret) (E := fun _ _ o t L k n => k = rm.cells ∧ n = rm.slots ∧ ∃ v, o = .returned v ∧ (Q v t.heap L ∧ I t.vm)) hM hf hl
    (fun m meth c A a Y hp => have hU : Z.Warmed39 A.U.vm := (own_wh hZ Y.warmed).wide
      ⟨by show (Jvm.Cond.and _ .tt).before a A.U = true; rw [Cond.before_and, mv hU wc]; rfl, mv hU wc, mv hU wz, hp.2.2.1, hp.2.2.2⟩)
    (fun m meth c A a g mk Y hp => ⟨hp.1, own_wh hZ Y.warmed, hp.2.1⟩) (fun _ _ _ _ _ _ _ _ _ => trivial)
    (fun _ _ _ _ ⟨v, L, h1, h2, h3⟩ => ⟨L, _, _, h3, rfl, rfl, v, h1, h2⟩)
    (fun m meth c A a g mk v t L k n Y hp _ _ ⟨e1, e2, v', e3, e4⟩ => by cases e3; subst e1 e2; exact ⟨L, e4, rfl, rfl, rfl⟩)
/-- it returned; Q of the heap, I of the tables; what may be interned -/
def OwnEV (s : State) (Q : Option Value → Heap → List Loc → Prop) (I : Vm → Prop) (k n : Nat) (o : Outcome) (U : State) : Prop :=
  ∃ v L, o = .returned v ∧ (Q v U.heap L ∧ I U.vm) ∧ ReturnedEndW s o U L k n
theorem own_ret0V {vm₁ : Vm} (X : Stand p l e R (s.setVm vm₁) m args below meth c T locs cells slots) {n1 : Nat} (hS : s.Since vm₁ n1) (hn1 : n1 ≤ T.heap.size) (hx : p.tables.exec = Jvm.exec) {pc : Nat} {Ls : Array Slot} (hret : meth.sig.returnType = none)
    (hd : decode c.code pc = .ok (.return_, 1)) (hlk : meth.locks = false) {Q : Option Value → Heap → List Loc → Prop} {I : Vm → Prop} {k n : Nat} (hk : cells ≤ k) (hs : slots ≤ n) (hQ : Q none T.heap locs) (hI : I T.vm) : OwnG p e below (OwnEV s Q I k n) (T.setTop (mkF m pc Ls [])) := by
  obtain ⟨fs, hr, hrun, hended, hE⟩ := X.leaveW hS hn1 (v := none) (fun _ => rfl) hlk
  exact ⟨_, _, X.returnOut hx hret hd hr, hrun, hended, _, _, rfl, ⟨hQ, hI⟩, own_endW hE hk hs⟩
/-- out of an inner walk that may have interned -/
theorem own_outW (X : Stand p l e R s m args below meth c T locs cells slots) {g : JFrame} (hg : g.method = m) {ig : Instr} {len : Nat} (hdg : decode c.code g.pc = .ok (ig, len))
    {mk : MethodId} {a : Array Value} {t : State} {v : Option Value} {L : List Loc} {k n : Nat} (hend : Ended t (.java g :: below) (.returned v)) (hE : ReturnedEndW (T.calling g mk a) (.returned v) t L k n) :
    ∃ T', Stand p l e R (s.setVm T'.vm) m args below meth c T' (locs ++ L) (cells + k) (slots + n) ∧ s.Since T'.vm T'.heap.size ∧ T.heap.size ≤ T'.heap.size ∧ T'.heap = t.heap ∧ T'.vm = t.vm ∧ t = T'.setTop { g with pc := g.pc + len, stack := v.toList ++ g.stack } := by
  subst hg
  have htop := X.here.top
  obtain ⟨-, hW₂, hB₂, e2, q2, q3, q4, q5, q6⟩ := hE
  have e3 : t = ({ (T.calling g mk a).setFrames t.frames with heap := t.heap, slotsUsed := t.slotsUsed } : State).setVm t.vm := by
    have : t = ({ t with vm := (T.calling g mk a).vm } : State).setVm t.vm := rfl
    rw [e2] at this
    exact this
  obtain ⟨c₂, i₂, len₂, hc₂, hd₂, hf₂⟩ := hend
  have hW' : T.Warmed39 t.vm := hW₂
  have hcc : c₂ = c := by
    have h1 : t.code? g.method = T.code? g.method := by rw [State.code?_eq, State.code?_eq, hW'.alike.method?]
    exact Option.some.inj (hc₂.symm.trans (h1.trans X.here.code))
  subst hcc
  have hlen : len₂ = len := by rw [hdg] at hd₂; cases hd₂; rfl
  subst hlen
  obtain ⟨g₀, hr⟩ := X.frames_eq
  have ht : t = (({ T with heap := t.heap, slotsUsed := t.slotsUsed } : State).setVm t.vm).setTop { g with pc := g.pc + len₂, stack := v.toList ++ g.stack } := by
    have hr' : (({ T with heap := t.heap, slotsUsed := t.slotsUsed } : State).setVm t.vm).frames = .java g₀ :: below := hr
    refine e3.trans ?_
    rw [hf₂, State.calling_eq htop, State.setFrames_setFrames, State.setTop_of_frames _ hr']
    rfl
  have hB : T.sameButNew ({ T with heap := t.heap, slotsUsed := t.slotsUsed } : State) L k n := by
    refine ⟨?_, q2, q3, q4, q5, q6⟩
    obtain ⟨th, hth, -⟩ := State.frames_cons hr
    show ({ T with heap := t.heap, slotsUsed := t.slotsUsed } : State) = { T.setFrames T.frames with heap := t.heap, slotsUsed := t.slotsUsed }
    rw [State.setFrames_self hth]
  obtain ⟨X', hS⟩ := X.movedW (T₂ := (({ T with heap := t.heap, slotsUsed := t.slotsUsed } : State).setVm t.vm)) ((X.here.setHeapUsed t.heap t.slotsUsed).setVm hW'.alike) X.tail rfl rfl hW' hB₂ hB
  exact ⟨_, X', hS, hB.2.1, rfl, rfl, ht⟩
/-- the site of a lambda that captures nothing -/
theorem own_site {Z : State} {a0 : Array Value} {h : Heap} (X : Stand p l e R s m args below meth c T locs cells slots) (hx : p.tables.exec = Jvm.exec) (hZ : Z.Warmed39 s.vm) (eT : T.heap = h) (EZ : Ext Z.heap h) {y : MethodName} {pc index : Nat} {σ : Lambda.Shape} (hnamed : s.methodNamed? y = some m)
    (hsite : (Jvm.Cond.lambdaSite y pc index σ).before a0 Z = true) (hcap : σ.captured = []) {g : JFrame} (hg : g.method = m) (hpc : g.pc = pc) (hsize : g.locals.size = c.maxLocals)
    (hdg : decode c.code g.pc = .ok (.invokedynamic index, 5)) (hwords : 2 * g.monitorRoom + (g.stack.map fun v => v.category).sum + 3072 ≤ R.locals) :
    ∃ (a : Addr) (cK : ClassId), Jvm.LamKit.Made Z y.cls σ cK ∧ FnAt Z.heap a cK ∧ ∀ target, Steps p.tables e below (T.setTop { g with pc := g.pc + 5, stack := .ref a :: g.stack }) target → Steps p.tables e below (T.setTop g) target := by
  obtain ⟨cK, one, hat⟩ := Cond.lambdaSite_spec hsite
  obtain ⟨mD, kD, cfD, i0, p0, lk, hmD, hkD, -, -, -, hfind, hmade, hcan, hl⟩ := State.lambdaAt?_spec hat
  have hm : mD = m := by
    have q : (Z.setVm s.vm).methodNamed? y = some mD := by rw [State.methodNamed?_setVm hZ.alike]; exact hmD
    exact Option.some.inj (q.symm.trans hnamed)
  subst hm
  obtain ⟨kD', hkD', hnameD⟩ := className_of_methodNamed hmD
  cases hkD.symm.trans hkD'
  obtain ⟨kS, hkS, heS⟩ := hZ.alike.2.2 _ _ hkD
  rcases hl with ⟨a, cell, rfl, -, -, hcell, hcls, hvm, -⟩ | ⟨-, -, hne⟩
  · have hw : e.platform.lambdaLinkWords = 3072 := by rw [X.admits.platform]
    refine ⟨a, cK, ⟨_, kD, hkD, hnameD, hmade, hcan⟩, ⟨cell, hcell, hcls, hvm⟩, fun target h => ?_⟩
    exact X.lambdaConstant hx hg hsize hdg hkS (by rw [heS, hpc]; exact hfind) (by rw [hw]; exact hwords) h
  · exact absurd hcap hne
/-- what the class that the rule makes must hold, where the target stands in an interface: one check -/
def ownOkI (σ : Lambda.Shape) (host : String) (fcode : ByteArray) (fml : Nat) (fret : Option FieldType) (idx ci : Nat) : Bool :=
  plainName (host ++ "$$Lambda") &&
  match σ.file host with
  | none => false
  | some D =>
    match (layoutMethods D).bind (fun z => z[1]?), D.constantPool[idx]?, D.constantPool[ci]? with
    | some f, some (.interfaceMethodref ci' nt), some (.class_ n) =>
      decide ((f.code.map fun c => (c.code.data, c.maxLocals)) = some (fcode.data, fml)) && decide (f.accessFlags = 1) && decide (f.sig.returnType = fret) && decide (ci' = ci) &&
      decide (D.constantPool.className? ci = some σ.implClass) && decide (D.constantPool.nameAndType? nt = some (σ.implName, σ.implDesc.toString)) && decide (D.constantPool.string? n = some σ.implClass) && decide (ci ≠ D.thisClass)
    | _, _, _ => false
theorem own_resI {vm : Vm} {st : Setting} {cf : ClassFile} {fields : Array Field} {self : ClassId} {i ci nt : Nat} {cn name desc : String} {owner : ClassId} {k : Class} {m : MethodId} (hi : cf.constantPool[i]? = some (.interfaceMethodref ci nt)) (hc : cf.constantPool.className? ci = some cn)
    (ho : vm.findClass cn = some owner) (hk : vm.classes[owner]? = some k) (hnt : cf.constantPool.nameAndType? nt = some (name, desc)) (hm : ((methodIn owner name desc k.isInterface none).ask st vm).1 = .ok m) :
    (resolvedOf st vm cf fields self)[i]? = some (some (.method m)) := by
  simp only [resolvedOf, Array.getElem?_mapIdx, hi, Option.map_some, hc, ho, hk, hnt, hm, Option.bind_eq_bind, Option.bind_some]
theorem own_madeI {st : Setting} {vm : Vm} {d c : ClassId} {dk : Class} {σ : Lambda.Shape} {host : String} {fcode : ByteArray} {fml idx ci : Nat} {fret : Option FieldType}
    (hok : ownOkI σ host fcode fml fret idx ci = true) (hd : vm.classes[d]? = some dk) (hname : dk.name = host) (h : isMade st vm d σ c = true) :
    ∃ (k tk : Class) (file : ClassFile) (methk : Method) (ck : Code) (toy : ClassId) (t : MethodId) (nt : Nat),
      vm.classes[c]? = some k ∧ plainName k.name = true ∧ k.cf = some file ∧ file.constantPool[idx]? = some (.interfaceMethodref ci nt) ∧ file.constantPool.nameAndType? nt = some (σ.implName, σ.implDesc.toString) ∧
      vm.method? ⟨c, 1⟩ = some methk ∧ methk.code = some ck ∧ ck.code = fcode ∧ ck.maxLocals = fml ∧ methk.locks = false ∧ methk.accessFlags = 1 ∧ methk.sig.returnType = fret ∧
      vm.findClass σ.implClass = some toy ∧ vm.classes[toy]? = some tk ∧ ((methodIn toy σ.implName σ.implDesc.toString tk.isInterface none).ask st vm).1 = .ok t ∧
      vm.methodReady c idx t ∧ vm.classReady c ci toy := by
  obtain ⟨dk', k, ok, tk, file, cf, object, iface, toy, lay, methods, target, found, hd', hk, hfile, hcf, -, -, -, -, hms, ht, htk, hg, -, hrec, -, -, -, -, hpool, hmeth, -, -, hres, -⟩ := isMade_spec h
  cases hd.symm.trans hd'
  rw [hname] at hcf
  unfold ownOkI at hok
  rw [hcf, Bool.and_eq_true] at hok
  obtain ⟨hpn, hok⟩ := hok
  dsimp only at hok
  split at hok
  · rename_i f ci' nt n hf hidx hci
    simp only [Bool.and_eq_true, decide_eq_true_eq] at hok
    obtain ⟨⟨⟨⟨⟨⟨⟨fc, ffl⟩, fr⟩, rfl⟩, hcn⟩, hnt⟩, hs⟩, hne⟩ := hok
    rw [hms] at hf
    obtain ⟨b, hb, hsame⟩ := hmeth 1 f hf
    obtain ⟨-, -, hsig, hfl, x, y, hx, hy, -, hml, hcd, -⟩ := sameMethod_spec hsame
    rw [hx] at fc
    simp only [Option.map_some, Option.some.injEq, Prod.mk.injEq] at fc
    refine ⟨k, tk, file, b, y, toy, target, nt, hk, by rw [hrec.1, hname]; exact hpn, hfile, by rw [hpool.2.1]; exact hidx, by rw [hpool.2.1]; exact hnt, by simp [Vm.method?, hk, hb], hy, ?_, by rw [hml]; exact fc.2, ?_, by rw [hfl]; exact ffl, by rw [hsig]; exact fr, ht, htk, hg,
      ⟨k, hk, hres idx _ (own_resI hidx hcn ht htk hnt hg)⟩, ⟨k, hk, hres ci' _ (resolvedOf_class hci hne hs ht)⟩⟩
    · rw [hcd]; exact ByteArray.ext fc.1
    · simp [Method.locks, Method.isSynchronized, hfl, ffl, hasFlag, Acc.synchronized]
  · cases hok
theorem own_selI {s : State} {args : Array Value} {host : String} {xi : MethodName} {σ : Lambda.Shape} {cK : ClassId} {fcode : ByteArray} {fml idx ci : Nat} {fret : Option FieldType}
    (hmd : Jvm.LamKit.Made s host σ cK) (hok : ownOkI σ host fcode fml fret idx ci = true) (hface : (Cond.interfaceMethod xi.cls xi.cls xi.name xi.desc).before args s = true) (hxi : xi.cls = σ.iface ∧ xi.name = σ.name ∧ xi.desc = σ.sam.toString) :
    ∃ (kF : Class) (methK : Method), s.vm.classes[cK]? = some kF ∧ s.vm.method? ⟨cK, 1⟩ = some methK ∧ hasFlag methK.accessFlags Acc.public_ = true ∧ methK.isAbstract = false ∧
      ∀ r0 r, s.methodNamed? xi = some r0 → s.vm.method? r0 = some r → s.vm.assignable cK r0.cls = true ∧ selectMethod {} s.vm cK r0 = .method ⟨cK, 1⟩ ∧
        ((cK :: s.vm.superclasses cK).any fun k => (declaredIn s.vm r.name r.desc k).any fun (_, y) => y.isPrivate || y.isStatic) = false := by
  obtain ⟨d, dk, hd, hdn, hmade, hcan⟩ := hmd
  obtain ⟨x1, x2, x3⟩ := hxi
  obtain ⟨kK, -, -, methk, -, -, -, -, hkK, -, -, -, -, hmk, -, -, -, -, hfl, -⟩ := own_madeI hok hd hdn hmade
  refine ⟨kK, methk, hkK, hmk, by rw [hfl]; decide, by simp [Method.isAbstract, hfl, hasFlag, Acc.abstract], fun r0 r hn hrm => ?_⟩
  obtain ⟨cL, kL, r1, hcL, hkL, hiL, hfoundL, hn1⟩ := Cond.interfaceMethod_spec hface
  cases hn.symm.trans hn1
  have hr0cls : r0.cls = cL := Option.some.inj ((findClass_of_methodNamed hn).symm.trans hcL)
  obtain ⟨hnameR, hdescR⟩ := name_of_methodNamed hn hrm
  obtain ⟨-, -, -, -, -, -, -, iface', -, -, -, -, found, -, -, -, -, -, hi', -, -, -, -, -, -, hfound', -, -, -, -, -, -, -, -, -, -, hsel⟩ := Lambda.isMade_spec hmade
  rw [← x1] at hi'
  cases hcL.symm.trans hi'
  have hfr0 : found = r0 := by
    have h1 : s.methodFound? xi.cls xi.name xi.desc = some r0 := hfoundL
    simp only [State.methodFound?, hcL, hkL, hiL, Option.bind_eq_bind, Option.bind_some] at h1
    rw [← x2, ← x3] at hfound'
    rw [hfound'] at h1
    exact Option.some.inj h1
  subst hfr0
  obtain ⟨i2, hi2, hasg, hway⟩ := State.lambdaCallable_spec hcan
  rw [← x1] at hi2
  cases hcL.symm.trans hi2
  exact ⟨by rw [hr0cls]; exact hasg, hsel, by rw [hnameR, hdescR, x2, x3]; exact hway⟩
/-- the forwarder of one int to a static method that answers nothing -/
theorem own_fwd {Z : State} {a0 : Array Value} (X : Stand p l e R s m args below meth c T locs cells slots) (hexec : p.tables.exec = Jvm.exec) (hW₁ : Z.WarmedH T.vm) {host : String} {y : MethodName} {σ : Lambda.Shape} {bytes : ByteArray} {maxL : Nat} {rm : Room} {Q : Option Value → Heap → List Loc → Prop} {I : Vm → Prop} {x : Int32} {a : Addr}
    (hM : MetFree l y (head1 [Jvm.Cond.code y bytes maxL none] rm) (fun a U => a = #[.int x] ∧ Z.WarmedH U.vm ∧ U.heap = T.heap) (fun _ _ _ _ _ => True) (fun _ U o U' => ∃ v L, o = .returned v ∧ (Q v U'.heap L ∧ I U'.vm) ∧ ReturnedEndW U o U' L rm.cells rm.slots)) (hQn : ∀ v hh LL, Q v hh LL → v = none)
    (hcode : (Jvm.Cond.code y bytes maxL none).before a0 Z = true) (hstat : (Jvm.Cond.static y).before a0 Z = true) (hini : (Jvm.Cond.initialized y.cls).before a0 Z = true)
    (hy : y.cls = σ.implClass ∧ y.name = σ.implName ∧ y.desc = σ.implDesc.toString) (hpoly : y.cls ≠ "java/lang/invoke/MethodHandle" ∧ y.cls ≠ "java/lang/invoke/VarHandle") (hparse : parseMethodDescriptor y.desc = some ⟨[.int], none⟩)
    {cK : ClassId} (hmd : Jvm.LamKit.Made Z host σ cK) {fcode : ByteArray} {idx ci : Nat} (hok : ownOkI σ host fcode 2 none idx ci = true) (hd0 : decode fcode 0 = .ok (.iload_n 1, 1)) (hdI : decode fcode 1 = .ok (.invokestatic idx, 3)) (hdR : decode fcode 4 = .ok (.return_, 1))
    {g : JFrame} (hg : g.method = m) (hsize : g.locals.size = c.maxLocals) {ig : Instr} {len : Nat} (hdg : decode c.code g.pc = .ok (ig, len))
    (hfr : rm.frames + 2 ≤ R.frames) (hlo : 2 * g.monitorRoom + (g.stack.map fun v => v.category).sum + (2 + 11) + ((maxL + 11) + rm.locals) ≤ R.locals) (hcells : cells + rm.cells ≤ R.cells) (hslots : slots + rm.slots ≤ R.slots) :
    ∃ (T' : State) (L : List Loc), Stand p l e R (s.setVm T'.vm) m args below meth c T' (locs ++ L) (cells + rm.cells) (slots + rm.slots) ∧ s.Since T'.vm T'.heap.size ∧ T.heap.size ≤ T'.heap.size ∧ Q none T'.heap L ∧ I T'.vm ∧
      ∀ acts, Steps p.tables e below (doInvoke e (T.setTop g) acts ⟨cK, 1⟩ #[.ref a, .int x]).1 (T'.setTop { g with pc := g.pc + len, stack := g.stack }) := by
  obtain ⟨d, dk, hd, hdn, hmade, -⟩ := hmd
  obtain ⟨y1, y2, y3⟩ := hy
  obtain ⟨mT, hmT⟩ := Cond.code_named hcode
  obtain ⟨methT, cT, hmethT, hcT, -, hlocT, -, -, -, hsigT⟩ := Cond.code_spec hmT hcode
  have hstaticT : methT.isStatic = true := Cond.static_spec hmT hmethT hstat
  obtain ⟨kT, hkT, hnameT⟩ := className_of_methodNamed hmT
  have hfT : Z.vm.findClass y.cls = some mT.cls := findClass_of_methodNamed hmT
  have hinitK : kT.init = .initialized := Cond.initialized_spec hfT hkT hini
  obtain ⟨kD₁, hkD₁, heD₁⟩ := hW₁.alike.2.2 _ _ hd
  obtain ⟨kK₁, tk₁, file₁, methk₁, ck₁, toy₁, t₁, nt, hkK₁, hpn₁, hfile₁, hidx₁, hnt₁, hmk₁, hck₁, hbytes₁, hml₁, hlk₁, -, hretk₁, htoy₁, htk₁, hlook₁, hready₁, hclsR₁⟩ := own_madeI hok hkD₁ (by rw [heD₁]; exact hdn) (Lambda.isMade_warmer hW₁ hmade)
  have hfT₁ : T.vm.findClass σ.implClass = some mT.cls := by rw [hW₁.alike.findClass, ← y1]; exact hfT
  cases htoy₁.symm.trans hfT₁
  have ht₁ : t₁ = mT := by
    have h1 : (Z.setVm T.vm).methodFound? y.cls y.name y.desc = some mT := by rw [State.methodFound?_setVm hW₁.alike]; exact State.methodFound?_of_named hmT hpoly
    rw [y1, y2, y3] at h1
    simp only [State.methodFound?, State.vm_setVm, hfT₁, htk₁, Option.bind_eq_bind, Option.bind_some] at h1
    rw [hlook₁] at h1
    exact Option.some.inj h1
  subst ht₁
  have hmethT₁ : T.vm.method? t₁ = some methT := by rw [hW₁.alike.method?]; exact hmethT
  obtain ⟨kT₁, hkT₁, heT₁⟩ := hW₁.alike.2.2 _ _ hkT
  cases htk₁.symm.trans hkT₁
  have hsp : ∀ z : Method, signaturePolymorphic tk₁ z = false := fun z => by
    have hn' : tk₁.name = y.cls := by rw [heT₁]; exact hnameT
    simp [signaturePolymorphic, hn', hpoly.1, hpoly.2]
  obtain ⟨b, hmem⟩ := memberRef_ask' (e := e) (vm := T.vm) (d := cK) (index := idx) hkK₁ hfile₁ (Or.inr hidx₁) hnt₁
  have hpk : T.plainMethod ⟨cK, 1⟩ := State.plainMethod.of_name (fun k' hk' => by cases hkK₁.symm.trans hk'; exact hpn₁)
  obtain ⟨Y₀, hin⟩ := X.into hg hsize hdg #[.ref a, .int x] (R' := { frames := rm.frames + 1, cells := rm.cells, slots := rm.slots, locals := (maxL + 11) + rm.locals }) hmk₁ hck₁ hlk₁ hpk hfr (by rw [hml₁]; exact hlo) hcells hslots
  have hL0 : entryFrame ⟨cK, 1⟩ #[.ref a, .int x] 2 = { method := ⟨cK, 1⟩, pc := 0, locals := #[.val (.ref a), .val (.int x)], stack := [], locked := none } := rfl
  rw [hml₁, hL0] at Y₀ hin
  generalize hU : (T.setTop g).pushFrame (.java { method := ⟨cK, 1⟩, pc := 0, locals := #[.val (.ref a), .val (.int x)], stack := [], locked := none }) = U at Y₀ hin
  have hvmU : U.vm = T.vm := by rw [← hU]; rfl
  have hheapU : U.heap = T.heap := by rw [← hU]; rfl
  generalize hs' : T.calling g ⟨cK, 1⟩ #[.ref a, .int x] = s' at Y₀
  have hvm' : s'.vm = T.vm := by rw [← hs']; rfl
  have hWs' : Z.WarmedH s'.vm := by rw [hvm']; exact hW₁
  have hK := own_backH (R := { frames := rm.frames + 1, cells := rm.cells, slots := rm.slots, locals := (maxL + 11) + rm.locals }) (p := p) (e := e) (below := .java g :: below) (s := s') (args := #[.ref a, .int x]) (len := 3) (W := 0) hM hWs' hcode hini (Nat.le_refl _) (by show 0 + (maxL + 11) + rm.locals ≤ (maxL + 11) + rm.locals; omega)
  have hnamedU : U.methodNamed? y = some t₁ := by
    have q : (Z.setVm T.vm).methodNamed? y = some t₁ := by rw [State.methodNamed?_setVm hW₁.alike]; exact hmT
    rw [← hU]; exact q
  obtain ⟨v, ⟨U', ls, cc, sl⟩, Y₁, hS₁, hgr₁, ⟨L, ⟨hq, hib⟩, hl, hc, hs⟩, hsteps⟩ := hK ⟨cK, 1⟩ methk₁ ck₁ ⟨U, [], 0, 0⟩ { method := ⟨cK, 1⟩, pc := 1, locals := #[.val (.ref a), .val (.int x)], stack := [], locked := none } (.invokestatic idx) t₁ #[.int x] Y₀ rfl (by rw [hml₁]; rfl)
    (by rw [hbytes₁]; exact hdI) (Nat.le_refl _) hnamedU ⟨rfl, hheapU, by show 0 + rm.cells ≤ rm.cells; omega, by show 0 + rm.slots ≤ rm.slots; omega⟩
  dsimp only [Pt.U, Pt.locs, Pt.cells, Pt.slots] at Y₁ hS₁ hgr₁ hq hib hl hc hs hsteps
  subst hl; subst hc; subst hs
  obtain rfl := hQn _ _ _ hq
  obtain ⟨fs, hleave, -, hended, hE⟩ := Y₁.leaveW hS₁ (Nat.le_refl _) (v := none) (fun _ => rfl) hlk₁
  subst hs'
  obtain ⟨T', X', hSo, hgo, hh', hv', ht⟩ := own_outW X hg hdg hended hE
  refine ⟨T', _, by simpa using X', hSo, hgo, by rw [hh']; exact hq, by rw [hv']; exact hib, fun acts => ?_⟩
  have ht' : U'.setFrames fs = T'.setTop { g with pc := g.pc + len, stack := g.stack } := ht
  rw [hin acts, ← ht']
  refine Steps.weaken (mid := [.java g]) ?_
  have hsU : U.topJava?.isSome := Y₀.here.top
  have hd0' : decode ck₁.code 0 = .ok (.iload_n 1, 1) := by rw [hbytes₁]; exact hd0
  have hdI' : decode ck₁.code 1 = .ok (.invokestatic idx, 3) := by rw [hbytes₁]; exact hdI
  jvm_step Y₀.here [hexec, hd0']
  jvm_step Y₀.here [hexec, hdI', invokestatic.wp_ready (e := e) (s := U) (m := t₁) (k := tk₁) (meth := methT) (args := [.int x]) (rest := [])
    (f := { method := ⟨cK, 1⟩, pc := 1, locals := #[.val (.ref a), .val (.int x)], stack := [.int x], locked := none }) hsU ⟨ci, _, _, b, t₁.cls, tk₁, by rw [hvmU]; exact hmem, by rw [hvmU]; exact hclsR₁, by rw [hvmU]; exact htk₁, by simp [hsp]⟩ (by rw [hvmU]; exact hready₁) (by rw [hvmU]; exact htk₁) (by rw [hvmU]; exact hmethT₁) (hsp _) hstaticT (by rw [heT₁]; exact hinitK) (by have q := Option.some.inj (hsigT.symm.trans hparse); rw [q]; rfl) rfl]
  intro acts'
  rw [doInvoke_state]
  refine hsteps.trans ?_
  exact Y₁.returnOut hexec (pc := 4) (Ls := #[.val (.ref a), .val (.int x)]) hretk₁ (by rw [hbytes₁]; exact hdR) hleave
theorem own_madeMv {Z : State} {host : String} {σ : Lambda.Shape} {cK : ClassId} (hmd : Jvm.LamKit.Made Z host σ cK) (hW : Z.WarmedH s.vm) : Jvm.LamKit.Made s host σ cK := by
  obtain ⟨d, dk, h1, h2, h3, h4⟩ := hmd
  obtain ⟨dk', h1', e1⟩ := hW.alike.2.2 _ _ h1
  obtain ⟨i, q1, q2, q3⟩ := State.lambdaCallable_spec h4
  refine ⟨d, dk', h1', by rw [e1]; exact h2, Lambda.isMade_warmer hW h3, ?_⟩
  show ((s.vm.findClass σ.iface).any fun i => s.vm.assignable cK i && !((cK :: s.vm.superclasses cK).any fun k => (declaredIn s.vm σ.name σ.sam.toString k).any fun (_, x) => x.isPrivate || x.isStatic)) = true
  rw [hW.alike.findClass, q1]
  simp only [Option.any_some, hW.alike.assignable, q2, hW.alike.superclasses41, hW.alike.declaredIn, q3]
  rfl
/-- an interface call of one int on a function object whose target is a static method that answers nothing and may intern -/
theorem own_lam {Z : State} {a0 : Array Value} {h : Heap} (X : Stand p l e R s m args below meth c T locs cells slots) (hexec : p.tables.exec = Jvm.exec) (hZH : Z.WarmedH s.vm) {own host : String} {index count : Nat} {xi y : MethodName} {σ : Lambda.Shape} {bytes : ByteArray} {maxL : Nat} {rm : Room} {Q : Option Value → Heap → List Loc → Prop} {I : Vm → Prop} {x : Int32} {a : Addr}
    (hown : s.vm.findClass own = some m.cls) (w1 : (Jvm.Cond.methodLink own index xi).before a0 Z = true) (w2 : (Jvm.Cond.declares xi).before a0 Z = true) (v3 : (Jvm.Cond.interfaceMethod xi.cls xi.cls xi.name xi.desc).before args s = true)
    (hxi : xi.cls = σ.iface ∧ xi.name = σ.name ∧ xi.desc = σ.sam.toString) (hpx : xi.cls ≠ "java/lang/invoke/MethodHandle" ∧ xi.cls ≠ "java/lang/invoke/VarHandle") (hpxi : parseMethodDescriptor xi.desc = some ⟨[.int], none⟩)
    (hM : MetFree l y (head1 [Jvm.Cond.code y bytes maxL none] rm) (fun a U => a = #[.int x] ∧ Z.WarmedH U.vm ∧ U.heap = h) (fun _ _ _ _ _ => True) (fun _ U o U' => ∃ v L, o = .returned v ∧ (Q v U'.heap L ∧ I U'.vm) ∧ ReturnedEndW U o U' L rm.cells rm.slots)) (hQn : ∀ v hh LL, Q v hh LL → v = none)
    (hcode : (Jvm.Cond.code y bytes maxL none).before a0 Z = true) (hstat : (Jvm.Cond.static y).before a0 Z = true) (hini : (Jvm.Cond.initialized y.cls).before a0 Z = true)
    (hy : y.cls = σ.implClass ∧ y.name = σ.implName ∧ y.desc = σ.implDesc.toString) (hpoly : y.cls ≠ "java/lang/invoke/MethodHandle" ∧ y.cls ≠ "java/lang/invoke/VarHandle") (hparse : parseMethodDescriptor y.desc = some ⟨[.int], none⟩)
    (eT : T.heap = h) {cK : ClassId} (hmd : Jvm.LamKit.Made Z host σ cK) (hfn : FnAt h a cK) {fcode : ByteArray} {idx ci : Nat} (hok : ownOkI σ host fcode 2 none idx ci = true) (hd0 : decode fcode 0 = .ok (.iload_n 1, 1)) (hdI : decode fcode 1 = .ok (.invokestatic idx, 3)) (hdR : decode fcode 4 = .ok (.return_, 1))
    {g : JFrame} (hg : g.method = m) (hsize : g.locals.size = c.maxLocals) (hmr : g.monitorRoom = 0) (hstack : g.stack = [.int x, .ref a]) (hdg : decode c.code g.pc = .ok (.invokeinterface index count, 5))
    (hfr : rm.frames + 2 ≤ R.frames) (hlo : 13 + ((maxL + 11) + rm.locals) ≤ R.locals) (hcells : cells + rm.cells ≤ R.cells) (hslots : slots + rm.slots ≤ R.slots) :
    ∃ (T' : State) (L : List Loc), Stand p l e R (s.setVm T'.vm) m args below meth c T' (locs ++ L) (cells + rm.cells) (slots + rm.slots) ∧ s.Since T'.vm T'.heap.size ∧ T.heap.size ≤ T'.heap.size ∧ Q none T'.heap L ∧ I T'.vm ∧
      ∀ target, Steps p.tables e below (T'.setTop { g with pc := g.pc + 5, stack := [] }) target → Steps p.tables e below (T.setTop g) target := by
  subst eT
  obtain ⟨cell, hcell, rfl, hvmc⟩ := hfn
  have hW := hZH.wide
  have v1 : (Jvm.Cond.methodLink own index xi).before args s = true := mv hW w1
  have v2 : (Jvm.Cond.declares xi).before args s = true := mv hW w2
  obtain ⟨kK, methk, hkK, hmk, hpub, habs, hsel⟩ := own_selI (own_madeMv hmd hZH) hok v3 hxi
  obtain ⟨r0, r, hn, hrm, hstR, hsigR⟩ := Cond.declares_spec v2
  obtain ⟨cL, kL, r1, hcL, hkL, hiL, -, -⟩ := Cond.interfaceMethod_spec v3
  have hr0cls : r0.cls = cL := Option.some.inj ((findClass_of_methodNamed hn).symm.trans hcL)
  obtain ⟨hasg, hsel', hway⟩ := hsel r0 r hn hrm
  obtain ⟨vm₁, X₁, hstep₁⟩ := X.invokeinterface hexec hown v1 hn hrm hstR (by rw [hr0cls]; exact hkL) hiL hpx (a := a) (cell := cell) (kcell := kK) hcell (fun z h => by rw [hvmc] at h; cases h) hkK hasg
    (m' := ⟨cell.cls, 1⟩) (meth' := methk) (by rw [Launch.admits_selectMethod X.admits]; exact hsel') hmk hway hpub habs hg (argsL := [.int x]) (rest := []) (by have q := Option.some.inj (hsigR.symm.trans hpxi); rw [q]; rfl) hstack hdg
  obtain ⟨T', L, X', hS, hgr, hq, hi, st⟩ := own_fwd X₁ hexec (own_wh hZH X₁.warmed) (a := a) hM hQn hcode hstat hini hy hpoly hparse hmd hok hd0 hdI hdR (g := { g with stack := [] }) hg hsize hdg hfr (by show 2 * g.monitorRoom + 0 + (2 + 11) + ((maxL + 11) + rm.locals) ≤ R.locals; rw [hmr]; omega) hcells hslots
  exact ⟨T', L, X', hS, hgr, hq, hi, fun target q => hstep₁ _ fun acts => (st acts).trans q⟩
end OwnL
section OwnC
variable {p : Program} {l : Launch} {e : Env} {R : Room} {s : State} {m : MethodId} {args : Array Value} {below : List Frame} {meth : Method} {c : Code} {T : State} {locs : List Loc} {cells slots : Nat}
theorem own_frcopy {k b q n : Nat} (h : k ≤ b) : Fr k (copyLocs b q n) := fun y hy => by
  simp only [copyLocs, List.mem_map] at hy
  obtain ⟨i, -, rfl⟩ := hy
  exact h
theorem own_acopy {Z : State} {a0 : Array Value} {h : Heap} (X : Stand p l e R s m args below meth c T locs cells slots) (hx : p.tables.exec = Jvm.exec) (hZ : Z.Warmed39 s.vm) {own : String} {index : Nat} (hown : s.vm.findClass own = some m.cls)
    (w1 : (Jvm.Cond.methodLink own index ⟨"java/lang/System", "arraycopy", "(Ljava/lang/Object;ILjava/lang/Object;II)V"⟩).before a0 Z = true) (w2 : (Jvm.Cond.native ⟨"java/lang/System", "arraycopy", "(Ljava/lang/Object;ILjava/lang/Object;II)V"⟩).before a0 Z = true) (w3 : (Jvm.Cond.static ⟨"java/lang/System", "arraycopy", "(Ljava/lang/Object;ILjava/lang/Object;II)V"⟩).before a0 Z = true) (w4 : (Jvm.Cond.initialized "java/lang/System").before a0 Z = true)
    (eT : T.heap = h) {a b : Addr} {ka kb : ClassId} {ty : FieldType} {vs ws : List Value} (A : OwnA Z h a ka ty vs) (B : OwnA Z h b kb ty ws) (hr : ty.isReference = false) (hfit : ∀ v ∈ vs, fits ty v = true) {o q n : Nat} {jo jq jn : Int32} (ho : jo = Int32.ofNat o) (hq : jq = Int32.ofNat q) (hn : jn = Int32.ofNat n)
    (h4 : o + n ≤ vs.length) (h5 : q + n ≤ ws.length) (hv : vs.length < 2 ^ 31) (hw' : ws.length < 2 ^ 31)
    {g : JFrame} (hg : g.method = m) (hsize : g.locals.size = c.maxLocals) {rest : List Value} (hstack : g.stack = .int jn :: .int jq :: .ref b :: .int jo :: .ref a :: rest) (hdg : decode c.code g.pc = .ok (.invokestatic index, 3))
    {W : Nat} (hW : 2 * g.monitorRoom + (rest.map fun v => v.category).sum ≤ W) (hfr : 1 ≤ R.frames) (hlo : W + 40 ≤ R.locals) :
    ∃ (T' : State) (h' : Heap), Stand p l e R s m args below meth c T' (locs ++ copyLocs b q n) cells slots ∧ T'.heap = h' ∧ Keep h h' [b] ∧ OwnA Z h' b kb ty (ws.take q ++ ((vs.drop o).take n ++ ws.drop (q + n))) ∧
      ∀ target, Steps p.tables e below (T'.setTop { g with pc := g.pc + 3, stack := rest }) target → Steps p.tables e below (T.setTop g) target := by
  obtain ⟨cA, A1, A2, A3⟩ := A
  obtain ⟨cB, B1, B2, B3⟩ := B
  have sA : cA.slots.size = vs.length := by rw [← A3, Array.length_toList]
  have sB : cB.slots.size = ws.length := by rw [← B3, Array.length_toList]
  have hal : Z.vm.Alike T.vm := hZ.alike.trans X.warmed.alike
  have XA : Jvm.Free.XT.Arr ty a cA T := ⟨by rw [eT]; exact A1.1, State.isArrayOf_alike hal A1.2.1, A1.2.2, by omega⟩
  have XB : Jvm.Free.XT.Arr ty b cB T := ⟨by rw [eT]; exact B1.1, State.isArrayOf_alike hal B1.2.1, B1.2.2, by omega⟩
  have hty : ((refKind ty != refKind ty) || (!refKind ty && ty != ty)) = false := by simp
  obtain ⟨T', B', X', P, b1, b2, b3, b4, st⟩ := X.acopy hx hown (fun w hw => by
    simp only [Jvm.Free.XT.acW, List.mem_cons, List.not_mem_nil, or_false] at hw
    rcases hw with rfl | rfl | rfl | rfl
    · exact mv hZ w1
    · exact mv hZ w2
    · exact mv hZ w3
    · exact mv hZ w4) XA XB hty ho hq hn (by omega) (by omega) (fun i hi => ⟨hfit _ (by
      have hlt : o + i < cA.slots.size := by omega
      rw [← A3, Array.getD_eq_getD_getElem?, Array.getElem?_eq_getElem hlt]
      exact Array.mem_toList_iff.mpr (Array.getElem_mem hlt)), fun q => by rw [hr] at q; cases q⟩) hg hsize hstack hdg hW hfr hlo
  refine ⟨T', _, X', rfl, ?_, ⟨B', ⟨P.1, ?_, ?_⟩, b1.trans B2, ?_⟩, st⟩
  · rw [← eT]
    refine ⟨Nat.le_of_eq P.2.2.symm, fun x cx hx' hne => by rw [P.2.1 x (by simpa using hne)]; exact hx', fun x cx hx' => ?_⟩
    by_cases hxb : x = b
    · subst hxb
      have q : cx = cB := by rw [eT] at hx'; exact Option.some.inj (hx'.symm.trans B1.1)
      subst q
      exact ⟨B', P.1, b1, b2, b3⟩
    · exact ⟨cx, by rw [P.2.1 x hxb]; exact hx', rfl, rfl, rfl⟩
  · obtain ⟨q1, k, q2, q3⟩ := B1.2.1
    exact ⟨by rw [b2]; exact q1, k, by rw [b1]; exact q2, q3⟩
  · rw [b2]; exact B1.2.2
  · apply List.ext_getElem?
    intro j
    rw [Array.getElem?_toList, b4 j]
    by_cases h1 : j < q
    · rw [if_neg (by omega), List.getElem?_append_left (by rw [List.length_take]; omega), List.getElem?_take_of_lt h1, ← B3, Array.getElem?_toList]
    · rw [List.getElem?_append_right (by rw [List.length_take]; omega), List.length_take, Nat.min_eq_left (by omega)]
      by_cases h2 : j < q + n
      · rw [if_pos ⟨by omega, h2⟩, List.getElem?_append_left (by rw [List.length_take, List.length_drop]; omega), List.getElem?_take_of_lt (by omega), List.getElem?_drop]
        have hlt : o + (j - q) < cA.slots.size := by omega
        rw [← A3, Array.getElem?_toList, Array.getD_eq_getD_getElem?, Array.getElem?_eq_getElem hlt]; rfl
      · rw [if_neg (by omega), List.getElem?_append_right (by rw [List.length_take, List.length_drop]; omega), List.length_take, List.length_drop, Nat.min_eq_left (by omega), List.getElem?_drop, ← B3, Array.getElem?_toList]
        congr 1; omega
end OwnC
theorem own_frm {k n : Nat} {L : List Loc} (h : Fr k L) (g : n ≤ k) : Fr n L := fun y hy => Nat.le_trans g (h y hy)
def OwnOp (Z : State) (h : Heap) (a : Addr) (x : Int32) : Prop := Exa Z h a "java/util/OptionalInt" ∧ Fld Z h a "java/util/OptionalInt" "isPresent" "Z" (.int 1) ∧ Fld Z h a "java/util/OptionalInt" "value" "I" (.int x)
theorem OwnOp.ext {Z : State} {h h' : Heap} {a : Addr} {x : Int32} (F : OwnOp Z h a x) (E : Ext h h') : OwnOp Z h' a x := ⟨F.1.ext E, F.2.1.ext E, F.2.2.ext E⟩
theorem OwnOp.lt {Z : State} {h : Heap} {a : Addr} {x : Int32} (F : OwnOp Z h a x) : a < h.size := F.1.lt
def QOI (Z : State) (a : Addr) (x : Int32) (h0 : Heap) (n0 : Nat) (v : Option Value) (h : Heap) (L : List Loc) : Prop := v = none ∧ Fr n0 L ∧ Keep h0 h [a] ∧ OwnOp Z h a x
def QOf (Z : State) (x : Int32) (h0 : Heap) (n0 : Nat) (v : Option Value) (h : Heap) (L : List Loc) : Prop := ∃ r, v = some (.ref r) ∧ Fr n0 L ∧ Keep h0 h [] ∧ OwnOp Z h r x
def QK0 (h0 : Heap) (n0 : Nat) (v : Option Value) (h : Heap) (L : List Loc) : Prop := v = none ∧ Fr n0 L ∧ Keep h0 h []
def QRef (h0 : Heap) (n0 : Nat) (v : Option Value) (h : Heap) (L : List Loc) : Prop := ∃ r, v = some (.ref r) ∧ Fr n0 L ∧ Keep h0 h []
def QSet (Z : State) (a : Addr) (iv hz : Int32) (h0 : Heap) (n0 : Nat) (v : Option Value) (h : Heap) (L : List Loc) : Prop := v = none ∧ Fr n0 L ∧ Keep h0 h [a] ∧ Exa Z h a "com/example/tidewatch/tidewatch/core/TidewatchPolicy$Settings" ∧ Fld Z h a "com/example/tidewatch/tidewatch/core/TidewatchPolicy$Settings" "intervalSeconds" "I" (.int iv) ∧ Fld Z h a "com/example/tidewatch/tidewatch/core/TidewatchPolicy$Settings" "horizonSeconds" "I" (.int hz)
def QSz (x : Int32) (h0 : Heap) (n0 : Nat) (v : Option Value) (h : Heap) (L : List Loc) : Prop := ∃ (z : Int32) (d : Nat), v = some (.int z) ∧ Fr n0 L ∧ h = h0 ∧ z.toInt = d ∧ 1 ≤ d ∧ d ≤ 10 ∧ x.toInt < 10 ^ d
/-- a byte[] of 16 places -/
def OwnB (Z : State) (h : Heap) (v : Addr) (kv : ClassId) : Prop := ∃ vs, OwnA Z h v kv .byte vs ∧ vs.length = 16 ∧ ∀ w ∈ vs, fits .byte w = true
def QGc (Z : State) (v : Addr) (kv : ClassId) (h0 : Heap) (n0 : Nat) (r : Option Value) (h : Heap) (L : List Loc) : Prop := ∃ z : Int32, r = some (.int z) ∧ Fr n0 L ∧ Keep h0 h [v] ∧ OwnB Z h v kv
theorem own_fitb (x : Int32) : fits .byte (.int (nar .byte x)) = true := by
  have h := (c_i2b x).2
  show (decide (-128 ≤ x.toInt8.toInt32) && decide (x.toInt8.toInt32 ≤ 127)) = true
  rw [Bool.and_eq_true, decide_eq_true_iff, decide_eq_true_iff, Int32.le_iff_toInt_le, Int32.le_iff_toInt_le]
  have e1 : (-128 : Int32).toInt = -128 := rfl
  have e2 : (127 : Int32).toInt = 127 := rfl
  omega
theorem own_fitset {vs : List Value} {j : Nat} {x : Int32} (h : ∀ w ∈ vs, fits .byte w = true) : ∀ w ∈ vs.set j (.int (nar .byte x)), fits .byte w = true := by
  intro w hw
  rcases List.mem_or_eq_of_mem_set hw with q | q
  · exact h w q
  · rw [q]; exact own_fitb x
theorem own_ltI {x y : Int32} : x < y ↔ x.toInt < y.toInt := Int32.lt_iff_toInt_lt
theorem own_ltL {x y : Int64} : x < y ↔ x.toInt < y.toInt := Int64.lt_iff_toInt_lt
theorem own_tn (x : Int32) : x.toNatClampNeg = x.toInt.toNat := rfl
theorem own_nneg {v : Int32} {c : Nat} (h : v.toInt = c) : ¬ v < 0 := by rw [own_ltI]; have e : (0 : Int32).toInt = 0 := rfl; omega
theorem own_tnc {v : Int32} {c : Nat} (h : v.toInt = c) : v.toNatClampNeg = c := by rw [own_tn, h]; rfl
theorem own_dec1 {v : Int32} {k : Nat} (h : v.toInt = k) (h1 : 1 ≤ k) (h2 : k ≤ 100) : (v + (-1)).toInt = ((k - 1 : Nat) : Int) := by
  have a := c_iadd v (-1)
  have b := rng32 (v + (-1))
  have e : (-1 : Int32).toInt = -1 := rfl
  omega
theorem own_neg {x : Int32} {X : Nat} (h : x.toInt = X) : (-x).toInt = -(X : Int) := by
  have a := c_ineg x
  have b := rng32 (-x)
  have c := rng32 x
  omega
theorem own_g1 {i : Int32} {X : Nat} (h : i.toInt = -(X : Int)) : (i / 100).toInt = -((X / 100 : Nat) : Int) ∧ ((i / 100) * 100 - i).toInt = ((X % 100 : Nat) : Int) := by
  have a := c_idiv i 100 100 rfl (by decide)
  have b := c_imul (i / 100) 100
  have c := c_isub ((i / 100) * 100) i
  have d := rng32 ((i / 100) * 100 - i)
  have e : (100 : Int32).toInt = 100 := rfl
  rw [e] at b
  have f : (i / 100).toInt = -((X / 100 : Nat) : Int) := by omega
  refine ⟨f, ?_⟩
  omega
theorem own_pw {X k : Nat} (h : X < 10 ^ k) (hk : k ≤ 10) (h2 : 100 ≤ X) : 3 ≤ k ∧ X / 100 < 10 ^ (k - 2) ∧ 1 ≤ X / 100 := by
  rcases (by omega : k = 0 ∨ k = 1 ∨ k = 2 ∨ k = 3 ∨ k = 4 ∨ k = 5 ∨ k = 6 ∨ k = 7 ∨ k = 8 ∨ k = 9 ∨ k = 10) with rfl | rfl | rfl | rfl | rfl | rfl | rfl | rfl | rfl | rfl | rfl <;> simp at h ⊢ <;> omega
theorem own_pw1 {X k : Nat} (h : X < 10 ^ k) (h2 : 1 ≤ X) : 1 ≤ k := by
  rcases Nat.eq_zero_or_pos k with rfl | q
  · simp at h; omega
  · exact q
theorem own_pw2 {X k : Nat} (h : X < 10 ^ k) (h2 : 10 ≤ X) : 2 ≤ k := by
  rcases (by omega : k = 0 ∨ k = 1 ∨ 2 ≤ k) with rfl | rfl | q
  · simp at h; omega
  · simp at h; omega
  · exact q
theorem own_pw3 {X k : Nat} (h : X < 10 ^ k) (hk : k ≤ 2) : X < 100 := by
  rcases (by omega : k = 0 ∨ k = 1 ∨ k = 2) with rfl | rfl | rfl <;> simp at h <;> omega
theorem d1_0 : decode jdk_29_method_70_code 0 = .ok (.lload_n 0, 1) := by decide +kernel
theorem d1_1 : decode jdk_29_method_70_code 1 = .ok (.lload_n 2, 1) := by decide +kernel
theorem d1_2 : decode jdk_29_method_70_code 2 = .ok (.lcmp, 1) := by decide +kernel
theorem d1_3 : decode jdk_29_method_70_code 3 = .ok (.ifCond .gt 7, 3) := by decide +kernel
theorem d1_6 : decode jdk_29_method_70_code 6 = .ok (.lload_n 0, 1) := by decide +kernel
theorem d1_7 : decode jdk_29_method_70_code 7 = .ok (.goto 4, 3) := by decide +kernel
theorem d1_10 : decode jdk_29_method_70_code 10 = .ok (.lload_n 2, 1) := by decide +kernel
theorem d1_11 : decode jdk_29_method_70_code 11 = .ok (.lreturn, 1) := by decide +kernel
theorem ef_rmMj (m : MethodId) (a : Int64) (b : Int64) : entryFrame m #[(.long a), (.long b)] 4 = mkF m 0 #[.val (.long a), .second, .val (.long b), .second] [] := by first | (simp [entryFrame, mkF, argsToLocals, Value.category, maxLocals]; done) | rfl
set_option maxRecDepth 65536 in
set_option maxHeartbeats 40000000 in
theorem rmMj (l : Launch) (Z : State) (a0 : Array Value) (hw : ∀ d ∈ tables_1, d.before a0 Z = true) (ws : List Jvm.Cond) (a b : Int64) (h0 : Heap) (n0 : Nat) (Z0 : n0 ≤ h0.size) :
    MetFree l (⟨"java/lang/Math", "min", "(JJ)J"⟩ : MethodName) (head1 (Jvm.Cond.code (⟨"java/lang/Math", "min", "(JJ)J"⟩ : MethodName) jdk_29_method_70_code (4 : Nat) (Option.some Jvm.ClassFile.FieldType.long) :: ws) ({ frames := 0, cells := 0, slots := 0, locals := 0 } : Room)) (fun aZ UZ => aZ = #[(.long a), (.long b)] ∧ Z.Warmed39 UZ.vm ∧ UZ.heap = h0) (fun _ _ _ _ _ => True) (fun _ UZ oZ VZ => ∃ vZ LZ, oZ = .returned vZ ∧ (QSame (some (.long (if 0 < lcmpW a b then b else a))) h0 n0) vZ VZ.heap LZ ∧ FrameEnd UZ oZ VZ LZ ({ frames := 0, cells := 0, slots := 0, locals := 0 } : Room).cells ({ frames := 0, cells := 0, slots := 0, locals := 0 } : Room).slots) := by
  refine MetFree.of_bodySF (Jvm.Free.JP.mathPlain rfl (by decide +kernel)) hisR ?_
  intro p e s m args below meth c s₁ Bd hml0 hP hK
  obtain ⟨rfl, hZ, hh⟩ := hP
  have hx := Bd.exec
  have hby := Bd.bytes
  have hml : c.maxLocals = 4 := hml0
  have hown : s.vm.findClass "java/lang/Math" = some m.cls := findClass_of_methodNamed Bd.named
  have hnm := (name_of_methodNamed Bd.named Bd.method).1
  have X0 : Stand p l e ({ frames := 0, cells := 0, slots := 0, locals := 0 } : Room) s m #[(.long a), (.long b)] below meth c s₁ [] 0 0 := Stand.of_body Bd
  have e0 : s₁.heap = h0 := by rw [← hh, Bd.state]; rfl
  have N0 := Fr.nil n0
  show OwnG p e below (OwnE s (QSame (some (.long (if 0 < lcmpW a b then b else a))) h0 n0) ({ frames := 0, cells := 0, slots := 0, locals := 0 } : Room).cells ({ frames := 0, cells := 0, slots := 0, locals := 0 } : Room).slots) _
  refine own_by (S' := s₁.setTop (mkF m 0 #[.val (.long a), .second, .val (.long b), .second] [])) (fun tZ kZ => castTop (ef_rmMj m a b) kZ) ?_
  refine own_by (S' := s₁.setTop (mkF m 1 #[.val (.long a), .second, .val (.long b), .second] [(.long a)])) (fun tZ kZ => XS.lloadN X0.here hx rfl (hb hby d1_0) rfl kZ) ?_
  refine own_by (S' := s₁.setTop (mkF m 2 #[.val (.long a), .second, .val (.long b), .second] [(.long b), (.long a)])) (fun tZ kZ => XS.lloadN X0.here hx rfl (hb hby d1_1) rfl kZ) ?_
  refine own_by (S' := s₁.setTop (mkF m 3 #[.val (.long a), .second, .val (.long b), .second] [(.int (lcmpW a b))])) (fun tZ kZ => XS.lcmp X0.here hx rfl (hb hby d1_2) rfl kZ) ?_
  by_cases hc : (0 : Int32) < (lcmpW a b)
  · refine own_by (S' := s₁.setTop (mkF m 10 #[.val (.long a), .second, .val (.long b), .second] [])) (fun tZ kZ => XS.ifYes X0.here hx rfl (pc0 := 3) (pc' := 10) rfl (hb hby d1_3) rfl ((if0 _ _).trans (tlt hc).2.2.1) (by decide) (by decide) kZ) ?_
    refine own_by (S' := s₁.setTop (mkF m 11 #[.val (.long a), .second, .val (.long b), .second] [(.long b)])) (fun tZ kZ => XS.lloadN X0.here hx rfl (hb hby d1_10) rfl kZ) ?_
    exact own_retL X0 hx Bd.returns  (hb hby d1_11) Bd.notSynchronized (by decide) (by decide) ⟨by rw [if_pos hc], N0, e0⟩
  · refine own_by (S' := s₁.setTop (mkF m 6 #[.val (.long a), .second, .val (.long b), .second] [])) (fun tZ kZ => XS.ifNo X0.here hx rfl (hb hby d1_3) rfl ((if0 _ _).trans (flt hc).2.2.1) kZ) ?_
    refine own_by (S' := s₁.setTop (mkF m 7 #[.val (.long a), .second, .val (.long b), .second] [(.long a)])) (fun tZ kZ => XS.lloadN X0.here hx rfl (hb hby d1_6) rfl kZ) ?_
    refine own_by (S' := s₁.setTop (mkF m 11 #[.val (.long a), .second, .val (.long b), .second] [(.long a)])) (fun tZ kZ => XS.goto X0.here hx rfl (pc0 := 7) (pc' := 11) rfl (hb hby d1_7) (by decide) (by decide) kZ) ?_
    exact own_retL X0 hx Bd.returns  (hb hby d1_11) Bd.notSynchronized (by decide) (by decide) ⟨by rw [if_neg hc], N0, e0⟩
theorem d2_0 : decode jdk_29_method_65_code 0 = .ok (.iload_n 0, 1) := by decide +kernel
theorem d2_1 : decode jdk_29_method_65_code 1 = .ok (.iload_n 1, 1) := by decide +kernel
theorem d2_2 : decode jdk_29_method_65_code 2 = .ok (.if_icmp .lt 7, 3) := by decide +kernel
theorem d2_5 : decode jdk_29_method_65_code 5 = .ok (.iload_n 0, 1) := by decide +kernel
theorem d2_6 : decode jdk_29_method_65_code 6 = .ok (.goto 4, 3) := by decide +kernel
theorem d2_9 : decode jdk_29_method_65_code 9 = .ok (.iload_n 1, 1) := by decide +kernel
theorem d2_10 : decode jdk_29_method_65_code 10 = .ok (.ireturn, 1) := by decide +kernel
theorem ef_rmMx (m : MethodId) (a : Int32) (b : Int32) : entryFrame m #[(.int a), (.int b)] 2 = mkF m 0 #[.val (.int a), .val (.int b)] [] := by first | (simp [entryFrame, mkF, argsToLocals, Value.category, maxLocals]; done) | rfl
set_option maxRecDepth 65536 in
set_option maxHeartbeats 40000000 in
theorem rmMx (l : Launch) (Z : State) (a0 : Array Value) (hw : ∀ d ∈ tables_1, d.before a0 Z = true) (ws : List Jvm.Cond) (a b : Int32) (h0 : Heap) (n0 : Nat) (Z0 : n0 ≤ h0.size) :
    MetFree l (⟨"java/lang/Math", "max", "(II)I"⟩ : MethodName) (head1 (Jvm.Cond.code (⟨"java/lang/Math", "max", "(II)I"⟩ : MethodName) jdk_29_method_65_code (2 : Nat) (Option.some Jvm.ClassFile.FieldType.int) :: ws) ({ frames := 0, cells := 0, slots := 0, locals := 0 } : Room)) (fun aZ UZ => aZ = #[(.int a), (.int b)] ∧ Z.Warmed39 UZ.vm ∧ UZ.heap = h0) (fun _ _ _ _ _ => True) (fun _ UZ oZ VZ => ∃ vZ LZ, oZ = .returned vZ ∧ (QSame (some (.int (if a < b then b else a))) h0 n0) vZ VZ.heap LZ ∧ FrameEnd UZ oZ VZ LZ ({ frames := 0, cells := 0, slots := 0, locals := 0 } : Room).cells ({ frames := 0, cells := 0, slots := 0, locals := 0 } : Room).slots) := by
  refine MetFree.of_bodySF (Jvm.Free.JP.mathPlain rfl (by decide +kernel)) hisR ?_
  intro p e s m args below meth c s₁ Bd hml0 hP hK
  obtain ⟨rfl, hZ, hh⟩ := hP
  have hx := Bd.exec
  have hby := Bd.bytes
  have hml : c.maxLocals = 2 := hml0
  have hown : s.vm.findClass "java/lang/Math" = some m.cls := findClass_of_methodNamed Bd.named
  have hnm := (name_of_methodNamed Bd.named Bd.method).1
  have X0 : Stand p l e ({ frames := 0, cells := 0, slots := 0, locals := 0 } : Room) s m #[(.int a), (.int b)] below meth c s₁ [] 0 0 := Stand.of_body Bd
  have e0 : s₁.heap = h0 := by rw [← hh, Bd.state]; rfl
  have N0 := Fr.nil n0
  show OwnG p e below (OwnE s (QSame (some (.int (if a < b then b else a))) h0 n0) ({ frames := 0, cells := 0, slots := 0, locals := 0 } : Room).cells ({ frames := 0, cells := 0, slots := 0, locals := 0 } : Room).slots) _
  refine own_by (S' := s₁.setTop (mkF m 0 #[.val (.int a), .val (.int b)] [])) (fun tZ kZ => castTop (ef_rmMx m a b) kZ) ?_
  refine own_by (S' := s₁.setTop (mkF m 1 #[.val (.int a), .val (.int b)] [(.int a)])) (fun tZ kZ => XS.iloadN X0.here hx rfl (hb hby d2_0) rfl kZ) ?_
  refine own_by (S' := s₁.setTop (mkF m 2 #[.val (.int a), .val (.int b)] [(.int b), (.int a)])) (fun tZ kZ => XS.iloadN X0.here hx rfl (hb hby d2_1) rfl kZ) ?_
  by_cases hc : a < b
  · refine own_by (S' := s₁.setTop (mkF m 9 #[.val (.int a), .val (.int b)] [])) (fun tZ kZ => XS.icmpYes X0.here hx rfl (pc0 := 2) (pc' := 9) rfl (hb hby d2_2) rfl (tlt hc).1 (by decide) (by decide) kZ) ?_
    refine own_by (S' := s₁.setTop (mkF m 10 #[.val (.int a), .val (.int b)] [(.int b)])) (fun tZ kZ => XS.iloadN X0.here hx rfl (hb hby d2_9) rfl kZ) ?_
    exact own_retI X0 hx (t := .int) Bd.returns (by simp) rfl (hb hby d2_10) Bd.notSynchronized (by decide) (by decide) ⟨by rw [if_pos hc], N0, e0⟩
  · refine own_by (S' := s₁.setTop (mkF m 5 #[.val (.int a), .val (.int b)] [])) (fun tZ kZ => XS.icmpNo X0.here hx rfl (hb hby d2_2) rfl (flt hc).1 kZ) ?_
    refine own_by (S' := s₁.setTop (mkF m 6 #[.val (.int a), .val (.int b)] [(.int a)])) (fun tZ kZ => XS.iloadN X0.here hx rfl (hb hby d2_5) rfl kZ) ?_
    refine own_by (S' := s₁.setTop (mkF m 10 #[.val (.int a), .val (.int b)] [(.int a)])) (fun tZ kZ => XS.goto X0.here hx rfl (pc0 := 6) (pc' := 10) rfl (hb hby d2_6) (by decide) (by decide) kZ) ?_
    exact own_retI X0 hx (t := .int) Bd.returns (by simp) rfl (hb hby d2_10) Bd.notSynchronized (by decide) (by decide) ⟨by rw [if_neg hc], N0, e0⟩
theorem d44_0 : decode jdk_29_method_69_code 0 = .ok (.iload_n 0, 1) := by decide +kernel
theorem d44_1 : decode jdk_29_method_69_code 1 = .ok (.iload_n 1, 1) := by decide +kernel
theorem d44_2 : decode jdk_29_method_69_code 2 = .ok (.if_icmp .gt 7, 3) := by decide +kernel
theorem d44_5 : decode jdk_29_method_69_code 5 = .ok (.iload_n 0, 1) := by decide +kernel
theorem d44_6 : decode jdk_29_method_69_code 6 = .ok (.goto 4, 3) := by decide +kernel
theorem d44_9 : decode jdk_29_method_69_code 9 = .ok (.iload_n 1, 1) := by decide +kernel
theorem d44_10 : decode jdk_29_method_69_code 10 = .ok (.ireturn, 1) := by decide +kernel
theorem ef_rmMn (m : MethodId) (a : Int32) (b : Int32) : entryFrame m #[(.int a), (.int b)] 2 = mkF m 0 #[.val (.int a), .val (.int b)] [] := by first | (simp [entryFrame, mkF, argsToLocals, Value.category, maxLocals]; done) | rfl
set_option maxRecDepth 65536 in
set_option maxHeartbeats 40000000 in
theorem rmMn (l : Launch) (Z : State) (a0 : Array Value) (hw : ∀ d ∈ tables_1, d.before a0 Z = true) (ws : List Jvm.Cond) (a b : Int32) (h0 : Heap) (n0 : Nat) (Z0 : n0 ≤ h0.size) :
    MetFree l (⟨"java/lang/Math", "min", "(II)I"⟩ : MethodName) (head1 (Jvm.Cond.code (⟨"java/lang/Math", "min", "(II)I"⟩ : MethodName) jdk_29_method_69_code (2 : Nat) (Option.some Jvm.ClassFile.FieldType.int) :: ws) ({ frames := 0, cells := 0, slots := 0, locals := 0 } : Room)) (fun aZ UZ => aZ = #[(.int a), (.int b)] ∧ Z.Warmed39 UZ.vm ∧ UZ.heap = h0) (fun _ _ _ _ _ => True) (fun _ UZ oZ VZ => ∃ vZ LZ, oZ = .returned vZ ∧ (QSame (some (.int (if b < a then b else a))) h0 n0) vZ VZ.heap LZ ∧ FrameEnd UZ oZ VZ LZ ({ frames := 0, cells := 0, slots := 0, locals := 0 } : Room).cells ({ frames := 0, cells := 0, slots := 0, locals := 0 } : Room).slots) := by
  refine MetFree.of_bodySF (Jvm.Free.JP.mathPlain rfl (by decide +kernel)) hisR ?_
  intro p e s m args below meth c s₁ Bd hml0 hP hK
  obtain ⟨rfl, hZ, hh⟩ := hP
  have hx := Bd.exec
  have hby := Bd.bytes
  have hml : c.maxLocals = 2 := hml0
  have hown : s.vm.findClass "java/lang/Math" = some m.cls := findClass_of_methodNamed Bd.named
  have hnm := (name_of_methodNamed Bd.named Bd.method).1
  have X0 : Stand p l e ({ frames := 0, cells := 0, slots := 0, locals := 0 } : Room) s m #[(.int a), (.int b)] below meth c s₁ [] 0 0 := Stand.of_body Bd
  have e0 : s₁.heap = h0 := by rw [← hh, Bd.state]; rfl
  have N0 := Fr.nil n0
  show OwnG p e below (OwnE s (QSame (some (.int (if b < a then b else a))) h0 n0) ({ frames := 0, cells := 0, slots := 0, locals := 0 } : Room).cells ({ frames := 0, cells := 0, slots := 0, locals := 0 } : Room).slots) _
  refine own_by (S' := s₁.setTop (mkF m 0 #[.val (.int a), .val (.int b)] [])) (fun tZ kZ => castTop (ef_rmMn m a b) kZ) ?_
  refine own_by (S' := s₁.setTop (mkF m 1 #[.val (.int a), .val (.int b)] [(.int a)])) (fun tZ kZ => XS.iloadN X0.here hx rfl (hb hby d44_0) rfl kZ) ?_
  refine own_by (S' := s₁.setTop (mkF m 2 #[.val (.int a), .val (.int b)] [(.int b), (.int a)])) (fun tZ kZ => XS.iloadN X0.here hx rfl (hb hby d44_1) rfl kZ) ?_
  by_cases hc : b < a
  · refine own_by (S' := s₁.setTop (mkF m 9 #[.val (.int a), .val (.int b)] [])) (fun tZ kZ => XS.icmpYes X0.here hx rfl (pc0 := 2) (pc' := 9) rfl (hb hby d44_2) rfl (tlt hc).2.2.1 (by decide) (by decide) kZ) ?_
    refine own_by (S' := s₁.setTop (mkF m 10 #[.val (.int a), .val (.int b)] [(.int b)])) (fun tZ kZ => XS.iloadN X0.here hx rfl (hb hby d44_9) rfl kZ) ?_
    exact own_retI X0 hx (t := .int) Bd.returns (by simp) rfl (hb hby d44_10) Bd.notSynchronized (by decide) (by decide) ⟨by rw [if_pos hc], N0, e0⟩
  · refine own_by (S' := s₁.setTop (mkF m 5 #[.val (.int a), .val (.int b)] [])) (fun tZ kZ => XS.icmpNo X0.here hx rfl (hb hby d44_2) rfl (flt hc).2.2.1 kZ) ?_
    refine own_by (S' := s₁.setTop (mkF m 6 #[.val (.int a), .val (.int b)] [(.int a)])) (fun tZ kZ => XS.iloadN X0.here hx rfl (hb hby d44_5) rfl kZ) ?_
    refine own_by (S' := s₁.setTop (mkF m 10 #[.val (.int a), .val (.int b)] [(.int a)])) (fun tZ kZ => XS.goto X0.here hx rfl (pc0 := 6) (pc' := 10) rfl (hb hby d44_6) (by decide) (by decide) kZ) ?_
    exact own_retI X0 hx (t := .int) Bd.returns (by simp) rfl (hb hby d44_10) Bd.notSynchronized (by decide) (by decide) ⟨by rw [if_neg hc], N0, e0⟩
theorem d4_0 : decode jdk_30_method_1_code 0 = .ok (.aload_n 0, 1) := by decide +kernel
theorem d4_1 : decode jdk_30_method_1_code 1 = .ok (.invokespecial 1, 3) := by decide +kernel
theorem d4_4 : decode jdk_30_method_1_code 4 = .ok (.return_, 1) := by decide +kernel
theorem pn_0 : plainName "java/lang/Record" = true := by first | (simp [plainName, overriddenIn]; done) | decide +kernel
theorem ef_rmRec (m : MethodId) (f : Addr) : entryFrame m #[(.ref f)] 1 = mkF m 0 #[.val (.ref f)] [] := by first | (simp [entryFrame, mkF, argsToLocals, Value.category, maxLocals]; done) | rfl
set_option maxRecDepth 65536 in
set_option maxHeartbeats 40000000 in
theorem rmRec (l : Launch) (Z : State) (a0 : Array Value) (hw : ∀ d ∈ tables_1, d.before a0 Z = true) (ws : List Jvm.Cond) (f : Addr) (h0 : Heap) (n0 : Nat) (Z0 : n0 ≤ h0.size) :
    MetFree l (⟨"java/lang/Record", "<init>", "()V"⟩ : MethodName) (head1 (Jvm.Cond.code (⟨"java/lang/Record", "<init>", "()V"⟩ : MethodName) jdk_30_method_1_code (1 : Nat) (Option.none : Option Jvm.ClassFile.FieldType) :: ws) ({ frames := 1, cells := 0, slots := 0, locals := 12 } : Room)) (fun aZ UZ => aZ = #[(.ref f)] ∧ Z.Warmed39 UZ.vm ∧ UZ.heap = h0) (fun _ _ _ _ _ => True) (fun _ UZ oZ VZ => ∃ vZ LZ, oZ = .returned vZ ∧ (QSame none h0 n0) vZ VZ.heap LZ ∧ FrameEnd UZ oZ VZ LZ ({ frames := 1, cells := 0, slots := 0, locals := 12 } : Room).cells ({ frames := 1, cells := 0, slots := 0, locals := 12 } : Room).slots) := by
  refine MetFree.of_bodySF (plainFor_of_name pn_0) hisR ?_
  intro p e s m args below meth c s₁ Bd hml0 hP hK
  obtain ⟨rfl, hZ, hh⟩ := hP
  have hx := Bd.exec
  have hby := Bd.bytes
  have hml : c.maxLocals = 1 := hml0
  have hown : s.vm.findClass "java/lang/Record" = some m.cls := findClass_of_methodNamed Bd.named
  have hnm := (name_of_methodNamed Bd.named Bd.method).1
  have X0 : Stand p l e ({ frames := 1, cells := 0, slots := 0, locals := 12 } : Room) s m #[(.ref f)] below meth c s₁ [] 0 0 := Stand.of_body Bd
  have e0 : s₁.heap = h0 := by rw [← hh, Bd.state]; rfl
  have N0 := Fr.nil n0
  show OwnG p e below (OwnE s (QSame none h0 n0) ({ frames := 1, cells := 0, slots := 0, locals := 12 } : Room).cells ({ frames := 1, cells := 0, slots := 0, locals := 12 } : Room).slots) _
  refine own_by (S' := s₁.setTop (mkF m 0 #[.val (.ref f)] [])) (fun tZ kZ => castTop (ef_rmRec m f) kZ) ?_
  refine own_by (S' := s₁.setTop (mkF m 1 #[.val (.ref f)] [(.ref f)])) (fun tZ kZ => XS.aloadN X0.here hx rfl (hb hby d4_0) rfl rfl kZ) ?_
  obtain ⟨T1, X1, e1, st1⟩ := initO X0 hx hZ hown (hw_ hw 21 rfl) (hw_ hw 22 rfl) (hw_ hw 23 rfl) e0 (g := (mkF m 1 #[.val (.ref f)] [(.ref f)])) rfl (by rw [hml]; rfl) rfl (hb hby d4_1) (by decide) (W := 0) (by show 2 * 0 + _ ≤ _; exact Nat.le_of_eq rfl) (by decide)
  refine own_by (S' := T1.setTop (mkF m 4 #[.val (.ref f)] [])) st1 ?_
  exact own_ret0 X1 hx Bd.returns (hb hby d4_4) Bd.notSynchronized (by decide) (by decide) ⟨rfl, N0, e1⟩
theorem d7_0 : decode jdk_2649_method_3_code 0 = .ok (.aload_n 0, 1) := by decide +kernel
theorem d7_1 : decode jdk_2649_method_3_code 1 = .ok (.invokespecial 1, 3) := by decide +kernel
theorem d7_4 : decode jdk_2649_method_3_code 4 = .ok (.aload_n 0, 1) := by decide +kernel
theorem d7_5 : decode jdk_2649_method_3_code 5 = .ok (.iconst 1, 1) := by decide +kernel
theorem d7_6 : decode jdk_2649_method_3_code 6 = .ok (.putfield 7, 3) := by decide +kernel
theorem d7_9 : decode jdk_2649_method_3_code 9 = .ok (.aload_n 0, 1) := by decide +kernel
theorem d7_10 : decode jdk_2649_method_3_code 10 = .ok (.iload_n 1, 1) := by decide +kernel
theorem d7_11 : decode jdk_2649_method_3_code 11 = .ok (.putfield 13, 3) := by decide +kernel
theorem d7_14 : decode jdk_2649_method_3_code 14 = .ok (.return_, 1) := by decide +kernel
theorem pn_1 : plainName "java/util/OptionalInt" = true := by first | (simp [plainName, overriddenIn]; done) | decide +kernel
theorem ef_rmOi (m : MethodId) (b : Addr) (x : Int32) : entryFrame m #[(.ref b), (.int x)] 2 = mkF m 0 #[.val (.ref b), .val (.int x)] [] := by first | (simp [entryFrame, mkF, argsToLocals, Value.category, maxLocals]; done) | rfl
set_option maxRecDepth 65536 in
set_option maxHeartbeats 40000000 in
theorem rmOi (l : Launch) (Z : State) (a0 : Array Value) (hw : ∀ d ∈ tables_1, d.before a0 Z = true) (ws : List Jvm.Cond) (b : Addr) (x : Int32) (h0 : Heap) (n0 : Nat) (Z0 : n0 ≤ h0.size) (Ex_b : Exa Z h0 b "java/util/OptionalInt") (F_p : Fld Z h0 b "java/util/OptionalInt" "isPresent" "Z" (.int 0)) (F_v : Fld Z h0 b "java/util/OptionalInt" "value" "I" (.int 0)) (g_b : n0 ≤ b) :
    MetFree l (⟨"java/util/OptionalInt", "<init>", "(I)V"⟩ : MethodName) (head1 (Jvm.Cond.code (⟨"java/util/OptionalInt", "<init>", "(I)V"⟩ : MethodName) jdk_2649_method_3_code (2 : Nat) (Option.none : Option Jvm.ClassFile.FieldType) :: ws) ({ frames := 1, cells := 0, slots := 0, locals := 12 } : Room)) (fun aZ UZ => aZ = #[(.ref b), (.int x)] ∧ Z.Warmed39 UZ.vm ∧ UZ.heap = h0) (fun _ _ _ _ _ => True) (fun _ UZ oZ VZ => ∃ vZ LZ, oZ = .returned vZ ∧ (QOI Z b x h0 n0) vZ VZ.heap LZ ∧ FrameEnd UZ oZ VZ LZ ({ frames := 1, cells := 0, slots := 0, locals := 12 } : Room).cells ({ frames := 1, cells := 0, slots := 0, locals := 12 } : Room).slots) := by
  refine MetFree.of_bodySF (plainFor_of_name pn_1) hisR ?_
  intro p e s m args below meth c s₁ Bd hml0 hP hK
  obtain ⟨rfl, hZ, hh⟩ := hP
  have hx := Bd.exec
  have hby := Bd.bytes
  have hml : c.maxLocals = 2 := hml0
  have hown : s.vm.findClass "java/util/OptionalInt" = some m.cls := findClass_of_methodNamed Bd.named
  have hnm := (name_of_methodNamed Bd.named Bd.method).1
  have X0 : Stand p l e ({ frames := 1, cells := 0, slots := 0, locals := 12 } : Room) s m #[(.ref b), (.int x)] below meth c s₁ [] 0 0 := Stand.of_body Bd
  have e0 : s₁.heap = h0 := by rw [← hh, Bd.state]; rfl
  have N0 := Fr.nil n0
  show OwnG p e below (OwnE s (QOI Z b x h0 n0) ({ frames := 1, cells := 0, slots := 0, locals := 12 } : Room).cells ({ frames := 1, cells := 0, slots := 0, locals := 12 } : Room).slots) _
  refine own_by (S' := s₁.setTop (mkF m 0 #[.val (.ref b), .val (.int x)] [])) (fun tZ kZ => castTop (ef_rmOi m b x) kZ) ?_
  refine own_by (S' := s₁.setTop (mkF m 1 #[.val (.ref b), .val (.int x)] [(.ref b)])) (fun tZ kZ => XS.aloadN X0.here hx rfl (hb hby d7_0) rfl rfl kZ) ?_
  obtain ⟨T1, X1, e1, st1⟩ := initO X0 hx hZ hown (hw_ hw 34 rfl) (hw_ hw 22 rfl) (hw_ hw 23 rfl) e0 (g := (mkF m 1 #[.val (.ref b), .val (.int x)] [(.ref b)])) rfl (by rw [hml]; rfl) rfl (hb hby d7_1) (by decide) (W := 0) (by show 2 * 0 + _ ≤ _; exact Nat.le_of_eq rfl) (by decide)
  refine own_by (S' := T1.setTop (mkF m 4 #[.val (.ref b), .val (.int x)] [])) st1 ?_
  refine own_by (S' := T1.setTop (mkF m 5 #[.val (.ref b), .val (.int x)] [(.ref b)])) (fun tZ kZ => XS.aloadN X1.here hx rfl (hb hby d7_4) rfl rfl kZ) ?_
  refine own_by (S' := T1.setTop (mkF m 6 #[.val (.ref b), .val (.int x)] [(.int (1 : Int32)), (.ref b)])) (fun tZ kZ => XS.iconst X1.here hx rfl (hb hby d7_5) kZ) ?_
  obtain ⟨T2, h2, X2, e2, W2, st2⟩ := putFN X1 hx hZ hown (hw_ hw 35 rfl) Via.refl e1 F_p Ex_b (Or.inr ⟨(hw_ hw 36 rfl), rfl, hnm⟩) (hw_ hw 29 rfl) (ty := .boolean) (v' := (.int (1 : Int32))) (by decide) rfl rfl (g := (mkF m 6 #[.val (.ref b), .val (.int x)] [(.int (1 : Int32)), (.ref b)])) rfl rfl (hb hby d7_6)
  have N2 := Fr.snoc X2 N0 g_b
  have Ex_b_2 := Ex_b.wr W2
  have F_p_2 := F_p.same W2
  have F_v_2 := F_v.other W2 (Or.inr (slot_ne (Or.inr (hw_ hw 38 rfl)) (Or.inr (hw_ hw 36 rfl)) (by decide) (t := .int) (t' := .boolean) (by decide) (by decide)))
  have Zs2 : n0 ≤ h2.size := Nat.le_trans Z0 (Keep.of_wr W2).1
  have K2 := (Keep.refl h0 [b]).wr W2 (Or.inl (List.mem_of_getElem? (i := 0) rfl))
  refine own_by (S' := T2.setTop (mkF m 9 #[.val (.ref b), .val (.int x)] [])) st2 ?_
  refine own_by (S' := T2.setTop (mkF m 10 #[.val (.ref b), .val (.int x)] [(.ref b)])) (fun tZ kZ => XS.aloadN X2.here hx rfl (hb hby d7_9) rfl rfl kZ) ?_
  refine own_by (S' := T2.setTop (mkF m 11 #[.val (.ref b), .val (.int x)] [(.int x), (.ref b)])) (fun tZ kZ => XS.iloadN X2.here hx rfl (hb hby d7_10) rfl kZ) ?_
  obtain ⟨T3, h3, X3, e3, W3, st3⟩ := putF X2 hx hZ hown (host := "") (Or.inl (hw_ hw 37 rfl)) Via.refl e2 F_v_2 Ex_b_2 (Or.inr ⟨(hw_ hw 38 rfl), rfl, hnm⟩) (hw_ hw 29 rfl) (ty := .int) (by decide) rfl rfl (g := (mkF m 11 #[.val (.ref b), .val (.int x)] [(.int x), (.ref b)])) rfl rfl (hb hby d7_11)
  have N3 := Fr.snoc X3 N2 g_b
  have Ex_b_3 := Ex_b_2.wr W3
  have F_p_3 := F_p_2.other W3 (Or.inr (slot_ne (Or.inr (hw_ hw 36 rfl)) (Or.inr (hw_ hw 38 rfl)) (by decide) (t := .boolean) (t' := .int) (by decide) (by decide)))
  have F_v_3 := F_v_2.same W3
  have Zs3 : n0 ≤ h3.size := Nat.le_trans Zs2 (Keep.of_wr W3).1
  have K3 := K2.wr W3 (Or.inl (List.mem_of_getElem? (i := 0) rfl))
  refine own_by (S' := T3.setTop (mkF m 14 #[.val (.ref b), .val (.int x)] [])) st3 ?_
  exact own_ret0 X3 hx Bd.returns (hb hby d7_14) Bd.notSynchronized (by decide) (by decide) (show QOI Z b x h0 n0 none T3.heap _ from by rw [e3]; exact ⟨rfl, N3, K3, Ex_b_3, F_p_3, F_v_3⟩)
theorem d6_0 : decode jdk_2649_method_4_code 0 = .ok (.new 8, 3) := by decide +kernel
theorem d6_3 : decode jdk_2649_method_4_code 3 = .ok (.dup, 1) := by decide +kernel
theorem d6_4 : decode jdk_2649_method_4_code 4 = .ok (.iload_n 0, 1) := by decide +kernel
theorem d6_5 : decode jdk_2649_method_4_code 5 = .ok (.invokespecial 21, 3) := by decide +kernel
theorem d6_8 : decode jdk_2649_method_4_code 8 = .ok (.areturn, 1) := by decide +kernel
theorem ef_rmOf (m : MethodId) (x : Int32) : entryFrame m #[(.int x)] 1 = mkF m 0 #[.val (.int x)] [] := by first | (simp [entryFrame, mkF, argsToLocals, Value.category, maxLocals]; done) | rfl
set_option maxRecDepth 65536 in
set_option maxHeartbeats 40000000 in
theorem rmOf (l : Launch) (Z : State) (a0 : Array Value) (hw : ∀ d ∈ tables_1, d.before a0 Z = true) (ws : List Jvm.Cond) (x : Int32) (h0 : Heap) (n0 : Nat) (Z0 : n0 ≤ h0.size) :
    MetFree l (⟨"java/util/OptionalInt", "of", "(I)Ljava/util/OptionalInt;"⟩ : MethodName) (head1 (Jvm.Cond.code (⟨"java/util/OptionalInt", "of", "(I)Ljava/util/OptionalInt;"⟩ : MethodName) jdk_2649_method_4_code (1 : Nat) (Option.some (Jvm.ClassFile.FieldType.object "java/util/OptionalInt")) :: ws) ({ frames := 2, cells := 1, slots := 2, locals := 26 } : Room)) (fun aZ UZ => aZ = #[(.int x)] ∧ Z.Warmed39 UZ.vm ∧ UZ.heap = h0) (fun _ _ _ _ _ => True) (fun _ UZ oZ VZ => ∃ vZ LZ, oZ = .returned vZ ∧ (QOf Z x h0 n0) vZ VZ.heap LZ ∧ FrameEnd UZ oZ VZ LZ ({ frames := 2, cells := 1, slots := 2, locals := 26 } : Room).cells ({ frames := 2, cells := 1, slots := 2, locals := 26 } : Room).slots) := by
  refine MetFree.of_bodySF (plainFor_of_name pn_1) hisR ?_
  intro p e s m args below meth c s₁ Bd hml0 hP hK
  obtain ⟨rfl, hZ, hh⟩ := hP
  have hx := Bd.exec
  have hby := Bd.bytes
  have hml : c.maxLocals = 1 := hml0
  have hown : s.vm.findClass "java/util/OptionalInt" = some m.cls := findClass_of_methodNamed Bd.named
  have hnm := (name_of_methodNamed Bd.named Bd.method).1
  have X0 : Stand p l e ({ frames := 2, cells := 1, slots := 2, locals := 26 } : Room) s m #[(.int x)] below meth c s₁ [] 0 0 := Stand.of_body Bd
  have e0 : s₁.heap = h0 := by rw [← hh, Bd.state]; rfl
  have N0 := Fr.nil n0
  show OwnG p e below (OwnE s (QOf Z x h0 n0) ({ frames := 2, cells := 1, slots := 2, locals := 26 } : Room).cells ({ frames := 2, cells := 1, slots := 2, locals := 26 } : Room).slots) _
  refine own_by (S' := s₁.setTop (mkF m 0 #[.val (.int x)] [])) (fun tZ kZ => castTop (ef_rmOf m x) kZ) ?_
  obtain ⟨T1, h1, X1, e1, E1, A1, D1, U1, st1⟩ := newO X0 hx hZ hown (hw_ hw 28 rfl) (hw_ hw 29 rfl) (hw_ hw 26 rfl) e0 (g := (mkF m 0 #[.val (.int x)] [])) rfl (hb hby d6_0) (by decide) (by decide)
  obtain ⟨b1, g1⟩ : ∃ z, z = h0.size := ⟨_, rfl⟩
  rw [← g1] at A1 D1 U1 st1
  have g_b1 : n0 ≤ b1 := Nat.le_trans Z0 (Nat.le_of_eq g1.symm)
  have sz_b1 : h0.size ≤ b1 := Nat.le_trans (Keep.refl h0 []).1 (Nat.le_of_eq g1.symm)
  have Zs1 : n0 ≤ h1.size := Nat.le_trans Z0 E1.1
  have K1 := (Keep.refl h0 []).ext E1
  have Ex_b1 := A1
  have F_isPresent_b1 : Fld Z h1 b1 "java/util/OptionalInt" "isPresent" "Z" (.int (0 : Int32)) := D1 (Or.inr (hw_ hw 36 rfl)) (ty := .boolean) (by decide)
  have F_value_b1 : Fld Z h1 b1 "java/util/OptionalInt" "value" "I" (.int (0 : Int32)) := D1 (Or.inr (hw_ hw 38 rfl)) (ty := .int) (by decide)
  refine own_by (S' := T1.setTop (mkF m 3 #[.val (.int x)] [(.ref b1)])) st1 ?_
  refine own_by (S' := T1.setTop (mkF m 4 #[.val (.int x)] [(.ref b1), (.ref b1)])) (fun tZ kZ => XS.dup X1.here hx rfl (hb hby d6_3) rfl rfl kZ) ?_
  refine own_by (S' := T1.setTop (mkF m 5 #[.val (.int x)] [(.int x), (.ref b1), (.ref b1)])) (fun tZ kZ => XS.iloadN X1.here hx rfl (hb hby d6_4) rfl kZ) ?_
  obtain ⟨_, _, ⟨T2, L2, k2, n2⟩, -, X2, ⟨Lc2, hQ2, l2, y2, z2⟩, st2⟩ := X1.specialBack hx (y := (⟨"java/util/OptionalInt", "<init>", "(I)V"⟩ : MethodName)) rfl hown (mvT hZ (hw_ hw 30 rfl)) (mvT hZ (hw_ hw 31 rfl)) (mvT hZ (hw_ hw 33 rfl)) (by decide) (backOf (W := 1) (rmOi l Z a0 hw [] b1 x h1 n0 Zs1 Ex_b1 F_isPresent_b1 F_value_b1 g_b1) hZ (hw_ hw 33 rfl) (hw_ hw 26 rfl) (by decide) (by decide)) (g := (mkF m 5 #[.val (.int x)] [(.int x), (.ref b1), (.ref b1)])) rfl (by rw [hml]; rfl) (Steps.refl _) (a := b1) (argsL := [(.int x)]) (rest := [(.ref b1)]) (lenOf pd_0 rfl) rfl (by show 2 * 0 + _ ≤ _; exact Nat.le_of_eq rfl) (hb hby d6_5) (fun _ _ => ⟨rfl, e1, (by decide : 1 + 0 ≤ _), (by decide : 2 + 0 ≤ _)⟩)
  dsimp only [Pt.U, Pt.locs, Pt.cells, Pt.slots] at X2 l2 y2 z2 st2 hQ2
  subst l2 y2 z2
  obtain ⟨rfl, N2q, Kc2, qo2⟩ := hQ2
  have N2 := Fr.app N0 N2q
  have Zs2 := Nat.le_trans Zs1 Kc2.1
  have K2 := K1.trans Kc2 (fun x hx => by
      simp only [List.mem_cons, List.not_mem_nil, or_false] at hx
      rcases hx with rfl
      · exact Or.inr sz_b1)
  have Ex_b1_2 := Ex_b1.keep Kc2
  refine own_by (S' := T2.setTop (mkF m 8 #[.val (.int x)] [(.ref b1)])) (fun tZ kZ => st2.trans kZ) ?_
  exact own_retA X2 hx Bd.returns rfl rfl (hb hby d6_8) Bd.notSynchronized (by decide) (by decide) ⟨b1, rfl, N2, K2, qo2⟩
theorem d18_0 : decode jdk_2649_method_6_code 0 = .ok (.aload_n 0, 1) := by decide +kernel
theorem d18_1 : decode jdk_2649_method_6_code 1 = .ok (.getfield 7, 3) := by decide +kernel
theorem d18_4 : decode jdk_2649_method_6_code 4 = .ok (.ireturn, 1) := by decide +kernel
theorem ef_rmPr (m : MethodId) (o : Addr) : entryFrame m #[(.ref o)] 1 = mkF m 0 #[.val (.ref o)] [] := by first | (simp [entryFrame, mkF, argsToLocals, Value.category, maxLocals]; done) | rfl
set_option maxRecDepth 65536 in
set_option maxHeartbeats 40000000 in
theorem rmPr (l : Launch) (Z : State) (a0 : Array Value) (hw : ∀ d ∈ tables_1, d.before a0 Z = true) (ws : List Jvm.Cond) (o : Addr) (x : Int32) (h0 : Heap) (n0 : Nat) (Z0 : n0 ≤ h0.size) (O : OwnOp Z h0 o x) :
    MetFree l (⟨"java/util/OptionalInt", "isPresent", "()Z"⟩ : MethodName) (head1 (Jvm.Cond.code (⟨"java/util/OptionalInt", "isPresent", "()Z"⟩ : MethodName) jdk_2649_method_6_code (1 : Nat) (Option.some Jvm.ClassFile.FieldType.boolean) :: ws) ({ frames := 0, cells := 0, slots := 0, locals := 0 } : Room)) (fun aZ UZ => aZ = #[(.ref o)] ∧ Z.Warmed39 UZ.vm ∧ UZ.heap = h0) (fun _ _ _ _ _ => True) (fun _ UZ oZ VZ => ∃ vZ LZ, oZ = .returned vZ ∧ (QSame (some (.int 1)) h0 n0) vZ VZ.heap LZ ∧ FrameEnd UZ oZ VZ LZ ({ frames := 0, cells := 0, slots := 0, locals := 0 } : Room).cells ({ frames := 0, cells := 0, slots := 0, locals := 0 } : Room).slots) := by
  refine MetFree.of_bodySF (plainFor_of_name pn_1) hisR ?_
  intro p e s m args below meth c s₁ Bd hml0 hP hK
  obtain ⟨rfl, hZ, hh⟩ := hP
  have hx := Bd.exec
  have hby := Bd.bytes
  have hml : c.maxLocals = 1 := hml0
  have hown : s.vm.findClass "java/util/OptionalInt" = some m.cls := findClass_of_methodNamed Bd.named
  have hnm := (name_of_methodNamed Bd.named Bd.method).1
  have X0 : Stand p l e ({ frames := 0, cells := 0, slots := 0, locals := 0 } : Room) s m #[(.ref o)] below meth c s₁ [] 0 0 := Stand.of_body Bd
  have e0 : s₁.heap = h0 := by rw [← hh, Bd.state]; rfl
  have N0 := Fr.nil n0
  show OwnG p e below (OwnE s (QSame (some (.int 1)) h0 n0) ({ frames := 0, cells := 0, slots := 0, locals := 0 } : Room).cells ({ frames := 0, cells := 0, slots := 0, locals := 0 } : Room).slots) _
  refine own_by (S' := s₁.setTop (mkF m 0 #[.val (.ref o)] [])) (fun tZ kZ => castTop (ef_rmPr m o) kZ) ?_
  refine own_by (S' := s₁.setTop (mkF m 1 #[.val (.ref o)] [(.ref o)])) (fun tZ kZ => XS.aloadN X0.here hx rfl (hb hby d18_0) rfl rfl kZ) ?_
  obtain ⟨T1, X1, e1, st1⟩ := getF X0 hx hZ hown (host := "") (Or.inl (hw_ hw 35 rfl)) Via.refl e0 O.2.1 (g := (mkF m 1 #[.val (.ref o)] [(.ref o)])) rfl rfl (hb hby d18_1)
  refine own_by (S' := T1.setTop (mkF m 4 #[.val (.ref o)] [(.int (1 : Int32))])) st1 ?_
  exact own_retI X1 hx (t := .boolean) Bd.returns (by simp) rfl (hb hby d18_4) Bd.notSynchronized (by decide) (by decide) ⟨rfl, N0, e1⟩
theorem d19_0 : decode jdk_2649_method_5_code 0 = .ok (.aload_n 0, 1) := by decide +kernel
theorem d19_1 : decode jdk_2649_method_5_code 1 = .ok (.getfield 7, 3) := by decide +kernel
theorem d19_4 : decode jdk_2649_method_5_code 4 = .ok (.ifCond .ne 13, 3) := by decide +kernel
theorem d19_7 : decode jdk_2649_method_5_code 7 = .ok (.new 24, 3) := by decide +kernel
theorem d19_10 : decode jdk_2649_method_5_code 10 = .ok (.dup, 1) := by decide +kernel
theorem d19_11 : decode jdk_2649_method_5_code 11 = .ok (.ldc 26, 2) := by decide +kernel
theorem d19_13 : decode jdk_2649_method_5_code 13 = .ok (.invokespecial 28, 3) := by decide +kernel
theorem d19_16 : decode jdk_2649_method_5_code 16 = .ok (.athrow, 1) := by decide +kernel
theorem d19_17 : decode jdk_2649_method_5_code 17 = .ok (.aload_n 0, 1) := by decide +kernel
theorem d19_18 : decode jdk_2649_method_5_code 18 = .ok (.getfield 13, 3) := by decide +kernel
theorem d19_21 : decode jdk_2649_method_5_code 21 = .ok (.ireturn, 1) := by decide +kernel
theorem ef_rmGi (m : MethodId) (o : Addr) : entryFrame m #[(.ref o)] 1 = mkF m 0 #[.val (.ref o)] [] := by first | (simp [entryFrame, mkF, argsToLocals, Value.category, maxLocals]; done) | rfl
set_option maxRecDepth 65536 in
set_option maxHeartbeats 40000000 in
theorem rmGi (l : Launch) (Z : State) (a0 : Array Value) (hw : ∀ d ∈ tables_1, d.before a0 Z = true) (ws : List Jvm.Cond) (o : Addr) (x : Int32) (h0 : Heap) (n0 : Nat) (Z0 : n0 ≤ h0.size) (O : OwnOp Z h0 o x) :
    MetFree l (⟨"java/util/OptionalInt", "getAsInt", "()I"⟩ : MethodName) (head1 (Jvm.Cond.code (⟨"java/util/OptionalInt", "getAsInt", "()I"⟩ : MethodName) jdk_2649_method_5_code (1 : Nat) (Option.some Jvm.ClassFile.FieldType.int) :: ws) ({ frames := 0, cells := 0, slots := 0, locals := 0 } : Room)) (fun aZ UZ => aZ = #[(.ref o)] ∧ Z.Warmed39 UZ.vm ∧ UZ.heap = h0) (fun _ _ _ _ _ => True) (fun _ UZ oZ VZ => ∃ vZ LZ, oZ = .returned vZ ∧ (QSame (some (.int x)) h0 n0) vZ VZ.heap LZ ∧ FrameEnd UZ oZ VZ LZ ({ frames := 0, cells := 0, slots := 0, locals := 0 } : Room).cells ({ frames := 0, cells := 0, slots := 0, locals := 0 } : Room).slots) := by
  refine MetFree.of_bodySF (plainFor_of_name pn_1) hisR ?_
  intro p e s m args below meth c s₁ Bd hml0 hP hK
  obtain ⟨rfl, hZ, hh⟩ := hP
  have hx := Bd.exec
  have hby := Bd.bytes
  have hml : c.maxLocals = 1 := hml0
  have hown : s.vm.findClass "java/util/OptionalInt" = some m.cls := findClass_of_methodNamed Bd.named
  have hnm := (name_of_methodNamed Bd.named Bd.method).1
  have X0 : Stand p l e ({ frames := 0, cells := 0, slots := 0, locals := 0 } : Room) s m #[(.ref o)] below meth c s₁ [] 0 0 := Stand.of_body Bd
  have e0 : s₁.heap = h0 := by rw [← hh, Bd.state]; rfl
  have N0 := Fr.nil n0
  show OwnG p e below (OwnE s (QSame (some (.int x)) h0 n0) ({ frames := 0, cells := 0, slots := 0, locals := 0 } : Room).cells ({ frames := 0, cells := 0, slots := 0, locals := 0 } : Room).slots) _
  refine own_by (S' := s₁.setTop (mkF m 0 #[.val (.ref o)] [])) (fun tZ kZ => castTop (ef_rmGi m o) kZ) ?_
  refine own_by (S' := s₁.setTop (mkF m 1 #[.val (.ref o)] [(.ref o)])) (fun tZ kZ => XS.aloadN X0.here hx rfl (hb hby d19_0) rfl rfl kZ) ?_
  obtain ⟨T1, X1, e1, st1⟩ := getF X0 hx hZ hown (host := "") (Or.inl (hw_ hw 35 rfl)) Via.refl e0 O.2.1 (g := (mkF m 1 #[.val (.ref o)] [(.ref o)])) rfl rfl (hb hby d19_1)
  refine own_by (S' := T1.setTop (mkF m 4 #[.val (.ref o)] [(.int (1 : Int32))])) st1 ?_
  refine own_by (S' := T1.setTop (mkF m 17 #[.val (.ref o)] [])) (fun tZ kZ => XS.ifYes X1.here hx rfl (pc0 := 4) (pc' := 17) rfl (hb hby d19_4) rfl ((if0 _ _).trans (feq (by decide)).2) (by decide) (by decide) kZ) ?_
  refine own_by (S' := T1.setTop (mkF m 18 #[.val (.ref o)] [(.ref o)])) (fun tZ kZ => XS.aloadN X1.here hx rfl (hb hby d19_17) rfl rfl kZ) ?_
  obtain ⟨T2, X2, e2, st2⟩ := getF X1 hx hZ hown (host := "") (Or.inl (hw_ hw 37 rfl)) Via.refl e1 O.2.2 (g := (mkF m 18 #[.val (.ref o)] [(.ref o)])) rfl rfl (hb hby d19_18)
  refine own_by (S' := T2.setTop (mkF m 21 #[.val (.ref o)] [(.int x)])) st2 ?_
  exact own_retI X2 hx (t := .int) Bd.returns (by simp) rfl (hb hby d19_21) Bd.notSynchronized (by decide) (by decide) ⟨rfl, N0, e2⟩
theorem d9_0 : decode prog_62_method_2_code 0 = .ok (.dload_n 0, 1) := by decide +kernel
theorem d9_1 : decode prog_62_method_2_code 1 = .ok (.dconst 0, 1) := by decide +kernel
theorem d9_2 : decode prog_62_method_2_code 2 = .ok (.dcmp .l, 1) := by decide +kernel
theorem d9_3 : decode prog_62_method_2_code 3 = .ok (.ifCond .le 9, 3) := by decide +kernel
theorem d9_6 : decode prog_62_method_2_code 6 = .ok (.dload_n 0, 1) := by decide +kernel
theorem d9_7 : decode prog_62_method_2_code 7 = .ok (.dconst 1, 1) := by decide +kernel
theorem d9_8 : decode prog_62_method_2_code 8 = .ok (.dcmp .g, 1) := by decide +kernel
theorem d9_9 : decode prog_62_method_2_code 9 = .ok (.ifCond .le 32, 3) := by decide +kernel
theorem d9_12 : decode prog_62_method_2_code 12 = .ok (.new 7, 3) := by decide +kernel
theorem d9_15 : decode prog_62_method_2_code 15 = .ok (.dup, 1) := by decide +kernel
theorem d9_16 : decode prog_62_method_2_code 16 = .ok (.ldc 11, 2) := by decide +kernel
theorem d9_18 : decode prog_62_method_2_code 18 = .ok (.new 13, 3) := by decide +kernel
theorem d9_21 : decode prog_62_method_2_code 21 = .ok (.dup, 1) := by decide +kernel
theorem d9_22 : decode prog_62_method_2_code 22 = .ok (.invokespecial 15, 3) := by decide +kernel
theorem d9_25 : decode prog_62_method_2_code 25 = .ok (.ldc 16, 2) := by decide +kernel
theorem d9_27 : decode prog_62_method_2_code 27 = .ok (.invokevirtual 18, 3) := by decide +kernel
theorem d9_30 : decode prog_62_method_2_code 30 = .ok (.dload_n 0, 1) := by decide +kernel
theorem d9_31 : decode prog_62_method_2_code 31 = .ok (.invokevirtual 22, 3) := by decide +kernel
theorem d9_34 : decode prog_62_method_2_code 34 = .ok (.invokevirtual 25, 3) := by decide +kernel
theorem d9_37 : decode prog_62_method_2_code 37 = .ok (.invokespecial 29, 3) := by decide +kernel
theorem d9_40 : decode prog_62_method_2_code 40 = .ok (.athrow, 1) := by decide +kernel
theorem d9_41 : decode prog_62_method_2_code 41 = .ok (.return_, 1) := by decide +kernel
theorem pn_2 : plainName "com/example/tidewatch/tidewatch/core/TargetUtilization" = true := by first | (simp [plainName, overriddenIn]; done) | decide +kernel
theorem ef_rmTU (m : MethodId) : entryFrame m #[(.double (FP.l2d 1))] 2 = mkF m 0 #[.val (.double (FP.l2d 1)), .second] [] := by first | (simp [entryFrame, mkF, argsToLocals, Value.category, maxLocals]; done) | rfl
set_option maxRecDepth 65536 in
set_option maxHeartbeats 40000000 in
theorem rmTU (l : Launch) (Z : State) (a0 : Array Value) (hw : ∀ d ∈ tables_1, d.before a0 Z = true) (ws : List Jvm.Cond) (h0 : Heap) (n0 : Nat) (Z0 : n0 ≤ h0.size) :
    MetFree l (⟨"com/example/tidewatch/tidewatch/core/TargetUtilization", "check", "(D)V"⟩ : MethodName) (head1 (Jvm.Cond.code (⟨"com/example/tidewatch/tidewatch/core/TargetUtilization", "check", "(D)V"⟩ : MethodName) prog_62_method_2_code (2 : Nat) (Option.none : Option Jvm.ClassFile.FieldType) :: ws) ({ frames := 0, cells := 0, slots := 0, locals := 0 } : Room)) (fun aZ UZ => aZ = #[(.double (FP.l2d 1))] ∧ Z.Warmed39 UZ.vm ∧ UZ.heap = h0) (fun _ _ _ _ _ => True) (fun _ UZ oZ VZ => ∃ vZ LZ, oZ = .returned vZ ∧ (QSame none h0 n0) vZ VZ.heap LZ ∧ FrameEnd UZ oZ VZ LZ ({ frames := 0, cells := 0, slots := 0, locals := 0 } : Room).cells ({ frames := 0, cells := 0, slots := 0, locals := 0 } : Room).slots) := by
  refine MetFree.of_bodySF (plainFor_of_name pn_2) hisR ?_
  intro p e s m args below meth c s₁ Bd hml0 hP hK
  obtain ⟨rfl, hZ, hh⟩ := hP
  have hx := Bd.exec
  have hby := Bd.bytes
  have hml : c.maxLocals = 2 := hml0
  have hown : s.vm.findClass "com/example/tidewatch/tidewatch/core/TargetUtilization" = some m.cls := findClass_of_methodNamed Bd.named
  have hnm := (name_of_methodNamed Bd.named Bd.method).1
  have X0 : Stand p l e ({ frames := 0, cells := 0, slots := 0, locals := 0 } : Room) s m #[(.double (FP.l2d 1))] below meth c s₁ [] 0 0 := Stand.of_body Bd
  have e0 : s₁.heap = h0 := by rw [← hh, Bd.state]; rfl
  have N0 := Fr.nil n0
  show OwnG p e below (OwnE s (QSame none h0 n0) ({ frames := 0, cells := 0, slots := 0, locals := 0 } : Room).cells ({ frames := 0, cells := 0, slots := 0, locals := 0 } : Room).slots) _
  refine own_by (S' := s₁.setTop (mkF m 0 #[.val (.double (FP.l2d 1)), .second] [])) (fun tZ kZ => castTop (ef_rmTU m) kZ) ?_
  refine own_by (S' := s₁.setTop (mkF m 1 #[.val (.double (FP.l2d 1)), .second] [(.double (FP.l2d 1))])) (fun tZ kZ => XS.dloadN X0.here hx rfl (hb hby d9_0) rfl kZ) ?_
  refine own_by (S' := s₁.setTop (mkF m 2 #[.val (.double (FP.l2d 1)), .second] [(.double (FP.l2d 0)), (.double (FP.l2d 1))])) (fun tZ kZ => XS.dconst0 X0.here hx rfl (hb hby d9_1) (by decide +kernel) kZ) ?_
  refine own_by (S' := s₁.setTop (mkF m 3 #[.val (.double (FP.l2d 1)), .second] [(.int (cmpValue (FP.dcmp (FP.l2d 1) (FP.l2d 0)) .l))])) (fun tZ kZ => XS.dcmpS X0.here hx rfl (hb hby d9_2) rfl rfl kZ) ?_
  refine own_by (S' := s₁.setTop (mkF m 6 #[.val (.double (FP.l2d 1)), .second] [])) (fun tZ kZ => XS.ifNo X0.here hx rfl (hb hby d9_3) rfl ((if0 _ _).trans (tlt (by decide +kernel)).2.2.2) kZ) ?_
  refine own_by (S' := s₁.setTop (mkF m 7 #[.val (.double (FP.l2d 1)), .second] [(.double (FP.l2d 1))])) (fun tZ kZ => XS.dloadN X0.here hx rfl (hb hby d9_6) rfl kZ) ?_
  refine own_by (S' := s₁.setTop (mkF m 8 #[.val (.double (FP.l2d 1)), .second] [(.double (FP.l2d 1)), (.double (FP.l2d 1))])) (fun tZ kZ => XS.dconst1 X0.here hx rfl (hb hby d9_7) (by decide +kernel) kZ) ?_
  refine own_by (S' := s₁.setTop (mkF m 9 #[.val (.double (FP.l2d 1)), .second] [(.int (cmpValue (FP.dcmp (FP.l2d 1) (FP.l2d 1)) .g))])) (fun tZ kZ => XS.dcmpS X0.here hx rfl (hb hby d9_8) rfl rfl kZ) ?_
  refine own_by (S' := s₁.setTop (mkF m 41 #[.val (.double (FP.l2d 1)), .second] [])) (fun tZ kZ => XS.ifYes X0.here hx rfl (pc0 := 9) (pc' := 41) rfl (hb hby d9_9) rfl ((if0 _ _).trans (flt (by decide +kernel)).2.2.2) (by decide) (by decide) kZ) ?_
  exact own_ret0 X0 hx Bd.returns (hb hby d9_41) Bd.notSynchronized (by decide) (by decide) ⟨rfl, N0, e0⟩
theorem d12_0 : decode prog_58_method_2_code 0 = .ok (.lload_n 1, 1) := by decide +kernel
theorem d12_1 : decode prog_58_method_2_code 1 = .ok (.lconst 1, 1) := by decide +kernel
theorem d12_2 : decode prog_58_method_2_code 2 = .ok (.lcmp, 1) := by decide +kernel
theorem d12_3 : decode prog_58_method_2_code 3 = .ok (.ifCond .ge 31, 3) := by decide +kernel
theorem d12_6 : decode prog_58_method_2_code 6 = .ok (.new 7, 3) := by decide +kernel
theorem d12_9 : decode prog_58_method_2_code 9 = .ok (.dup, 1) := by decide +kernel
theorem d12_10 : decode prog_58_method_2_code 10 = .ok (.aload_n 0, 1) := by decide +kernel
theorem d12_11 : decode prog_58_method_2_code 11 = .ok (.new 9, 3) := by decide +kernel
theorem d12_14 : decode prog_58_method_2_code 14 = .ok (.dup, 1) := by decide +kernel
theorem d12_15 : decode prog_58_method_2_code 15 = .ok (.invokespecial 11, 3) := by decide +kernel
theorem d12_18 : decode prog_58_method_2_code 18 = .ok (.ldc 12, 2) := by decide +kernel
theorem d12_20 : decode prog_58_method_2_code 20 = .ok (.invokevirtual 14, 3) := by decide +kernel
theorem d12_23 : decode prog_58_method_2_code 23 = .ok (.lload_n 1, 1) := by decide +kernel
theorem d12_24 : decode prog_58_method_2_code 24 = .ok (.invokevirtual 18, 3) := by decide +kernel
theorem d12_27 : decode prog_58_method_2_code 27 = .ok (.invokevirtual 21, 3) := by decide +kernel
theorem d12_30 : decode prog_58_method_2_code 30 = .ok (.invokespecial 25, 3) := by decide +kernel
theorem d12_33 : decode prog_58_method_2_code 33 = .ok (.athrow, 1) := by decide +kernel
theorem d12_34 : decode prog_58_method_2_code 34 = .ok (.return_, 1) := by decide +kernel
theorem pn_3 : plainName "com/example/tidewatch/tidewatch/core/SettingChecks" = true := by first | (simp [plainName, overriddenIn]; done) | decide +kernel
theorem ef_rmAl (m : MethodId) (sx : Addr) (v : Int64) : entryFrame m #[(.ref sx), (.long v)] 3 = mkF m 0 #[.val (.ref sx), .val (.long v), .second] [] := by first | (simp [entryFrame, mkF, argsToLocals, Value.category, maxLocals]; done) | rfl
set_option maxRecDepth 65536 in
set_option maxHeartbeats 40000000 in
theorem rmAl (l : Launch) (Z : State) (a0 : Array Value) (hw : ∀ d ∈ tables_1, d.before a0 Z = true) (ws : List Jvm.Cond) (sx : Addr) (v : Int64) (h0 : Heap) (n0 : Nat) (Z0 : n0 ≤ h0.size) (hv : ¬ v < 1) :
    MetFree l (⟨"com/example/tidewatch/tidewatch/core/SettingChecks", "atLeastOne", "(Ljava/lang/String;J)V"⟩ : MethodName) (head1 (Jvm.Cond.code (⟨"com/example/tidewatch/tidewatch/core/SettingChecks", "atLeastOne", "(Ljava/lang/String;J)V"⟩ : MethodName) prog_58_method_2_code (3 : Nat) (Option.none : Option Jvm.ClassFile.FieldType) :: ws) ({ frames := 0, cells := 0, slots := 0, locals := 0 } : Room)) (fun aZ UZ => aZ = #[(.ref sx), (.long v)] ∧ Z.Warmed39 UZ.vm ∧ UZ.heap = h0) (fun _ _ _ _ _ => True) (fun _ UZ oZ VZ => ∃ vZ LZ, oZ = .returned vZ ∧ (QSame none h0 n0) vZ VZ.heap LZ ∧ FrameEnd UZ oZ VZ LZ ({ frames := 0, cells := 0, slots := 0, locals := 0 } : Room).cells ({ frames := 0, cells := 0, slots := 0, locals := 0 } : Room).slots) := by
  refine MetFree.of_bodySF (plainFor_of_name pn_3) hisR ?_
  intro p e s m args below meth c s₁ Bd hml0 hP hK
  obtain ⟨rfl, hZ, hh⟩ := hP
  have hx := Bd.exec
  have hby := Bd.bytes
  have hml : c.maxLocals = 3 := hml0
  have hown : s.vm.findClass "com/example/tidewatch/tidewatch/core/SettingChecks" = some m.cls := findClass_of_methodNamed Bd.named
  have hnm := (name_of_methodNamed Bd.named Bd.method).1
  have X0 : Stand p l e ({ frames := 0, cells := 0, slots := 0, locals := 0 } : Room) s m #[(.ref sx), (.long v)] below meth c s₁ [] 0 0 := Stand.of_body Bd
  have e0 : s₁.heap = h0 := by rw [← hh, Bd.state]; rfl
  have N0 := Fr.nil n0
  show OwnG p e below (OwnE s (QSame none h0 n0) ({ frames := 0, cells := 0, slots := 0, locals := 0 } : Room).cells ({ frames := 0, cells := 0, slots := 0, locals := 0 } : Room).slots) _
  refine own_by (S' := s₁.setTop (mkF m 0 #[.val (.ref sx), .val (.long v), .second] [])) (fun tZ kZ => castTop (ef_rmAl m sx v) kZ) ?_
  refine own_by (S' := s₁.setTop (mkF m 1 #[.val (.ref sx), .val (.long v), .second] [(.long v)])) (fun tZ kZ => XS.lloadN X0.here hx rfl (hb hby d12_0) rfl kZ) ?_
  refine own_by (S' := s₁.setTop (mkF m 2 #[.val (.ref sx), .val (.long v), .second] [(.long (1 : Int64)), (.long v)])) (fun tZ kZ => XS.lconst X0.here hx rfl (hb hby d12_1) kZ) ?_
  refine own_by (S' := s₁.setTop (mkF m 3 #[.val (.ref sx), .val (.long v), .second] [(.int (lcmpW v (1 : Int64)))])) (fun tZ kZ => XS.lcmp X0.here hx rfl (hb hby d12_2) rfl kZ) ?_
  refine own_by (S' := s₁.setTop (mkF m 34 #[.val (.ref sx), .val (.long v), .second] [])) (fun tZ kZ => XS.ifYes X0.here hx rfl (pc0 := 3) (pc' := 34) rfl (hb hby d12_3) rfl ((if0 _ _).trans (flt (by rw [lw_lt]; exact hv)).2.1) (by decide) (by decide) kZ) ?_
  exact own_ret0 X0 hx Bd.returns (hb hby d12_34) Bd.notSynchronized (by decide) (by decide) ⟨rfl, N0, e0⟩
theorem d15_0 : decode jdk_117_method_7_code 0 = .ok (.dload_n 0, 1) := by decide +kernel
theorem d15_1 : decode jdk_117_method_7_code 1 = .ok (.invokestatic 38, 3) := by decide +kernel
theorem d15_4 : decode jdk_117_method_7_code 4 = .ok (.ldc2_w 111, 3) := by decide +kernel
theorem d15_7 : decode jdk_117_method_7_code 7 = .ok (.dcmp .l, 1) := by decide +kernel
theorem d15_8 : decode jdk_117_method_7_code 8 = .ok (.ifCond .le 7, 3) := by decide +kernel
theorem d15_11 : decode jdk_117_method_7_code 11 = .ok (.iconst 1, 1) := by decide +kernel
theorem d15_12 : decode jdk_117_method_7_code 12 = .ok (.goto 4, 3) := by decide +kernel
theorem d15_15 : decode jdk_117_method_7_code 15 = .ok (.iconst 0, 1) := by decide +kernel
theorem d15_16 : decode jdk_117_method_7_code 16 = .ok (.ireturn, 1) := by decide +kernel
theorem pn_4 : plainName "java/lang/Double" = true := by first | (simp [plainName, overriddenIn]; done) | decide +kernel
theorem ef_rmIn0 (m : MethodId) : entryFrame m #[(.double (FP.l2d 0))] 2 = mkF m 0 #[.val (.double (FP.l2d 0)), .second] [] := by first | (simp [entryFrame, mkF, argsToLocals, Value.category, maxLocals]; done) | rfl
set_option maxRecDepth 65536 in
set_option maxHeartbeats 40000000 in
theorem rmIn0 (l : Launch) (Z : State) (a0 : Array Value) (hw : ∀ d ∈ tables_1, d.before a0 Z = true) (ws : List Jvm.Cond) (h0 : Heap) (n0 : Nat) (Z0 : n0 ≤ h0.size) :
    MetFree l (⟨"java/lang/Double", "isInfinite", "(D)Z"⟩ : MethodName) (head1 (Jvm.Cond.code (⟨"java/lang/Double", "isInfinite", "(D)Z"⟩ : MethodName) jdk_117_method_7_code (2 : Nat) (Option.some Jvm.ClassFile.FieldType.boolean) :: ws) ({ frames := 1, cells := 0, slots := 0, locals := 13 } : Room)) (fun aZ UZ => aZ = #[(.double (FP.l2d 0))] ∧ Z.Warmed39 UZ.vm ∧ UZ.heap = h0) (fun _ _ _ _ _ => True) (fun _ UZ oZ VZ => ∃ vZ LZ, oZ = .returned vZ ∧ (QSame (some (.int 0)) h0 n0) vZ VZ.heap LZ ∧ FrameEnd UZ oZ VZ LZ ({ frames := 1, cells := 0, slots := 0, locals := 13 } : Room).cells ({ frames := 1, cells := 0, slots := 0, locals := 13 } : Room).slots) := by
  refine MetFree.of_bodySF (plainFor_of_name pn_4) hisR ?_
  intro p e s m args below meth c s₁ Bd hml0 hP hK
  obtain ⟨rfl, hZ, hh⟩ := hP
  have hx := Bd.exec
  have hby := Bd.bytes
  have hml : c.maxLocals = 2 := hml0
  have hown : s.vm.findClass "java/lang/Double" = some m.cls := findClass_of_methodNamed Bd.named
  have hnm := (name_of_methodNamed Bd.named Bd.method).1
  have X0 : Stand p l e ({ frames := 1, cells := 0, slots := 0, locals := 13 } : Room) s m #[(.double (FP.l2d 0))] below meth c s₁ [] 0 0 := Stand.of_body Bd
  have e0 : s₁.heap = h0 := by rw [← hh, Bd.state]; rfl
  have N0 := Fr.nil n0
  show OwnG p e below (OwnE s (QSame (some (.int 0)) h0 n0) ({ frames := 1, cells := 0, slots := 0, locals := 13 } : Room).cells ({ frames := 1, cells := 0, slots := 0, locals := 13 } : Room).slots) _
  refine own_by (S' := s₁.setTop (mkF m 0 #[.val (.double (FP.l2d 0)), .second] [])) (fun tZ kZ => castTop (ef_rmIn0 m) kZ) ?_
  refine own_by (S' := s₁.setTop (mkF m 1 #[.val (.double (FP.l2d 0)), .second] [(.double (FP.l2d 0))])) (fun tZ kZ => XS.dloadN X0.here hx rfl (hb hby d15_0) rfl kZ) ?_
  obtain ⟨_, vmA1, _, -, X1, ⟨rfl, rfl⟩, st1⟩ := Jvm.LawKit.callS X0 hx (y := (⟨"java/lang/Math", "abs", "(D)D"⟩ : MethodName)) hown (mvT hZ (hw_ hw 83 rfl)) (mvT hZ (hw_ hw 84 rfl)) (mvT hZ (hw_ hw 5 rfl)) (mvT hZ (hw_ hw 85 rfl)) (by decide) (Jvm.Free.Fl.Abs.absD_pays (W := 0) (FP.l2d 0) (mvT hZ (hw_ hw 85 rfl)) (by decide) (by decide)) (g := (mkF m 1 #[.val (.double (FP.l2d 0)), .second] [(.double (FP.l2d 0))])) rfl (by rw [hml]; rfl) (argsL := [.double (FP.l2d 0)]) (rest := []) (lenOf pd_1 rfl) rfl (by show 2 * 0 + _ ≤ _; exact Nat.le_of_eq rfl) (hb hby d15_1) (fun _ _ => ⟨Nat.zero_le _, Nat.zero_le _, rfl, by decide +kernel⟩)
  dsimp only [Pt.U, Pt.locs, Pt.cells, Pt.slots] at X1 st1
  refine own_by (S' := (State.setVm s₁ vmA1).setTop (mkF m 4 #[.val (.double (FP.l2d 0)), .second] [(.double ((FP.l2d 0) &&& 0x7fffffffffffffff))])) (fun tZ kZ => st1 _ kZ) ?_
  refine own_by (S' := (State.setVm s₁ vmA1).setTop (mkF m 7 #[.val (.double (FP.l2d 0)), .second] [(.double (9218868437227405311 : UInt64)), (.double ((FP.l2d 0) &&& 0x7fffffffffffffff))])) (fun tZ kZ => X1.ldc2DoubleC hx hown (mvT hZ (hw_ hw 86 rfl)) (g := (mkF m 4 #[.val (.double (FP.l2d 0)), .second] [(.double ((FP.l2d 0) &&& 0x7fffffffffffffff))])) rfl (hb hby d15_4) _ kZ) ?_
  refine own_by (S' := (State.setVm s₁ vmA1).setTop (mkF m 8 #[.val (.double (FP.l2d 0)), .second] [(.int (cmpValue (FP.dcmp ((FP.l2d 0) &&& 0x7fffffffffffffff) (9218868437227405311 : UInt64)) .l))])) (fun tZ kZ => XS.dcmpS X1.here hx rfl (hb hby d15_7) rfl rfl kZ) ?_
  refine own_by (S' := (State.setVm s₁ vmA1).setTop (mkF m 15 #[.val (.double (FP.l2d 0)), .second] [])) (fun tZ kZ => XS.ifYes X1.here hx rfl (pc0 := 8) (pc' := 15) rfl (hb hby d15_8) rfl ((if0 _ _).trans (flt (by decide +kernel)).2.2.2) (by decide) (by decide) kZ) ?_
  refine own_by (S' := (State.setVm s₁ vmA1).setTop (mkF m 16 #[.val (.double (FP.l2d 0)), .second] [(.int (0 : Int32))])) (fun tZ kZ => XS.iconst X1.here hx rfl (hb hby d15_15) kZ) ?_
  exact own_retI X1 hx (t := .boolean) Bd.returns (by simp) rfl (hb hby d15_16) Bd.notSynchronized (by decide) (by decide) ⟨rfl, N0, e0⟩
theorem ef_rmIn1 (m : MethodId) : entryFrame m #[(.double (FP.l2d 1))] 2 = mkF m 0 #[.val (.double (FP.l2d 1)), .second] [] := by first | (simp [entryFrame, mkF, argsToLocals, Value.category, maxLocals]; done) | rfl
set_option maxRecDepth 65536 in
set_option maxHeartbeats 40000000 in
theorem rmIn1 (l : Launch) (Z : State) (a0 : Array Value) (hw : ∀ d ∈ tables_1, d.before a0 Z = true) (ws : List Jvm.Cond) (h0 : Heap) (n0 : Nat) (Z0 : n0 ≤ h0.size) :
    MetFree l (⟨"java/lang/Double", "isInfinite", "(D)Z"⟩ : MethodName) (head1 (Jvm.Cond.code (⟨"java/lang/Double", "isInfinite", "(D)Z"⟩ : MethodName) jdk_117_method_7_code (2 : Nat) (Option.some Jvm.ClassFile.FieldType.boolean) :: ws) ({ frames := 1, cells := 0, slots := 0, locals := 13 } : Room)) (fun aZ UZ => aZ = #[(.double (FP.l2d 1))] ∧ Z.Warmed39 UZ.vm ∧ UZ.heap = h0) (fun _ _ _ _ _ => True) (fun _ UZ oZ VZ => ∃ vZ LZ, oZ = .returned vZ ∧ (QSame (some (.int 0)) h0 n0) vZ VZ.heap LZ ∧ FrameEnd UZ oZ VZ LZ ({ frames := 1, cells := 0, slots := 0, locals := 13 } : Room).cells ({ frames := 1, cells := 0, slots := 0, locals := 13 } : Room).slots) := by
  refine MetFree.of_bodySF (plainFor_of_name pn_4) hisR ?_
  intro p e s m args below meth c s₁ Bd hml0 hP hK
  obtain ⟨rfl, hZ, hh⟩ := hP
  have hx := Bd.exec
  have hby := Bd.bytes
  have hml : c.maxLocals = 2 := hml0
  have hown : s.vm.findClass "java/lang/Double" = some m.cls := findClass_of_methodNamed Bd.named
  have hnm := (name_of_methodNamed Bd.named Bd.method).1
  have X0 : Stand p l e ({ frames := 1, cells := 0, slots := 0, locals := 13 } : Room) s m #[(.double (FP.l2d 1))] below meth c s₁ [] 0 0 := Stand.of_body Bd
  have e0 : s₁.heap = h0 := by rw [← hh, Bd.state]; rfl
  have N0 := Fr.nil n0
  show OwnG p e below (OwnE s (QSame (some (.int 0)) h0 n0) ({ frames := 1, cells := 0, slots := 0, locals := 13 } : Room).cells ({ frames := 1, cells := 0, slots := 0, locals := 13 } : Room).slots) _
  refine own_by (S' := s₁.setTop (mkF m 0 #[.val (.double (FP.l2d 1)), .second] [])) (fun tZ kZ => castTop (ef_rmIn1 m) kZ) ?_
  refine own_by (S' := s₁.setTop (mkF m 1 #[.val (.double (FP.l2d 1)), .second] [(.double (FP.l2d 1))])) (fun tZ kZ => XS.dloadN X0.here hx rfl (hb hby d15_0) rfl kZ) ?_
  obtain ⟨_, vmA1, _, -, X1, ⟨rfl, rfl⟩, st1⟩ := Jvm.LawKit.callS X0 hx (y := (⟨"java/lang/Math", "abs", "(D)D"⟩ : MethodName)) hown (mvT hZ (hw_ hw 83 rfl)) (mvT hZ (hw_ hw 84 rfl)) (mvT hZ (hw_ hw 5 rfl)) (mvT hZ (hw_ hw 85 rfl)) (by decide) (Jvm.Free.Fl.Abs.absD_pays (W := 0) (FP.l2d 1) (mvT hZ (hw_ hw 85 rfl)) (by decide) (by decide)) (g := (mkF m 1 #[.val (.double (FP.l2d 1)), .second] [(.double (FP.l2d 1))])) rfl (by rw [hml]; rfl) (argsL := [.double (FP.l2d 1)]) (rest := []) (lenOf pd_1 rfl) rfl (by show 2 * 0 + _ ≤ _; exact Nat.le_of_eq rfl) (hb hby d15_1) (fun _ _ => ⟨Nat.zero_le _, Nat.zero_le _, rfl, by decide +kernel⟩)
  dsimp only [Pt.U, Pt.locs, Pt.cells, Pt.slots] at X1 st1
  refine own_by (S' := (State.setVm s₁ vmA1).setTop (mkF m 4 #[.val (.double (FP.l2d 1)), .second] [(.double ((FP.l2d 1) &&& 0x7fffffffffffffff))])) (fun tZ kZ => st1 _ kZ) ?_
  refine own_by (S' := (State.setVm s₁ vmA1).setTop (mkF m 7 #[.val (.double (FP.l2d 1)), .second] [(.double (9218868437227405311 : UInt64)), (.double ((FP.l2d 1) &&& 0x7fffffffffffffff))])) (fun tZ kZ => X1.ldc2DoubleC hx hown (mvT hZ (hw_ hw 86 rfl)) (g := (mkF m 4 #[.val (.double (FP.l2d 1)), .second] [(.double ((FP.l2d 1) &&& 0x7fffffffffffffff))])) rfl (hb hby d15_4) _ kZ) ?_
  refine own_by (S' := (State.setVm s₁ vmA1).setTop (mkF m 8 #[.val (.double (FP.l2d 1)), .second] [(.int (cmpValue (FP.dcmp ((FP.l2d 1) &&& 0x7fffffffffffffff) (9218868437227405311 : UInt64)) .l))])) (fun tZ kZ => XS.dcmpS X1.here hx rfl (hb hby d15_7) rfl rfl kZ) ?_
  refine own_by (S' := (State.setVm s₁ vmA1).setTop (mkF m 15 #[.val (.double (FP.l2d 1)), .second] [])) (fun tZ kZ => XS.ifYes X1.here hx rfl (pc0 := 8) (pc' := 15) rfl (hb hby d15_8) rfl ((if0 _ _).trans (flt (by decide +kernel)).2.2.2) (by decide) (by decide) kZ) ?_
  refine own_by (S' := (State.setVm s₁ vmA1).setTop (mkF m 16 #[.val (.double (FP.l2d 1)), .second] [(.int (0 : Int32))])) (fun tZ kZ => XS.iconst X1.here hx rfl (hb hby d15_15) kZ) ?_
  exact own_retI X1 hx (t := .boolean) Bd.returns (by simp) rfl (hb hby d15_16) Bd.notSynchronized (by decide) (by decide) ⟨rfl, N0, e0⟩
theorem d14_0 : decode prog_58_method_8_code 0 = .ok (.dload_n 0, 1) := by decide +kernel
theorem d14_1 : decode prog_58_method_8_code 1 = .ok (.dconst 0, 1) := by decide +kernel
theorem d14_2 : decode prog_58_method_8_code 2 = .ok (.dcmp .l, 1) := by decide +kernel
theorem d14_3 : decode prog_58_method_8_code 3 = .ok (.ifCond .lt 14, 3) := by decide +kernel
theorem d14_6 : decode prog_58_method_8_code 6 = .ok (.dload_n 0, 1) := by decide +kernel
theorem d14_7 : decode prog_58_method_8_code 7 = .ok (.invokestatic 76, 3) := by decide +kernel
theorem d14_10 : decode prog_58_method_8_code 10 = .ok (.ifCond .ne 7, 3) := by decide +kernel
theorem d14_13 : decode prog_58_method_8_code 13 = .ok (.iconst 1, 1) := by decide +kernel
theorem d14_14 : decode prog_58_method_8_code 14 = .ok (.goto 4, 3) := by decide +kernel
theorem d14_17 : decode prog_58_method_8_code 17 = .ok (.iconst 0, 1) := by decide +kernel
theorem d14_18 : decode prog_58_method_8_code 18 = .ok (.ireturn, 1) := by decide +kernel
theorem ef_rmIf (m : MethodId) : entryFrame m #[(.double (FP.l2d 0))] 2 = mkF m 0 #[.val (.double (FP.l2d 0)), .second] [] := by first | (simp [entryFrame, mkF, argsToLocals, Value.category, maxLocals]; done) | rfl
set_option maxRecDepth 65536 in
set_option maxHeartbeats 40000000 in
theorem rmIf (l : Launch) (Z : State) (a0 : Array Value) (hw : ∀ d ∈ tables_1, d.before a0 Z = true) (ws : List Jvm.Cond) (h0 : Heap) (n0 : Nat) (Z0 : n0 ≤ h0.size) :
    MetFree l (⟨"com/example/tidewatch/tidewatch/core/SettingChecks", "isFiniteAtLeastZero", "(D)Z"⟩ : MethodName) (head1 (Jvm.Cond.code (⟨"com/example/tidewatch/tidewatch/core/SettingChecks", "isFiniteAtLeastZero", "(D)Z"⟩ : MethodName) prog_58_method_8_code (2 : Nat) (Option.some Jvm.ClassFile.FieldType.boolean) :: ws) ({ frames := 2, cells := 0, slots := 0, locals := 26 } : Room)) (fun aZ UZ => aZ = #[(.double (FP.l2d 0))] ∧ Z.Warmed39 UZ.vm ∧ UZ.heap = h0) (fun _ _ _ _ _ => True) (fun _ UZ oZ VZ => ∃ vZ LZ, oZ = .returned vZ ∧ (QSame (some (.int 1)) h0 n0) vZ VZ.heap LZ ∧ FrameEnd UZ oZ VZ LZ ({ frames := 2, cells := 0, slots := 0, locals := 26 } : Room).cells ({ frames := 2, cells := 0, slots := 0, locals := 26 } : Room).slots) := by
  refine MetFree.of_bodySF (plainFor_of_name pn_3) hisR ?_
  intro p e s m args below meth c s₁ Bd hml0 hP hK
  obtain ⟨rfl, hZ, hh⟩ := hP
  have hx := Bd.exec
  have hby := Bd.bytes
  have hml : c.maxLocals = 2 := hml0
  have hown : s.vm.findClass "com/example/tidewatch/tidewatch/core/SettingChecks" = some m.cls := findClass_of_methodNamed Bd.named
  have hnm := (name_of_methodNamed Bd.named Bd.method).1
  have X0 : Stand p l e ({ frames := 2, cells := 0, slots := 0, locals := 26 } : Room) s m #[(.double (FP.l2d 0))] below meth c s₁ [] 0 0 := Stand.of_body Bd
  have e0 : s₁.heap = h0 := by rw [← hh, Bd.state]; rfl
  have N0 := Fr.nil n0
  show OwnG p e below (OwnE s (QSame (some (.int 1)) h0 n0) ({ frames := 2, cells := 0, slots := 0, locals := 26 } : Room).cells ({ frames := 2, cells := 0, slots := 0, locals := 26 } : Room).slots) _
  refine own_by (S' := s₁.setTop (mkF m 0 #[.val (.double (FP.l2d 0)), .second] [])) (fun tZ kZ => castTop (ef_rmIf m) kZ) ?_
  refine own_by (S' := s₁.setTop (mkF m 1 #[.val (.double (FP.l2d 0)), .second] [(.double (FP.l2d 0))])) (fun tZ kZ => XS.dloadN X0.here hx rfl (hb hby d14_0) rfl kZ) ?_
  refine own_by (S' := s₁.setTop (mkF m 2 #[.val (.double (FP.l2d 0)), .second] [(.double (FP.l2d 0)), (.double (FP.l2d 0))])) (fun tZ kZ => XS.dconst0 X0.here hx rfl (hb hby d14_1) (by decide +kernel) kZ) ?_
  refine own_by (S' := s₁.setTop (mkF m 3 #[.val (.double (FP.l2d 0)), .second] [(.int (cmpValue (FP.dcmp (FP.l2d 0) (FP.l2d 0)) .l))])) (fun tZ kZ => XS.dcmpS X0.here hx rfl (hb hby d14_2) rfl rfl kZ) ?_
  refine own_by (S' := s₁.setTop (mkF m 6 #[.val (.double (FP.l2d 0)), .second] [])) (fun tZ kZ => XS.ifNo X0.here hx rfl (hb hby d14_3) rfl ((if0 _ _).trans (flt (by decide +kernel)).1) kZ) ?_
  refine own_by (S' := s₁.setTop (mkF m 7 #[.val (.double (FP.l2d 0)), .second] [(.double (FP.l2d 0))])) (fun tZ kZ => XS.dloadN X0.here hx rfl (hb hby d14_6) rfl kZ) ?_
  obtain ⟨_, _, ⟨T1, L1, k1, n1⟩, -, X1, ⟨Lc1, hQ1, l1, y1, z1⟩, st1⟩ := Jvm.LawKit.callS X0 hx (y := (⟨"java/lang/Double", "isInfinite", "(D)Z"⟩ : MethodName)) hown (mvT hZ (hw_ hw 79 rfl)) (mvT hZ (hw_ hw 80 rfl)) (mvT hZ (hw_ hw 81 rfl)) (mvT hZ (hw_ hw 82 rfl)) (by decide) (backOf (W := 0) (rmIn0 l Z a0 hw [] h0 n0 Z0) hZ (hw_ hw 82 rfl) (hw_ hw 81 rfl) (by decide) (by decide)) (g := (mkF m 7 #[.val (.double (FP.l2d 0)), .second] [(.double (FP.l2d 0))])) rfl (by rw [hml]; rfl) (argsL := [(.double (FP.l2d 0))]) (rest := []) (lenOf pd_2 rfl) rfl (by show 2 * 0 + _ ≤ _; exact Nat.le_of_eq rfl) (hb hby d14_7) (fun _ _ => ⟨rfl, e0, (by decide : 0 + 0 ≤ _), (by decide : 0 + 0 ≤ _)⟩)
  dsimp only [Pt.U, Pt.locs, Pt.cells, Pt.slots] at X1 l1 y1 z1 st1 hQ1
  subst l1 y1 z1
  obtain ⟨rfl, N1q, heq1⟩ := hQ1
  have N1 := Fr.app N0 N1q
  refine own_by (S' := T1.setTop (mkF m 10 #[.val (.double (FP.l2d 0)), .second] [(.int (0 : Int32))])) (fun tZ kZ => st1 _ kZ) ?_
  refine own_by (S' := T1.setTop (mkF m 13 #[.val (.double (FP.l2d 0)), .second] [])) (fun tZ kZ => XS.ifNo X1.here hx rfl (hb hby d14_10) rfl ((if0 _ _).trans (teq rfl).2) kZ) ?_
  refine own_by (S' := T1.setTop (mkF m 14 #[.val (.double (FP.l2d 0)), .second] [(.int (1 : Int32))])) (fun tZ kZ => XS.iconst X1.here hx rfl (hb hby d14_13) kZ) ?_
  refine own_by (S' := T1.setTop (mkF m 18 #[.val (.double (FP.l2d 0)), .second] [(.int (1 : Int32))])) (fun tZ kZ => XS.goto X1.here hx rfl (pc0 := 14) (pc' := 18) rfl (hb hby d14_14) (by decide) (by decide) kZ) ?_
  exact own_retI X1 hx (t := .boolean) Bd.returns (by simp) rfl (hb hby d14_18) Bd.notSynchronized (by decide) (by decide) ⟨rfl, N1, heq1⟩
theorem d13_0 : decode prog_58_method_7_code 0 = .ok (.dload_n 1, 1) := by decide +kernel
theorem d13_1 : decode prog_58_method_7_code 1 = .ok (.invokestatic 69, 3) := by decide +kernel
theorem d13_4 : decode prog_58_method_7_code 4 = .ok (.ifCond .ne 31, 3) := by decide +kernel
theorem d13_7 : decode prog_58_method_7_code 7 = .ok (.new 7, 3) := by decide +kernel
theorem d13_10 : decode prog_58_method_7_code 10 = .ok (.dup, 1) := by decide +kernel
theorem d13_11 : decode prog_58_method_7_code 11 = .ok (.aload_n 0, 1) := by decide +kernel
theorem d13_12 : decode prog_58_method_7_code 12 = .ok (.new 9, 3) := by decide +kernel
theorem d13_15 : decode prog_58_method_7_code 15 = .ok (.dup, 1) := by decide +kernel
theorem d13_16 : decode prog_58_method_7_code 16 = .ok (.invokespecial 11, 3) := by decide +kernel
theorem d13_19 : decode prog_58_method_7_code 19 = .ok (.ldc 74, 2) := by decide +kernel
theorem d13_21 : decode prog_58_method_7_code 21 = .ok (.invokevirtual 14, 3) := by decide +kernel
theorem d13_24 : decode prog_58_method_7_code 24 = .ok (.dload_n 1, 1) := by decide +kernel
theorem d13_25 : decode prog_58_method_7_code 25 = .ok (.invokevirtual 66, 3) := by decide +kernel
theorem d13_28 : decode prog_58_method_7_code 28 = .ok (.invokevirtual 21, 3) := by decide +kernel
theorem d13_31 : decode prog_58_method_7_code 31 = .ok (.invokespecial 25, 3) := by decide +kernel
theorem d13_34 : decode prog_58_method_7_code 34 = .ok (.athrow, 1) := by decide +kernel
theorem d13_35 : decode prog_58_method_7_code 35 = .ok (.return_, 1) := by decide +kernel
theorem ef_rmFz (m : MethodId) (sx : Addr) : entryFrame m #[(.ref sx), (.double (FP.l2d 0))] 3 = mkF m 0 #[.val (.ref sx), .val (.double (FP.l2d 0)), .second] [] := by first | (simp [entryFrame, mkF, argsToLocals, Value.category, maxLocals]; done) | rfl
set_option maxRecDepth 65536 in
set_option maxHeartbeats 40000000 in
theorem rmFz (l : Launch) (Z : State) (a0 : Array Value) (hw : ∀ d ∈ tables_1, d.before a0 Z = true) (ws : List Jvm.Cond) (sx : Addr) (h0 : Heap) (n0 : Nat) (Z0 : n0 ≤ h0.size) :
    MetFree l (⟨"com/example/tidewatch/tidewatch/core/SettingChecks", "finiteAtLeastZero", "(Ljava/lang/String;D)V"⟩ : MethodName) (head1 (Jvm.Cond.code (⟨"com/example/tidewatch/tidewatch/core/SettingChecks", "finiteAtLeastZero", "(Ljava/lang/String;D)V"⟩ : MethodName) prog_58_method_7_code (3 : Nat) (Option.none : Option Jvm.ClassFile.FieldType) :: ws) ({ frames := 3, cells := 0, slots := 0, locals := 39 } : Room)) (fun aZ UZ => aZ = #[(.ref sx), (.double (FP.l2d 0))] ∧ Z.Warmed39 UZ.vm ∧ UZ.heap = h0) (fun _ _ _ _ _ => True) (fun _ UZ oZ VZ => ∃ vZ LZ, oZ = .returned vZ ∧ (QSame none h0 n0) vZ VZ.heap LZ ∧ FrameEnd UZ oZ VZ LZ ({ frames := 3, cells := 0, slots := 0, locals := 39 } : Room).cells ({ frames := 3, cells := 0, slots := 0, locals := 39 } : Room).slots) := by
  refine MetFree.of_bodySF (plainFor_of_name pn_3) hisR ?_
  intro p e s m args below meth c s₁ Bd hml0 hP hK
  obtain ⟨rfl, hZ, hh⟩ := hP
  have hx := Bd.exec
  have hby := Bd.bytes
  have hml : c.maxLocals = 3 := hml0
  have hown : s.vm.findClass "com/example/tidewatch/tidewatch/core/SettingChecks" = some m.cls := findClass_of_methodNamed Bd.named
  have hnm := (name_of_methodNamed Bd.named Bd.method).1
  have X0 : Stand p l e ({ frames := 3, cells := 0, slots := 0, locals := 39 } : Room) s m #[(.ref sx), (.double (FP.l2d 0))] below meth c s₁ [] 0 0 := Stand.of_body Bd
  have e0 : s₁.heap = h0 := by rw [← hh, Bd.state]; rfl
  have N0 := Fr.nil n0
  show OwnG p e below (OwnE s (QSame none h0 n0) ({ frames := 3, cells := 0, slots := 0, locals := 39 } : Room).cells ({ frames := 3, cells := 0, slots := 0, locals := 39 } : Room).slots) _
  refine own_by (S' := s₁.setTop (mkF m 0 #[.val (.ref sx), .val (.double (FP.l2d 0)), .second] [])) (fun tZ kZ => castTop (ef_rmFz m sx) kZ) ?_
  refine own_by (S' := s₁.setTop (mkF m 1 #[.val (.ref sx), .val (.double (FP.l2d 0)), .second] [(.double (FP.l2d 0))])) (fun tZ kZ => XS.dloadN X0.here hx rfl (hb hby d13_0) rfl kZ) ?_
  obtain ⟨_, _, ⟨T1, L1, k1, n1⟩, -, X1, ⟨Lc1, hQ1, l1, y1, z1⟩, st1⟩ := Jvm.LawKit.callS X0 hx (y := (⟨"com/example/tidewatch/tidewatch/core/SettingChecks", "isFiniteAtLeastZero", "(D)Z"⟩ : MethodName)) hown (mvT hZ (hw_ hw 76 rfl)) (mvT hZ (hw_ hw 77 rfl)) (mvT hZ (hw_ hw 70 rfl)) (mvT hZ (hw_ hw 78 rfl)) (by decide) (backOf (W := 0) (rmIf l Z a0 hw [] h0 n0 Z0) hZ (hw_ hw 78 rfl) (hw_ hw 70 rfl) (by decide) (by decide)) (g := (mkF m 1 #[.val (.ref sx), .val (.double (FP.l2d 0)), .second] [(.double (FP.l2d 0))])) rfl (by rw [hml]; rfl) (argsL := [(.double (FP.l2d 0))]) (rest := []) (lenOf pd_2 rfl) rfl (by show 2 * 0 + _ ≤ _; exact Nat.le_of_eq rfl) (hb hby d13_1) (fun _ _ => ⟨rfl, e0, (by decide : 0 + 0 ≤ _), (by decide : 0 + 0 ≤ _)⟩)
  dsimp only [Pt.U, Pt.locs, Pt.cells, Pt.slots] at X1 l1 y1 z1 st1 hQ1
  subst l1 y1 z1
  obtain ⟨rfl, N1q, heq1⟩ := hQ1
  have N1 := Fr.app N0 N1q
  refine own_by (S' := T1.setTop (mkF m 4 #[.val (.ref sx), .val (.double (FP.l2d 0)), .second] [(.int (1 : Int32))])) (fun tZ kZ => st1 _ kZ) ?_
  refine own_by (S' := T1.setTop (mkF m 35 #[.val (.ref sx), .val (.double (FP.l2d 0)), .second] [])) (fun tZ kZ => XS.ifYes X1.here hx rfl (pc0 := 4) (pc' := 35) rfl (hb hby d13_4) rfl ((if0 _ _).trans (feq (by decide)).2) (by decide) (by decide) kZ) ?_
  exact own_ret0 X1 hx Bd.returns (hb hby d13_35) Bd.notSynchronized (by decide) (by decide) ⟨rfl, N1, heq1⟩
theorem d17_0 : decode prog_58_method_9_code 0 = .ok (.dload_n 1, 1) := by decide +kernel
theorem d17_1 : decode prog_58_method_9_code 1 = .ok (.dconst 0, 1) := by decide +kernel
theorem d17_2 : decode prog_58_method_9_code 2 = .ok (.dcmp .l, 1) := by decide +kernel
theorem d17_3 : decode prog_58_method_9_code 3 = .ok (.ifCond .le 10, 3) := by decide +kernel
theorem d17_6 : decode prog_58_method_9_code 6 = .ok (.dload_n 1, 1) := by decide +kernel
theorem d17_7 : decode prog_58_method_9_code 7 = .ok (.invokestatic 76, 3) := by decide +kernel
theorem d17_10 : decode prog_58_method_9_code 10 = .ok (.ifCond .eq 31, 3) := by decide +kernel
theorem d17_13 : decode prog_58_method_9_code 13 = .ok (.new 7, 3) := by decide +kernel
theorem d17_16 : decode prog_58_method_9_code 16 = .ok (.dup, 1) := by decide +kernel
theorem d17_17 : decode prog_58_method_9_code 17 = .ok (.aload_n 0, 1) := by decide +kernel
theorem d17_18 : decode prog_58_method_9_code 18 = .ok (.new 9, 3) := by decide +kernel
theorem d17_21 : decode prog_58_method_9_code 21 = .ok (.dup, 1) := by decide +kernel
theorem d17_22 : decode prog_58_method_9_code 22 = .ok (.invokespecial 11, 3) := by decide +kernel
theorem d17_25 : decode prog_58_method_9_code 25 = .ok (.ldc 79, 2) := by decide +kernel
theorem d17_27 : decode prog_58_method_9_code 27 = .ok (.invokevirtual 14, 3) := by decide +kernel
theorem d17_30 : decode prog_58_method_9_code 30 = .ok (.dload_n 1, 1) := by decide +kernel
theorem d17_31 : decode prog_58_method_9_code 31 = .ok (.invokevirtual 66, 3) := by decide +kernel
theorem d17_34 : decode prog_58_method_9_code 34 = .ok (.invokevirtual 21, 3) := by decide +kernel
theorem d17_37 : decode prog_58_method_9_code 37 = .ok (.invokespecial 25, 3) := by decide +kernel
theorem d17_40 : decode prog_58_method_9_code 40 = .ok (.athrow, 1) := by decide +kernel
theorem d17_41 : decode prog_58_method_9_code 41 = .ok (.return_, 1) := by decide +kernel
theorem ef_rmFa (m : MethodId) (sx : Addr) : entryFrame m #[(.ref sx), (.double (FP.l2d 1))] 3 = mkF m 0 #[.val (.ref sx), .val (.double (FP.l2d 1)), .second] [] := by first | (simp [entryFrame, mkF, argsToLocals, Value.category, maxLocals]; done) | rfl
set_option maxRecDepth 65536 in
set_option maxHeartbeats 40000000 in
theorem rmFa (l : Launch) (Z : State) (a0 : Array Value) (hw : ∀ d ∈ tables_1, d.before a0 Z = true) (ws : List Jvm.Cond) (sx : Addr) (h0 : Heap) (n0 : Nat) (Z0 : n0 ≤ h0.size) :
    MetFree l (⟨"com/example/tidewatch/tidewatch/core/SettingChecks", "finiteAboveZero", "(Ljava/lang/String;D)V"⟩ : MethodName) (head1 (Jvm.Cond.code (⟨"com/example/tidewatch/tidewatch/core/SettingChecks", "finiteAboveZero", "(Ljava/lang/String;D)V"⟩ : MethodName) prog_58_method_9_code (3 : Nat) (Option.none : Option Jvm.ClassFile.FieldType) :: ws) ({ frames := 2, cells := 0, slots := 0, locals := 26 } : Room)) (fun aZ UZ => aZ = #[(.ref sx), (.double (FP.l2d 1))] ∧ Z.Warmed39 UZ.vm ∧ UZ.heap = h0) (fun _ _ _ _ _ => True) (fun _ UZ oZ VZ => ∃ vZ LZ, oZ = .returned vZ ∧ (QSame none h0 n0) vZ VZ.heap LZ ∧ FrameEnd UZ oZ VZ LZ ({ frames := 2, cells := 0, slots := 0, locals := 26 } : Room).cells ({ frames := 2, cells := 0, slots := 0, locals := 26 } : Room).slots) := by
  refine MetFree.of_bodySF (plainFor_of_name pn_3) hisR ?_
  intro p e s m args below meth c s₁ Bd hml0 hP hK
  obtain ⟨rfl, hZ, hh⟩ := hP
  have hx := Bd.exec
  have hby := Bd.bytes
  have hml : c.maxLocals = 3 := hml0
  have hown : s.vm.findClass "com/example/tidewatch/tidewatch/core/SettingChecks" = some m.cls := findClass_of_methodNamed Bd.named
  have hnm := (name_of_methodNamed Bd.named Bd.method).1
  have X0 : Stand p l e ({ frames := 2, cells := 0, slots := 0, locals := 26 } : Room) s m #[(.ref sx), (.double (FP.l2d 1))] below meth c s₁ [] 0 0 := Stand.of_body Bd
  have e0 : s₁.heap = h0 := by rw [← hh, Bd.state]; rfl
  have N0 := Fr.nil n0
  show OwnG p e below (OwnE s (QSame none h0 n0) ({ frames := 2, cells := 0, slots := 0, locals := 26 } : Room).cells ({ frames := 2, cells := 0, slots := 0, locals := 26 } : Room).slots) _
  refine own_by (S' := s₁.setTop (mkF m 0 #[.val (.ref sx), .val (.double (FP.l2d 1)), .second] [])) (fun tZ kZ => castTop (ef_rmFa m sx) kZ) ?_
  refine own_by (S' := s₁.setTop (mkF m 1 #[.val (.ref sx), .val (.double (FP.l2d 1)), .second] [(.double (FP.l2d 1))])) (fun tZ kZ => XS.dloadN X0.here hx rfl (hb hby d17_0) rfl kZ) ?_
  refine own_by (S' := s₁.setTop (mkF m 2 #[.val (.ref sx), .val (.double (FP.l2d 1)), .second] [(.double (FP.l2d 0)), (.double (FP.l2d 1))])) (fun tZ kZ => XS.dconst0 X0.here hx rfl (hb hby d17_1) (by decide +kernel) kZ) ?_
  refine own_by (S' := s₁.setTop (mkF m 3 #[.val (.ref sx), .val (.double (FP.l2d 1)), .second] [(.int (cmpValue (FP.dcmp (FP.l2d 1) (FP.l2d 0)) .l))])) (fun tZ kZ => XS.dcmpS X0.here hx rfl (hb hby d17_2) rfl rfl kZ) ?_
  refine own_by (S' := s₁.setTop (mkF m 6 #[.val (.ref sx), .val (.double (FP.l2d 1)), .second] [])) (fun tZ kZ => XS.ifNo X0.here hx rfl (hb hby d17_3) rfl ((if0 _ _).trans (tlt (by decide +kernel)).2.2.2) kZ) ?_
  refine own_by (S' := s₁.setTop (mkF m 7 #[.val (.ref sx), .val (.double (FP.l2d 1)), .second] [(.double (FP.l2d 1))])) (fun tZ kZ => XS.dloadN X0.here hx rfl (hb hby d17_6) rfl kZ) ?_
  obtain ⟨_, _, ⟨T1, L1, k1, n1⟩, -, X1, ⟨Lc1, hQ1, l1, y1, z1⟩, st1⟩ := Jvm.LawKit.callS X0 hx (y := (⟨"java/lang/Double", "isInfinite", "(D)Z"⟩ : MethodName)) hown (mvT hZ (hw_ hw 79 rfl)) (mvT hZ (hw_ hw 80 rfl)) (mvT hZ (hw_ hw 81 rfl)) (mvT hZ (hw_ hw 82 rfl)) (by decide) (backOf (W := 0) (rmIn1 l Z a0 hw [] h0 n0 Z0) hZ (hw_ hw 82 rfl) (hw_ hw 81 rfl) (by decide) (by decide)) (g := (mkF m 7 #[.val (.ref sx), .val (.double (FP.l2d 1)), .second] [(.double (FP.l2d 1))])) rfl (by rw [hml]; rfl) (argsL := [(.double (FP.l2d 1))]) (rest := []) (lenOf pd_2 rfl) rfl (by show 2 * 0 + _ ≤ _; exact Nat.le_of_eq rfl) (hb hby d17_7) (fun _ _ => ⟨rfl, e0, (by decide : 0 + 0 ≤ _), (by decide : 0 + 0 ≤ _)⟩)
  dsimp only [Pt.U, Pt.locs, Pt.cells, Pt.slots] at X1 l1 y1 z1 st1 hQ1
  subst l1 y1 z1
  obtain ⟨rfl, N1q, heq1⟩ := hQ1
  have N1 := Fr.app N0 N1q
  refine own_by (S' := T1.setTop (mkF m 10 #[.val (.ref sx), .val (.double (FP.l2d 1)), .second] [(.int (0 : Int32))])) (fun tZ kZ => st1 _ kZ) ?_
  refine own_by (S' := T1.setTop (mkF m 41 #[.val (.ref sx), .val (.double (FP.l2d 1)), .second] [])) (fun tZ kZ => XS.ifYes X1.here hx rfl (pc0 := 10) (pc' := 41) rfl (hb hby d17_10) rfl ((if0 _ _).trans (teq rfl).1) (by decide) (by decide) kZ) ?_
  exact own_ret0 X1 hx Bd.returns (hb hby d17_41) Bd.notSynchronized (by decide) (by decide) ⟨rfl, N1, heq1⟩
theorem d24_0 : decode jdk_33_method_13_code 0 = .ok (.iconst 1, 1) := by decide +kernel
theorem d24_1 : decode jdk_33_method_13_code 1 = .ok (.istore_n 1, 1) := by decide +kernel
theorem d24_2 : decode jdk_33_method_13_code 2 = .ok (.iload_n 0, 1) := by decide +kernel
theorem d24_3 : decode jdk_33_method_13_code 3 = .ok (.ifCond .lt 8, 3) := by decide +kernel
theorem d24_6 : decode jdk_33_method_13_code 6 = .ok (.iconst 0, 1) := by decide +kernel
theorem d24_7 : decode jdk_33_method_13_code 7 = .ok (.istore_n 1, 1) := by decide +kernel
theorem d24_8 : decode jdk_33_method_13_code 8 = .ok (.iload_n 0, 1) := by decide +kernel
theorem d24_9 : decode jdk_33_method_13_code 9 = .ok (.ineg, 1) := by decide +kernel
theorem d24_10 : decode jdk_33_method_13_code 10 = .ok (.istore_n 0, 1) := by decide +kernel
theorem d24_11 : decode jdk_33_method_13_code 11 = .ok (.bipush (-10), 2) := by decide +kernel
theorem d24_13 : decode jdk_33_method_13_code 13 = .ok (.istore_n 2, 1) := by decide +kernel
theorem d24_14 : decode jdk_33_method_13_code 14 = .ok (.iconst 1, 1) := by decide +kernel
theorem d24_15 : decode jdk_33_method_13_code 15 = .ok (.istore_n 3, 1) := by decide +kernel
theorem d24_16 : decode jdk_33_method_13_code 16 = .ok (.iload_n 3, 1) := by decide +kernel
theorem d24_17 : decode jdk_33_method_13_code 17 = .ok (.bipush 10, 2) := by decide +kernel
theorem d24_19 : decode jdk_33_method_13_code 19 = .ok (.if_icmp .ge 23, 3) := by decide +kernel
theorem d24_22 : decode jdk_33_method_13_code 22 = .ok (.iload_n 0, 1) := by decide +kernel
theorem d24_23 : decode jdk_33_method_13_code 23 = .ok (.iload_n 2, 1) := by decide +kernel
theorem d24_24 : decode jdk_33_method_13_code 24 = .ok (.if_icmp .le 7, 3) := by decide +kernel
theorem d24_27 : decode jdk_33_method_13_code 27 = .ok (.iload_n 3, 1) := by decide +kernel
theorem d24_28 : decode jdk_33_method_13_code 28 = .ok (.iload_n 1, 1) := by decide +kernel
theorem d24_29 : decode jdk_33_method_13_code 29 = .ok (.iadd, 1) := by decide +kernel
theorem d24_30 : decode jdk_33_method_13_code 30 = .ok (.ireturn, 1) := by decide +kernel
theorem d24_31 : decode jdk_33_method_13_code 31 = .ok (.bipush 10, 2) := by decide +kernel
theorem d24_33 : decode jdk_33_method_13_code 33 = .ok (.iload_n 2, 1) := by decide +kernel
theorem d24_34 : decode jdk_33_method_13_code 34 = .ok (.imul, 1) := by decide +kernel
theorem d24_35 : decode jdk_33_method_13_code 35 = .ok (.istore_n 2, 1) := by decide +kernel
theorem d24_36 : decode jdk_33_method_13_code 36 = .ok (.iinc 3 1, 3) := by decide +kernel
theorem d24_39 : decode jdk_33_method_13_code 39 = .ok (.goto (-23), 3) := by decide +kernel
theorem d24_42 : decode jdk_33_method_13_code 42 = .ok (.bipush 10, 2) := by decide +kernel
theorem d24_44 : decode jdk_33_method_13_code 44 = .ok (.iload_n 1, 1) := by decide +kernel
theorem d24_45 : decode jdk_33_method_13_code 45 = .ok (.iadd, 1) := by decide +kernel
theorem d24_46 : decode jdk_33_method_13_code 46 = .ok (.ireturn, 1) := by decide +kernel
theorem pn_5 : plainName "java/lang/Integer" = true := by first | (simp [plainName, overriddenIn]; done) | decide +kernel
theorem ef_rmSz (m : MethodId) (x : Int32) : entryFrame m #[(.int x)] 4 = mkF m 0 #[.val (.int x), .unset, .unset, .unset] [] := by first | (simp [entryFrame, mkF, argsToLocals, Value.category, maxLocals]; done) | rfl
set_option maxRecDepth 65536 in
set_option maxHeartbeats 40000000 in
theorem rmSz (l : Launch) (Z : State) (a0 : Array Value) (hw : ∀ d ∈ tables_1, d.before a0 Z = true) (ws : List Jvm.Cond) (x : Int32) (h0 : Heap) (n0 : Nat) (Z0 : n0 ≤ h0.size) (hx1 : 1 ≤ x.toInt) :
    MetFree l (⟨"java/lang/Integer", "stringSize", "(I)I"⟩ : MethodName) (head1 (Jvm.Cond.code (⟨"java/lang/Integer", "stringSize", "(I)I"⟩ : MethodName) jdk_33_method_13_code (4 : Nat) (Option.some Jvm.ClassFile.FieldType.int) :: ws) ({ frames := 0, cells := 0, slots := 0, locals := 0 } : Room)) (fun aZ UZ => aZ = #[(.int x)] ∧ Z.Warmed39 UZ.vm ∧ UZ.heap = h0) (fun _ _ _ _ _ => True) (fun _ UZ oZ VZ => ∃ vZ LZ, oZ = .returned vZ ∧ (QSz x h0 n0) vZ VZ.heap LZ ∧ FrameEnd UZ oZ VZ LZ ({ frames := 0, cells := 0, slots := 0, locals := 0 } : Room).cells ({ frames := 0, cells := 0, slots := 0, locals := 0 } : Room).slots) := by
  refine MetFree.of_bodySF (plainFor_of_name pn_5) hisR ?_
  intro p e s m args below meth c s₁ Bd hml0 hP hK
  obtain ⟨rfl, hZ, hh⟩ := hP
  have hx := Bd.exec
  have hby := Bd.bytes
  have hml : c.maxLocals = 4 := hml0
  have hown : s.vm.findClass "java/lang/Integer" = some m.cls := findClass_of_methodNamed Bd.named
  have hnm := (name_of_methodNamed Bd.named Bd.method).1
  have X0 : Stand p l e ({ frames := 0, cells := 0, slots := 0, locals := 0 } : Room) s m #[(.int x)] below meth c s₁ [] 0 0 := Stand.of_body Bd
  have e0 : s₁.heap = h0 := by rw [← hh, Bd.state]; rfl
  have N0 := Fr.nil n0
  show OwnG p e below (OwnE s (QSz x h0 n0) ({ frames := 0, cells := 0, slots := 0, locals := 0 } : Room).cells ({ frames := 0, cells := 0, slots := 0, locals := 0 } : Room).slots) _
  refine own_by (S' := s₁.setTop (mkF m 0 #[.val (.int x), .unset, .unset, .unset] [])) (fun tZ kZ => castTop (ef_rmSz m x) kZ) ?_
  have hng := own_neg (x := x) (X := x.toInt.toNat) (by omega)
  have hrx := rng32 x
  refine own_by (S' := s₁.setTop (mkF m 1 #[.val (.int x), .unset, .unset, .unset] [(.int (1 : Int32))])) (fun tZ kZ => XS.iconst X0.here hx rfl (hb hby d24_0) kZ) ?_
  refine own_by (S' := s₁.setTop (mkF m 2 #[.val (.int x), .val (.int (1 : Int32)), .unset, .unset] [])) (fun tZ kZ => XS.istoreN X0.here hx rfl (hb hby d24_1) rfl (l' := #[.val (.int x), .val (.int (1 : Int32)), .unset, .unset]) rfl kZ) ?_
  refine own_by (S' := s₁.setTop (mkF m 3 #[.val (.int x), .val (.int (1 : Int32)), .unset, .unset] [(.int x)])) (fun tZ kZ => XS.iloadN X0.here hx rfl (hb hby d24_2) rfl kZ) ?_
  refine own_by (S' := s₁.setTop (mkF m 6 #[.val (.int x), .val (.int (1 : Int32)), .unset, .unset] [])) (fun tZ kZ => XS.ifNo X0.here hx rfl (hb hby d24_3) rfl ((if0 _ _).trans (flt (by rw [own_ltI]; have e : (0 : Int32).toInt = 0 := rfl; omega)).1) kZ) ?_
  refine own_by (S' := s₁.setTop (mkF m 7 #[.val (.int x), .val (.int (1 : Int32)), .unset, .unset] [(.int (0 : Int32))])) (fun tZ kZ => XS.iconst X0.here hx rfl (hb hby d24_6) kZ) ?_
  refine own_by (S' := s₁.setTop (mkF m 8 #[.val (.int x), .val (.int (0 : Int32)), .unset, .unset] [])) (fun tZ kZ => XS.istoreN X0.here hx rfl (hb hby d24_7) rfl (l' := #[.val (.int x), .val (.int (0 : Int32)), .unset, .unset]) rfl kZ) ?_
  refine own_by (S' := s₁.setTop (mkF m 9 #[.val (.int x), .val (.int (0 : Int32)), .unset, .unset] [(.int x)])) (fun tZ kZ => XS.iloadN X0.here hx rfl (hb hby d24_8) rfl kZ) ?_
  refine own_by (S' := s₁.setTop (mkF m 10 #[.val (.int x), .val (.int (0 : Int32)), .unset, .unset] [(.int (-x))])) (fun tZ kZ => XS.ineg X0.here hx rfl (hb hby d24_9) rfl kZ) ?_
  obtain ⟨nx, hnx⟩ : ∃ z : Int32, z = (-x) := ⟨_, rfl⟩
  rw [← hnx]
  refine own_by (S' := s₁.setTop (mkF m 11 #[.val (.int nx), .val (.int (0 : Int32)), .unset, .unset] [])) (fun tZ kZ => XS.istoreN X0.here hx rfl (hb hby d24_10) rfl (l' := #[.val (.int nx), .val (.int (0 : Int32)), .unset, .unset]) rfl kZ) ?_
  refine own_by (S' := s₁.setTop (mkF m 13 #[.val (.int nx), .val (.int (0 : Int32)), .unset, .unset] [(.int (-10 : Int32))])) (fun tZ kZ => XS.bipush X0.here hx rfl (hb hby d24_11) kZ) ?_
  refine own_by (S' := s₁.setTop (mkF m 14 #[.val (.int nx), .val (.int (0 : Int32)), .val (.int (-10 : Int32)), .unset] [])) (fun tZ kZ => XS.istoreN X0.here hx rfl (hb hby d24_13) rfl (l' := #[.val (.int nx), .val (.int (0 : Int32)), .val (.int (-10 : Int32)), .unset]) rfl kZ) ?_
  refine own_by (S' := s₁.setTop (mkF m 15 #[.val (.int nx), .val (.int (0 : Int32)), .val (.int (-10 : Int32)), .unset] [(.int (1 : Int32))])) (fun tZ kZ => XS.iconst X0.here hx rfl (hb hby d24_14) kZ) ?_
  refine own_by (S' := s₁.setTop (mkF m 16 #[.val (.int nx), .val (.int (0 : Int32)), .val (.int (-10 : Int32)), .val (.int (1 : Int32))] [])) (fun tZ kZ => XS.istoreN X0.here hx rfl (hb hby d24_15) rfl (l' := #[.val (.int nx), .val (.int (0 : Int32)), .val (.int (-10 : Int32)), .val (.int (1 : Int32))]) rfl kZ) ?_
  rw [← hnx] at hng
  refine own_by (S' := s₁.setTop (mkF m 17 #[.val (.int nx), .val (.int (0 : Int32)), .val (.int (-10 : Int32)), .val (.int (1 : Int32))] [(.int (1 : Int32))])) (fun tZ kZ => XS.iloadN X0.here hx rfl (hb hby d24_16) rfl kZ) ?_
  refine own_by (S' := s₁.setTop (mkF m 19 #[.val (.int nx), .val (.int (0 : Int32)), .val (.int (-10 : Int32)), .val (.int (1 : Int32))] [(.int (10 : Int32)), (.int (1 : Int32))])) (fun tZ kZ => XS.bipush X0.here hx rfl (hb hby d24_17) kZ) ?_
  refine own_by (S' := s₁.setTop (mkF m 22 #[.val (.int nx), .val (.int (0 : Int32)), .val (.int (-10 : Int32)), .val (.int (1 : Int32))] [])) (fun tZ kZ => XS.icmpNo X0.here hx rfl (hb hby d24_19) rfl (tlt (by decide)).2.1 kZ) ?_
  refine own_by (S' := s₁.setTop (mkF m 23 #[.val (.int nx), .val (.int (0 : Int32)), .val (.int (-10 : Int32)), .val (.int (1 : Int32))] [(.int nx)])) (fun tZ kZ => XS.iloadN X0.here hx rfl (hb hby d24_22) rfl kZ) ?_
  refine own_by (S' := s₁.setTop (mkF m 24 #[.val (.int nx), .val (.int (0 : Int32)), .val (.int (-10 : Int32)), .val (.int (1 : Int32))] [(.int (-10 : Int32)), (.int nx)])) (fun tZ kZ => XS.iloadN X0.here hx rfl (hb hby d24_23) rfl kZ) ?_
  by_cases hc1 : (-10 : Int32) < nx
  · refine own_by (S' := s₁.setTop (mkF m 27 #[.val (.int nx), .val (.int (0 : Int32)), .val (.int (-10 : Int32)), .val (.int (1 : Int32))] [])) (fun tZ kZ => XS.icmpNo X0.here hx rfl (hb hby d24_24) rfl (tlt hc1).2.2.2 kZ) ?_
    have hlt : x.toInt < 10 ^ 1 := by
      rw [own_ltI] at hc1
      have e : (-10 : Int32).toInt = -10 := rfl
      have e2 : (10 : Int) ^ 1 = 10 := by decide
      omega
    refine own_by (S' := s₁.setTop (mkF m 28 #[.val (.int nx), .val (.int (0 : Int32)), .val (.int (-10 : Int32)), .val (.int (1 : Int32))] [(.int (1 : Int32))])) (fun tZ kZ => XS.iloadN X0.here hx rfl (hb hby d24_27) rfl kZ) ?_
    refine own_by (S' := s₁.setTop (mkF m 29 #[.val (.int nx), .val (.int (0 : Int32)), .val (.int (-10 : Int32)), .val (.int (1 : Int32))] [(.int (0 : Int32)), (.int (1 : Int32))])) (fun tZ kZ => XS.iloadN X0.here hx rfl (hb hby d24_28) rfl kZ) ?_
    refine own_by (S' := s₁.setTop (mkF m 30 #[.val (.int nx), .val (.int (0 : Int32)), .val (.int (-10 : Int32)), .val (.int (1 : Int32))] [(.int ((1 : Int32) + (0 : Int32)))])) (fun tZ kZ => XS.iadd X0.here hx rfl (hb hby d24_29) rfl kZ) ?_
    exact own_retI X0 hx (t := .int) Bd.returns (by simp) rfl (hb hby d24_30) Bd.notSynchronized (by decide) (by decide) ⟨_, 1, rfl, N0, e0, by decide, by decide, by decide, hlt⟩
  · refine own_by (S' := s₁.setTop (mkF m 31 #[.val (.int nx), .val (.int (0 : Int32)), .val (.int (-10 : Int32)), .val (.int (1 : Int32))] [])) (fun tZ kZ => XS.icmpYes X0.here hx rfl (pc0 := 24) (pc' := 31) rfl (hb hby d24_24) rfl (flt hc1).2.2.2 (by decide) (by decide) kZ) ?_
    refine own_by (S' := s₁.setTop (mkF m 33 #[.val (.int nx), .val (.int (0 : Int32)), .val (.int (-10 : Int32)), .val (.int (1 : Int32))] [(.int (10 : Int32))])) (fun tZ kZ => XS.bipush X0.here hx rfl (hb hby d24_31) kZ) ?_
    refine own_by (S' := s₁.setTop (mkF m 34 #[.val (.int nx), .val (.int (0 : Int32)), .val (.int (-10 : Int32)), .val (.int (1 : Int32))] [(.int (-10 : Int32)), (.int (10 : Int32))])) (fun tZ kZ => XS.iloadN X0.here hx rfl (hb hby d24_33) rfl kZ) ?_
    refine own_by (S' := s₁.setTop (mkF m 35 #[.val (.int nx), .val (.int (0 : Int32)), .val (.int (-10 : Int32)), .val (.int (1 : Int32))] [(.int ((10 : Int32) * (-10 : Int32)))])) (fun tZ kZ => XS.imul X0.here hx rfl (hb hby d24_34) rfl kZ) ?_
    rw [show (10 : Int32) * (-10 : Int32) = -100 from by decide]
    refine own_by (S' := s₁.setTop (mkF m 36 #[.val (.int nx), .val (.int (0 : Int32)), .val (.int (-100 : Int32)), .val (.int (1 : Int32))] [])) (fun tZ kZ => XS.istoreN X0.here hx rfl (hb hby d24_35) rfl (l' := #[.val (.int nx), .val (.int (0 : Int32)), .val (.int (-100 : Int32)), .val (.int (1 : Int32))]) rfl kZ) ?_
    refine own_by (S' := s₁.setTop (mkF m 39 #[.val (.int nx), .val (.int (0 : Int32)), .val (.int (-100 : Int32)), .val (.int ((1 : Int32) + (1 : Int32)))] [])) (fun tZ kZ => XS.iinc X0.here hx rfl (hb hby d24_36) rfl (l' := #[.val (.int nx), .val (.int (0 : Int32)), .val (.int (-100 : Int32)), .val (.int ((1 : Int32) + (1 : Int32)))]) rfl kZ) ?_
    rw [show (1 : Int32) + (1 : Int32) = 2 from by decide]
    refine own_by (S' := s₁.setTop (mkF m 16 #[.val (.int nx), .val (.int (0 : Int32)), .val (.int (-100 : Int32)), .val (.int (2 : Int32))] [])) (fun tZ kZ => XS.goto X0.here hx rfl (pc0 := 39) (pc' := 16) rfl (hb hby d24_39) (by decide) (by decide) kZ) ?_
    refine own_by (S' := s₁.setTop (mkF m 17 #[.val (.int nx), .val (.int (0 : Int32)), .val (.int (-100 : Int32)), .val (.int (2 : Int32))] [(.int (2 : Int32))])) (fun tZ kZ => XS.iloadN X0.here hx rfl (hb hby d24_16) rfl kZ) ?_
    refine own_by (S' := s₁.setTop (mkF m 19 #[.val (.int nx), .val (.int (0 : Int32)), .val (.int (-100 : Int32)), .val (.int (2 : Int32))] [(.int (10 : Int32)), (.int (2 : Int32))])) (fun tZ kZ => XS.bipush X0.here hx rfl (hb hby d24_17) kZ) ?_
    refine own_by (S' := s₁.setTop (mkF m 22 #[.val (.int nx), .val (.int (0 : Int32)), .val (.int (-100 : Int32)), .val (.int (2 : Int32))] [])) (fun tZ kZ => XS.icmpNo X0.here hx rfl (hb hby d24_19) rfl (tlt (by decide)).2.1 kZ) ?_
    refine own_by (S' := s₁.setTop (mkF m 23 #[.val (.int nx), .val (.int (0 : Int32)), .val (.int (-100 : Int32)), .val (.int (2 : Int32))] [(.int nx)])) (fun tZ kZ => XS.iloadN X0.here hx rfl (hb hby d24_22) rfl kZ) ?_
    refine own_by (S' := s₁.setTop (mkF m 24 #[.val (.int nx), .val (.int (0 : Int32)), .val (.int (-100 : Int32)), .val (.int (2 : Int32))] [(.int (-100 : Int32)), (.int nx)])) (fun tZ kZ => XS.iloadN X0.here hx rfl (hb hby d24_23) rfl kZ) ?_
    by_cases hc2 : (-100 : Int32) < nx
    · refine own_by (S' := s₁.setTop (mkF m 27 #[.val (.int nx), .val (.int (0 : Int32)), .val (.int (-100 : Int32)), .val (.int (2 : Int32))] [])) (fun tZ kZ => XS.icmpNo X0.here hx rfl (hb hby d24_24) rfl (tlt hc2).2.2.2 kZ) ?_
      have hlt : x.toInt < 10 ^ 2 := by
        rw [own_ltI] at hc2
        have e : (-100 : Int32).toInt = -100 := rfl
        have e2 : (10 : Int) ^ 2 = 100 := by decide
        omega
      refine own_by (S' := s₁.setTop (mkF m 28 #[.val (.int nx), .val (.int (0 : Int32)), .val (.int (-100 : Int32)), .val (.int (2 : Int32))] [(.int (2 : Int32))])) (fun tZ kZ => XS.iloadN X0.here hx rfl (hb hby d24_27) rfl kZ) ?_
      refine own_by (S' := s₁.setTop (mkF m 29 #[.val (.int nx), .val (.int (0 : Int32)), .val (.int (-100 : Int32)), .val (.int (2 : Int32))] [(.int (0 : Int32)), (.int (2 : Int32))])) (fun tZ kZ => XS.iloadN X0.here hx rfl (hb hby d24_28) rfl kZ) ?_
      refine own_by (S' := s₁.setTop (mkF m 30 #[.val (.int nx), .val (.int (0 : Int32)), .val (.int (-100 : Int32)), .val (.int (2 : Int32))] [(.int ((2 : Int32) + (0 : Int32)))])) (fun tZ kZ => XS.iadd X0.here hx rfl (hb hby d24_29) rfl kZ) ?_
      exact own_retI X0 hx (t := .int) Bd.returns (by simp) rfl (hb hby d24_30) Bd.notSynchronized (by decide) (by decide) ⟨_, 2, rfl, N0, e0, by decide, by decide, by decide, hlt⟩
    · refine own_by (S' := s₁.setTop (mkF m 31 #[.val (.int nx), .val (.int (0 : Int32)), .val (.int (-100 : Int32)), .val (.int (2 : Int32))] [])) (fun tZ kZ => XS.icmpYes X0.here hx rfl (pc0 := 24) (pc' := 31) rfl (hb hby d24_24) rfl (flt hc2).2.2.2 (by decide) (by decide) kZ) ?_
      refine own_by (S' := s₁.setTop (mkF m 33 #[.val (.int nx), .val (.int (0 : Int32)), .val (.int (-100 : Int32)), .val (.int (2 : Int32))] [(.int (10 : Int32))])) (fun tZ kZ => XS.bipush X0.here hx rfl (hb hby d24_31) kZ) ?_
      refine own_by (S' := s₁.setTop (mkF m 34 #[.val (.int nx), .val (.int (0 : Int32)), .val (.int (-100 : Int32)), .val (.int (2 : Int32))] [(.int (-100 : Int32)), (.int (10 : Int32))])) (fun tZ kZ => XS.iloadN X0.here hx rfl (hb hby d24_33) rfl kZ) ?_
      refine own_by (S' := s₁.setTop (mkF m 35 #[.val (.int nx), .val (.int (0 : Int32)), .val (.int (-100 : Int32)), .val (.int (2 : Int32))] [(.int ((10 : Int32) * (-100 : Int32)))])) (fun tZ kZ => XS.imul X0.here hx rfl (hb hby d24_34) rfl kZ) ?_
      rw [show (10 : Int32) * (-100 : Int32) = -1000 from by decide]
      refine own_by (S' := s₁.setTop (mkF m 36 #[.val (.int nx), .val (.int (0 : Int32)), .val (.int (-1000 : Int32)), .val (.int (2 : Int32))] [])) (fun tZ kZ => XS.istoreN X0.here hx rfl (hb hby d24_35) rfl (l' := #[.val (.int nx), .val (.int (0 : Int32)), .val (.int (-1000 : Int32)), .val (.int (2 : Int32))]) rfl kZ) ?_
      refine own_by (S' := s₁.setTop (mkF m 39 #[.val (.int nx), .val (.int (0 : Int32)), .val (.int (-1000 : Int32)), .val (.int ((2 : Int32) + (1 : Int32)))] [])) (fun tZ kZ => XS.iinc X0.here hx rfl (hb hby d24_36) rfl (l' := #[.val (.int nx), .val (.int (0 : Int32)), .val (.int (-1000 : Int32)), .val (.int ((2 : Int32) + (1 : Int32)))]) rfl kZ) ?_
      rw [show (2 : Int32) + (1 : Int32) = 3 from by decide]
      refine own_by (S' := s₁.setTop (mkF m 16 #[.val (.int nx), .val (.int (0 : Int32)), .val (.int (-1000 : Int32)), .val (.int (3 : Int32))] [])) (fun tZ kZ => XS.goto X0.here hx rfl (pc0 := 39) (pc' := 16) rfl (hb hby d24_39) (by decide) (by decide) kZ) ?_
      refine own_by (S' := s₁.setTop (mkF m 17 #[.val (.int nx), .val (.int (0 : Int32)), .val (.int (-1000 : Int32)), .val (.int (3 : Int32))] [(.int (3 : Int32))])) (fun tZ kZ => XS.iloadN X0.here hx rfl (hb hby d24_16) rfl kZ) ?_
      refine own_by (S' := s₁.setTop (mkF m 19 #[.val (.int nx), .val (.int (0 : Int32)), .val (.int (-1000 : Int32)), .val (.int (3 : Int32))] [(.int (10 : Int32)), (.int (3 : Int32))])) (fun tZ kZ => XS.bipush X0.here hx rfl (hb hby d24_17) kZ) ?_
      refine own_by (S' := s₁.setTop (mkF m 22 #[.val (.int nx), .val (.int (0 : Int32)), .val (.int (-1000 : Int32)), .val (.int (3 : Int32))] [])) (fun tZ kZ => XS.icmpNo X0.here hx rfl (hb hby d24_19) rfl (tlt (by decide)).2.1 kZ) ?_
      refine own_by (S' := s₁.setTop (mkF m 23 #[.val (.int nx), .val (.int (0 : Int32)), .val (.int (-1000 : Int32)), .val (.int (3 : Int32))] [(.int nx)])) (fun tZ kZ => XS.iloadN X0.here hx rfl (hb hby d24_22) rfl kZ) ?_
      refine own_by (S' := s₁.setTop (mkF m 24 #[.val (.int nx), .val (.int (0 : Int32)), .val (.int (-1000 : Int32)), .val (.int (3 : Int32))] [(.int (-1000 : Int32)), (.int nx)])) (fun tZ kZ => XS.iloadN X0.here hx rfl (hb hby d24_23) rfl kZ) ?_
      by_cases hc3 : (-1000 : Int32) < nx
      · refine own_by (S' := s₁.setTop (mkF m 27 #[.val (.int nx), .val (.int (0 : Int32)), .val (.int (-1000 : Int32)), .val (.int (3 : Int32))] [])) (fun tZ kZ => XS.icmpNo X0.here hx rfl (hb hby d24_24) rfl (tlt hc3).2.2.2 kZ) ?_
        have hlt : x.toInt < 10 ^ 3 := by
          rw [own_ltI] at hc3
          have e : (-1000 : Int32).toInt = -1000 := rfl
          have e2 : (10 : Int) ^ 3 = 1000 := by decide
          omega
        refine own_by (S' := s₁.setTop (mkF m 28 #[.val (.int nx), .val (.int (0 : Int32)), .val (.int (-1000 : Int32)), .val (.int (3 : Int32))] [(.int (3 : Int32))])) (fun tZ kZ => XS.iloadN X0.here hx rfl (hb hby d24_27) rfl kZ) ?_
        refine own_by (S' := s₁.setTop (mkF m 29 #[.val (.int nx), .val (.int (0 : Int32)), .val (.int (-1000 : Int32)), .val (.int (3 : Int32))] [(.int (0 : Int32)), (.int (3 : Int32))])) (fun tZ kZ => XS.iloadN X0.here hx rfl (hb hby d24_28) rfl kZ) ?_
        refine own_by (S' := s₁.setTop (mkF m 30 #[.val (.int nx), .val (.int (0 : Int32)), .val (.int (-1000 : Int32)), .val (.int (3 : Int32))] [(.int ((3 : Int32) + (0 : Int32)))])) (fun tZ kZ => XS.iadd X0.here hx rfl (hb hby d24_29) rfl kZ) ?_
        exact own_retI X0 hx (t := .int) Bd.returns (by simp) rfl (hb hby d24_30) Bd.notSynchronized (by decide) (by decide) ⟨_, 3, rfl, N0, e0, by decide, by decide, by decide, hlt⟩
      · refine own_by (S' := s₁.setTop (mkF m 31 #[.val (.int nx), .val (.int (0 : Int32)), .val (.int (-1000 : Int32)), .val (.int (3 : Int32))] [])) (fun tZ kZ => XS.icmpYes X0.here hx rfl (pc0 := 24) (pc' := 31) rfl (hb hby d24_24) rfl (flt hc3).2.2.2 (by decide) (by decide) kZ) ?_
        refine own_by (S' := s₁.setTop (mkF m 33 #[.val (.int nx), .val (.int (0 : Int32)), .val (.int (-1000 : Int32)), .val (.int (3 : Int32))] [(.int (10 : Int32))])) (fun tZ kZ => XS.bipush X0.here hx rfl (hb hby d24_31) kZ) ?_
        refine own_by (S' := s₁.setTop (mkF m 34 #[.val (.int nx), .val (.int (0 : Int32)), .val (.int (-1000 : Int32)), .val (.int (3 : Int32))] [(.int (-1000 : Int32)), (.int (10 : Int32))])) (fun tZ kZ => XS.iloadN X0.here hx rfl (hb hby d24_33) rfl kZ) ?_
        refine own_by (S' := s₁.setTop (mkF m 35 #[.val (.int nx), .val (.int (0 : Int32)), .val (.int (-1000 : Int32)), .val (.int (3 : Int32))] [(.int ((10 : Int32) * (-1000 : Int32)))])) (fun tZ kZ => XS.imul X0.here hx rfl (hb hby d24_34) rfl kZ) ?_
        rw [show (10 : Int32) * (-1000 : Int32) = -10000 from by decide]
        refine own_by (S' := s₁.setTop (mkF m 36 #[.val (.int nx), .val (.int (0 : Int32)), .val (.int (-10000 : Int32)), .val (.int (3 : Int32))] [])) (fun tZ kZ => XS.istoreN X0.here hx rfl (hb hby d24_35) rfl (l' := #[.val (.int nx), .val (.int (0 : Int32)), .val (.int (-10000 : Int32)), .val (.int (3 : Int32))]) rfl kZ) ?_
        refine own_by (S' := s₁.setTop (mkF m 39 #[.val (.int nx), .val (.int (0 : Int32)), .val (.int (-10000 : Int32)), .val (.int ((3 : Int32) + (1 : Int32)))] [])) (fun tZ kZ => XS.iinc X0.here hx rfl (hb hby d24_36) rfl (l' := #[.val (.int nx), .val (.int (0 : Int32)), .val (.int (-10000 : Int32)), .val (.int ((3 : Int32) + (1 : Int32)))]) rfl kZ) ?_
        rw [show (3 : Int32) + (1 : Int32) = 4 from by decide]
        refine own_by (S' := s₁.setTop (mkF m 16 #[.val (.int nx), .val (.int (0 : Int32)), .val (.int (-10000 : Int32)), .val (.int (4 : Int32))] [])) (fun tZ kZ => XS.goto X0.here hx rfl (pc0 := 39) (pc' := 16) rfl (hb hby d24_39) (by decide) (by decide) kZ) ?_
        refine own_by (S' := s₁.setTop (mkF m 17 #[.val (.int nx), .val (.int (0 : Int32)), .val (.int (-10000 : Int32)), .val (.int (4 : Int32))] [(.int (4 : Int32))])) (fun tZ kZ => XS.iloadN X0.here hx rfl (hb hby d24_16) rfl kZ) ?_
        refine own_by (S' := s₁.setTop (mkF m 19 #[.val (.int nx), .val (.int (0 : Int32)), .val (.int (-10000 : Int32)), .val (.int (4 : Int32))] [(.int (10 : Int32)), (.int (4 : Int32))])) (fun tZ kZ => XS.bipush X0.here hx rfl (hb hby d24_17) kZ) ?_
        refine own_by (S' := s₁.setTop (mkF m 22 #[.val (.int nx), .val (.int (0 : Int32)), .val (.int (-10000 : Int32)), .val (.int (4 : Int32))] [])) (fun tZ kZ => XS.icmpNo X0.here hx rfl (hb hby d24_19) rfl (tlt (by decide)).2.1 kZ) ?_
        refine own_by (S' := s₁.setTop (mkF m 23 #[.val (.int nx), .val (.int (0 : Int32)), .val (.int (-10000 : Int32)), .val (.int (4 : Int32))] [(.int nx)])) (fun tZ kZ => XS.iloadN X0.here hx rfl (hb hby d24_22) rfl kZ) ?_
        refine own_by (S' := s₁.setTop (mkF m 24 #[.val (.int nx), .val (.int (0 : Int32)), .val (.int (-10000 : Int32)), .val (.int (4 : Int32))] [(.int (-10000 : Int32)), (.int nx)])) (fun tZ kZ => XS.iloadN X0.here hx rfl (hb hby d24_23) rfl kZ) ?_
        by_cases hc4 : (-10000 : Int32) < nx
        · refine own_by (S' := s₁.setTop (mkF m 27 #[.val (.int nx), .val (.int (0 : Int32)), .val (.int (-10000 : Int32)), .val (.int (4 : Int32))] [])) (fun tZ kZ => XS.icmpNo X0.here hx rfl (hb hby d24_24) rfl (tlt hc4).2.2.2 kZ) ?_
          have hlt : x.toInt < 10 ^ 4 := by
            rw [own_ltI] at hc4
            have e : (-10000 : Int32).toInt = -10000 := rfl
            have e2 : (10 : Int) ^ 4 = 10000 := by decide
            omega
          refine own_by (S' := s₁.setTop (mkF m 28 #[.val (.int nx), .val (.int (0 : Int32)), .val (.int (-10000 : Int32)), .val (.int (4 : Int32))] [(.int (4 : Int32))])) (fun tZ kZ => XS.iloadN X0.here hx rfl (hb hby d24_27) rfl kZ) ?_
          refine own_by (S' := s₁.setTop (mkF m 29 #[.val (.int nx), .val (.int (0 : Int32)), .val (.int (-10000 : Int32)), .val (.int (4 : Int32))] [(.int (0 : Int32)), (.int (4 : Int32))])) (fun tZ kZ => XS.iloadN X0.here hx rfl (hb hby d24_28) rfl kZ) ?_
          refine own_by (S' := s₁.setTop (mkF m 30 #[.val (.int nx), .val (.int (0 : Int32)), .val (.int (-10000 : Int32)), .val (.int (4 : Int32))] [(.int ((4 : Int32) + (0 : Int32)))])) (fun tZ kZ => XS.iadd X0.here hx rfl (hb hby d24_29) rfl kZ) ?_
          exact own_retI X0 hx (t := .int) Bd.returns (by simp) rfl (hb hby d24_30) Bd.notSynchronized (by decide) (by decide) ⟨_, 4, rfl, N0, e0, by decide, by decide, by decide, hlt⟩
        · refine own_by (S' := s₁.setTop (mkF m 31 #[.val (.int nx), .val (.int (0 : Int32)), .val (.int (-10000 : Int32)), .val (.int (4 : Int32))] [])) (fun tZ kZ => XS.icmpYes X0.here hx rfl (pc0 := 24) (pc' := 31) rfl (hb hby d24_24) rfl (flt hc4).2.2.2 (by decide) (by decide) kZ) ?_
          refine own_by (S' := s₁.setTop (mkF m 33 #[.val (.int nx), .val (.int (0 : Int32)), .val (.int (-10000 : Int32)), .val (.int (4 : Int32))] [(.int (10 : Int32))])) (fun tZ kZ => XS.bipush X0.here hx rfl (hb hby d24_31) kZ) ?_
          refine own_by (S' := s₁.setTop (mkF m 34 #[.val (.int nx), .val (.int (0 : Int32)), .val (.int (-10000 : Int32)), .val (.int (4 : Int32))] [(.int (-10000 : Int32)), (.int (10 : Int32))])) (fun tZ kZ => XS.iloadN X0.here hx rfl (hb hby d24_33) rfl kZ) ?_
          refine own_by (S' := s₁.setTop (mkF m 35 #[.val (.int nx), .val (.int (0 : Int32)), .val (.int (-10000 : Int32)), .val (.int (4 : Int32))] [(.int ((10 : Int32) * (-10000 : Int32)))])) (fun tZ kZ => XS.imul X0.here hx rfl (hb hby d24_34) rfl kZ) ?_
          rw [show (10 : Int32) * (-10000 : Int32) = -100000 from by decide]
          refine own_by (S' := s₁.setTop (mkF m 36 #[.val (.int nx), .val (.int (0 : Int32)), .val (.int (-100000 : Int32)), .val (.int (4 : Int32))] [])) (fun tZ kZ => XS.istoreN X0.here hx rfl (hb hby d24_35) rfl (l' := #[.val (.int nx), .val (.int (0 : Int32)), .val (.int (-100000 : Int32)), .val (.int (4 : Int32))]) rfl kZ) ?_
          refine own_by (S' := s₁.setTop (mkF m 39 #[.val (.int nx), .val (.int (0 : Int32)), .val (.int (-100000 : Int32)), .val (.int ((4 : Int32) + (1 : Int32)))] [])) (fun tZ kZ => XS.iinc X0.here hx rfl (hb hby d24_36) rfl (l' := #[.val (.int nx), .val (.int (0 : Int32)), .val (.int (-100000 : Int32)), .val (.int ((4 : Int32) + (1 : Int32)))]) rfl kZ) ?_
          rw [show (4 : Int32) + (1 : Int32) = 5 from by decide]
          refine own_by (S' := s₁.setTop (mkF m 16 #[.val (.int nx), .val (.int (0 : Int32)), .val (.int (-100000 : Int32)), .val (.int (5 : Int32))] [])) (fun tZ kZ => XS.goto X0.here hx rfl (pc0 := 39) (pc' := 16) rfl (hb hby d24_39) (by decide) (by decide) kZ) ?_
          refine own_by (S' := s₁.setTop (mkF m 17 #[.val (.int nx), .val (.int (0 : Int32)), .val (.int (-100000 : Int32)), .val (.int (5 : Int32))] [(.int (5 : Int32))])) (fun tZ kZ => XS.iloadN X0.here hx rfl (hb hby d24_16) rfl kZ) ?_
          refine own_by (S' := s₁.setTop (mkF m 19 #[.val (.int nx), .val (.int (0 : Int32)), .val (.int (-100000 : Int32)), .val (.int (5 : Int32))] [(.int (10 : Int32)), (.int (5 : Int32))])) (fun tZ kZ => XS.bipush X0.here hx rfl (hb hby d24_17) kZ) ?_
          refine own_by (S' := s₁.setTop (mkF m 22 #[.val (.int nx), .val (.int (0 : Int32)), .val (.int (-100000 : Int32)), .val (.int (5 : Int32))] [])) (fun tZ kZ => XS.icmpNo X0.here hx rfl (hb hby d24_19) rfl (tlt (by decide)).2.1 kZ) ?_
          refine own_by (S' := s₁.setTop (mkF m 23 #[.val (.int nx), .val (.int (0 : Int32)), .val (.int (-100000 : Int32)), .val (.int (5 : Int32))] [(.int nx)])) (fun tZ kZ => XS.iloadN X0.here hx rfl (hb hby d24_22) rfl kZ) ?_
          refine own_by (S' := s₁.setTop (mkF m 24 #[.val (.int nx), .val (.int (0 : Int32)), .val (.int (-100000 : Int32)), .val (.int (5 : Int32))] [(.int (-100000 : Int32)), (.int nx)])) (fun tZ kZ => XS.iloadN X0.here hx rfl (hb hby d24_23) rfl kZ) ?_
          by_cases hc5 : (-100000 : Int32) < nx
          · refine own_by (S' := s₁.setTop (mkF m 27 #[.val (.int nx), .val (.int (0 : Int32)), .val (.int (-100000 : Int32)), .val (.int (5 : Int32))] [])) (fun tZ kZ => XS.icmpNo X0.here hx rfl (hb hby d24_24) rfl (tlt hc5).2.2.2 kZ) ?_
            have hlt : x.toInt < 10 ^ 5 := by
              rw [own_ltI] at hc5
              have e : (-100000 : Int32).toInt = -100000 := rfl
              have e2 : (10 : Int) ^ 5 = 100000 := by decide
              omega
            refine own_by (S' := s₁.setTop (mkF m 28 #[.val (.int nx), .val (.int (0 : Int32)), .val (.int (-100000 : Int32)), .val (.int (5 : Int32))] [(.int (5 : Int32))])) (fun tZ kZ => XS.iloadN X0.here hx rfl (hb hby d24_27) rfl kZ) ?_
            refine own_by (S' := s₁.setTop (mkF m 29 #[.val (.int nx), .val (.int (0 : Int32)), .val (.int (-100000 : Int32)), .val (.int (5 : Int32))] [(.int (0 : Int32)), (.int (5 : Int32))])) (fun tZ kZ => XS.iloadN X0.here hx rfl (hb hby d24_28) rfl kZ) ?_
            refine own_by (S' := s₁.setTop (mkF m 30 #[.val (.int nx), .val (.int (0 : Int32)), .val (.int (-100000 : Int32)), .val (.int (5 : Int32))] [(.int ((5 : Int32) + (0 : Int32)))])) (fun tZ kZ => XS.iadd X0.here hx rfl (hb hby d24_29) rfl kZ) ?_
            exact own_retI X0 hx (t := .int) Bd.returns (by simp) rfl (hb hby d24_30) Bd.notSynchronized (by decide) (by decide) ⟨_, 5, rfl, N0, e0, by decide, by decide, by decide, hlt⟩
          · refine own_by (S' := s₁.setTop (mkF m 31 #[.val (.int nx), .val (.int (0 : Int32)), .val (.int (-100000 : Int32)), .val (.int (5 : Int32))] [])) (fun tZ kZ => XS.icmpYes X0.here hx rfl (pc0 := 24) (pc' := 31) rfl (hb hby d24_24) rfl (flt hc5).2.2.2 (by decide) (by decide) kZ) ?_
            refine own_by (S' := s₁.setTop (mkF m 33 #[.val (.int nx), .val (.int (0 : Int32)), .val (.int (-100000 : Int32)), .val (.int (5 : Int32))] [(.int (10 : Int32))])) (fun tZ kZ => XS.bipush X0.here hx rfl (hb hby d24_31) kZ) ?_
            refine own_by (S' := s₁.setTop (mkF m 34 #[.val (.int nx), .val (.int (0 : Int32)), .val (.int (-100000 : Int32)), .val (.int (5 : Int32))] [(.int (-100000 : Int32)), (.int (10 : Int32))])) (fun tZ kZ => XS.iloadN X0.here hx rfl (hb hby d24_33) rfl kZ) ?_
            refine own_by (S' := s₁.setTop (mkF m 35 #[.val (.int nx), .val (.int (0 : Int32)), .val (.int (-100000 : Int32)), .val (.int (5 : Int32))] [(.int ((10 : Int32) * (-100000 : Int32)))])) (fun tZ kZ => XS.imul X0.here hx rfl (hb hby d24_34) rfl kZ) ?_
            rw [show (10 : Int32) * (-100000 : Int32) = -1000000 from by decide]
            refine own_by (S' := s₁.setTop (mkF m 36 #[.val (.int nx), .val (.int (0 : Int32)), .val (.int (-1000000 : Int32)), .val (.int (5 : Int32))] [])) (fun tZ kZ => XS.istoreN X0.here hx rfl (hb hby d24_35) rfl (l' := #[.val (.int nx), .val (.int (0 : Int32)), .val (.int (-1000000 : Int32)), .val (.int (5 : Int32))]) rfl kZ) ?_
            refine own_by (S' := s₁.setTop (mkF m 39 #[.val (.int nx), .val (.int (0 : Int32)), .val (.int (-1000000 : Int32)), .val (.int ((5 : Int32) + (1 : Int32)))] [])) (fun tZ kZ => XS.iinc X0.here hx rfl (hb hby d24_36) rfl (l' := #[.val (.int nx), .val (.int (0 : Int32)), .val (.int (-1000000 : Int32)), .val (.int ((5 : Int32) + (1 : Int32)))]) rfl kZ) ?_
            rw [show (5 : Int32) + (1 : Int32) = 6 from by decide]
            refine own_by (S' := s₁.setTop (mkF m 16 #[.val (.int nx), .val (.int (0 : Int32)), .val (.int (-1000000 : Int32)), .val (.int (6 : Int32))] [])) (fun tZ kZ => XS.goto X0.here hx rfl (pc0 := 39) (pc' := 16) rfl (hb hby d24_39) (by decide) (by decide) kZ) ?_
            refine own_by (S' := s₁.setTop (mkF m 17 #[.val (.int nx), .val (.int (0 : Int32)), .val (.int (-1000000 : Int32)), .val (.int (6 : Int32))] [(.int (6 : Int32))])) (fun tZ kZ => XS.iloadN X0.here hx rfl (hb hby d24_16) rfl kZ) ?_
            refine own_by (S' := s₁.setTop (mkF m 19 #[.val (.int nx), .val (.int (0 : Int32)), .val (.int (-1000000 : Int32)), .val (.int (6 : Int32))] [(.int (10 : Int32)), (.int (6 : Int32))])) (fun tZ kZ => XS.bipush X0.here hx rfl (hb hby d24_17) kZ) ?_
            refine own_by (S' := s₁.setTop (mkF m 22 #[.val (.int nx), .val (.int (0 : Int32)), .val (.int (-1000000 : Int32)), .val (.int (6 : Int32))] [])) (fun tZ kZ => XS.icmpNo X0.here hx rfl (hb hby d24_19) rfl (tlt (by decide)).2.1 kZ) ?_
            refine own_by (S' := s₁.setTop (mkF m 23 #[.val (.int nx), .val (.int (0 : Int32)), .val (.int (-1000000 : Int32)), .val (.int (6 : Int32))] [(.int nx)])) (fun tZ kZ => XS.iloadN X0.here hx rfl (hb hby d24_22) rfl kZ) ?_
            refine own_by (S' := s₁.setTop (mkF m 24 #[.val (.int nx), .val (.int (0 : Int32)), .val (.int (-1000000 : Int32)), .val (.int (6 : Int32))] [(.int (-1000000 : Int32)), (.int nx)])) (fun tZ kZ => XS.iloadN X0.here hx rfl (hb hby d24_23) rfl kZ) ?_
            by_cases hc6 : (-1000000 : Int32) < nx
            · refine own_by (S' := s₁.setTop (mkF m 27 #[.val (.int nx), .val (.int (0 : Int32)), .val (.int (-1000000 : Int32)), .val (.int (6 : Int32))] [])) (fun tZ kZ => XS.icmpNo X0.here hx rfl (hb hby d24_24) rfl (tlt hc6).2.2.2 kZ) ?_
              have hlt : x.toInt < 10 ^ 6 := by
                rw [own_ltI] at hc6
                have e : (-1000000 : Int32).toInt = -1000000 := rfl
                have e2 : (10 : Int) ^ 6 = 1000000 := by decide
                omega
              refine own_by (S' := s₁.setTop (mkF m 28 #[.val (.int nx), .val (.int (0 : Int32)), .val (.int (-1000000 : Int32)), .val (.int (6 : Int32))] [(.int (6 : Int32))])) (fun tZ kZ => XS.iloadN X0.here hx rfl (hb hby d24_27) rfl kZ) ?_
              refine own_by (S' := s₁.setTop (mkF m 29 #[.val (.int nx), .val (.int (0 : Int32)), .val (.int (-1000000 : Int32)), .val (.int (6 : Int32))] [(.int (0 : Int32)), (.int (6 : Int32))])) (fun tZ kZ => XS.iloadN X0.here hx rfl (hb hby d24_28) rfl kZ) ?_
              refine own_by (S' := s₁.setTop (mkF m 30 #[.val (.int nx), .val (.int (0 : Int32)), .val (.int (-1000000 : Int32)), .val (.int (6 : Int32))] [(.int ((6 : Int32) + (0 : Int32)))])) (fun tZ kZ => XS.iadd X0.here hx rfl (hb hby d24_29) rfl kZ) ?_
              exact own_retI X0 hx (t := .int) Bd.returns (by simp) rfl (hb hby d24_30) Bd.notSynchronized (by decide) (by decide) ⟨_, 6, rfl, N0, e0, by decide, by decide, by decide, hlt⟩
            · refine own_by (S' := s₁.setTop (mkF m 31 #[.val (.int nx), .val (.int (0 : Int32)), .val (.int (-1000000 : Int32)), .val (.int (6 : Int32))] [])) (fun tZ kZ => XS.icmpYes X0.here hx rfl (pc0 := 24) (pc' := 31) rfl (hb hby d24_24) rfl (flt hc6).2.2.2 (by decide) (by decide) kZ) ?_
              refine own_by (S' := s₁.setTop (mkF m 33 #[.val (.int nx), .val (.int (0 : Int32)), .val (.int (-1000000 : Int32)), .val (.int (6 : Int32))] [(.int (10 : Int32))])) (fun tZ kZ => XS.bipush X0.here hx rfl (hb hby d24_31) kZ) ?_
              refine own_by (S' := s₁.setTop (mkF m 34 #[.val (.int nx), .val (.int (0 : Int32)), .val (.int (-1000000 : Int32)), .val (.int (6 : Int32))] [(.int (-1000000 : Int32)), (.int (10 : Int32))])) (fun tZ kZ => XS.iloadN X0.here hx rfl (hb hby d24_33) rfl kZ) ?_
              refine own_by (S' := s₁.setTop (mkF m 35 #[.val (.int nx), .val (.int (0 : Int32)), .val (.int (-1000000 : Int32)), .val (.int (6 : Int32))] [(.int ((10 : Int32) * (-1000000 : Int32)))])) (fun tZ kZ => XS.imul X0.here hx rfl (hb hby d24_34) rfl kZ) ?_
              rw [show (10 : Int32) * (-1000000 : Int32) = -10000000 from by decide]
              refine own_by (S' := s₁.setTop (mkF m 36 #[.val (.int nx), .val (.int (0 : Int32)), .val (.int (-10000000 : Int32)), .val (.int (6 : Int32))] [])) (fun tZ kZ => XS.istoreN X0.here hx rfl (hb hby d24_35) rfl (l' := #[.val (.int nx), .val (.int (0 : Int32)), .val (.int (-10000000 : Int32)), .val (.int (6 : Int32))]) rfl kZ) ?_
              refine own_by (S' := s₁.setTop (mkF m 39 #[.val (.int nx), .val (.int (0 : Int32)), .val (.int (-10000000 : Int32)), .val (.int ((6 : Int32) + (1 : Int32)))] [])) (fun tZ kZ => XS.iinc X0.here hx rfl (hb hby d24_36) rfl (l' := #[.val (.int nx), .val (.int (0 : Int32)), .val (.int (-10000000 : Int32)), .val (.int ((6 : Int32) + (1 : Int32)))]) rfl kZ) ?_
              rw [show (6 : Int32) + (1 : Int32) = 7 from by decide]
              refine own_by (S' := s₁.setTop (mkF m 16 #[.val (.int nx), .val (.int (0 : Int32)), .val (.int (-10000000 : Int32)), .val (.int (7 : Int32))] [])) (fun tZ kZ => XS.goto X0.here hx rfl (pc0 := 39) (pc' := 16) rfl (hb hby d24_39) (by decide) (by decide) kZ) ?_
              refine own_by (S' := s₁.setTop (mkF m 17 #[.val (.int nx), .val (.int (0 : Int32)), .val (.int (-10000000 : Int32)), .val (.int (7 : Int32))] [(.int (7 : Int32))])) (fun tZ kZ => XS.iloadN X0.here hx rfl (hb hby d24_16) rfl kZ) ?_
              refine own_by (S' := s₁.setTop (mkF m 19 #[.val (.int nx), .val (.int (0 : Int32)), .val (.int (-10000000 : Int32)), .val (.int (7 : Int32))] [(.int (10 : Int32)), (.int (7 : Int32))])) (fun tZ kZ => XS.bipush X0.here hx rfl (hb hby d24_17) kZ) ?_
              refine own_by (S' := s₁.setTop (mkF m 22 #[.val (.int nx), .val (.int (0 : Int32)), .val (.int (-10000000 : Int32)), .val (.int (7 : Int32))] [])) (fun tZ kZ => XS.icmpNo X0.here hx rfl (hb hby d24_19) rfl (tlt (by decide)).2.1 kZ) ?_
              refine own_by (S' := s₁.setTop (mkF m 23 #[.val (.int nx), .val (.int (0 : Int32)), .val (.int (-10000000 : Int32)), .val (.int (7 : Int32))] [(.int nx)])) (fun tZ kZ => XS.iloadN X0.here hx rfl (hb hby d24_22) rfl kZ) ?_
              refine own_by (S' := s₁.setTop (mkF m 24 #[.val (.int nx), .val (.int (0 : Int32)), .val (.int (-10000000 : Int32)), .val (.int (7 : Int32))] [(.int (-10000000 : Int32)), (.int nx)])) (fun tZ kZ => XS.iloadN X0.here hx rfl (hb hby d24_23) rfl kZ) ?_
              by_cases hc7 : (-10000000 : Int32) < nx
              · refine own_by (S' := s₁.setTop (mkF m 27 #[.val (.int nx), .val (.int (0 : Int32)), .val (.int (-10000000 : Int32)), .val (.int (7 : Int32))] [])) (fun tZ kZ => XS.icmpNo X0.here hx rfl (hb hby d24_24) rfl (tlt hc7).2.2.2 kZ) ?_
                have hlt : x.toInt < 10 ^ 7 := by
                  rw [own_ltI] at hc7
                  have e : (-10000000 : Int32).toInt = -10000000 := rfl
                  have e2 : (10 : Int) ^ 7 = 10000000 := by decide
                  omega
                refine own_by (S' := s₁.setTop (mkF m 28 #[.val (.int nx), .val (.int (0 : Int32)), .val (.int (-10000000 : Int32)), .val (.int (7 : Int32))] [(.int (7 : Int32))])) (fun tZ kZ => XS.iloadN X0.here hx rfl (hb hby d24_27) rfl kZ) ?_
                refine own_by (S' := s₁.setTop (mkF m 29 #[.val (.int nx), .val (.int (0 : Int32)), .val (.int (-10000000 : Int32)), .val (.int (7 : Int32))] [(.int (0 : Int32)), (.int (7 : Int32))])) (fun tZ kZ => XS.iloadN X0.here hx rfl (hb hby d24_28) rfl kZ) ?_
                refine own_by (S' := s₁.setTop (mkF m 30 #[.val (.int nx), .val (.int (0 : Int32)), .val (.int (-10000000 : Int32)), .val (.int (7 : Int32))] [(.int ((7 : Int32) + (0 : Int32)))])) (fun tZ kZ => XS.iadd X0.here hx rfl (hb hby d24_29) rfl kZ) ?_
                exact own_retI X0 hx (t := .int) Bd.returns (by simp) rfl (hb hby d24_30) Bd.notSynchronized (by decide) (by decide) ⟨_, 7, rfl, N0, e0, by decide, by decide, by decide, hlt⟩
              · refine own_by (S' := s₁.setTop (mkF m 31 #[.val (.int nx), .val (.int (0 : Int32)), .val (.int (-10000000 : Int32)), .val (.int (7 : Int32))] [])) (fun tZ kZ => XS.icmpYes X0.here hx rfl (pc0 := 24) (pc' := 31) rfl (hb hby d24_24) rfl (flt hc7).2.2.2 (by decide) (by decide) kZ) ?_
                refine own_by (S' := s₁.setTop (mkF m 33 #[.val (.int nx), .val (.int (0 : Int32)), .val (.int (-10000000 : Int32)), .val (.int (7 : Int32))] [(.int (10 : Int32))])) (fun tZ kZ => XS.bipush X0.here hx rfl (hb hby d24_31) kZ) ?_
                refine own_by (S' := s₁.setTop (mkF m 34 #[.val (.int nx), .val (.int (0 : Int32)), .val (.int (-10000000 : Int32)), .val (.int (7 : Int32))] [(.int (-10000000 : Int32)), (.int (10 : Int32))])) (fun tZ kZ => XS.iloadN X0.here hx rfl (hb hby d24_33) rfl kZ) ?_
                refine own_by (S' := s₁.setTop (mkF m 35 #[.val (.int nx), .val (.int (0 : Int32)), .val (.int (-10000000 : Int32)), .val (.int (7 : Int32))] [(.int ((10 : Int32) * (-10000000 : Int32)))])) (fun tZ kZ => XS.imul X0.here hx rfl (hb hby d24_34) rfl kZ) ?_
                rw [show (10 : Int32) * (-10000000 : Int32) = -100000000 from by decide]
                refine own_by (S' := s₁.setTop (mkF m 36 #[.val (.int nx), .val (.int (0 : Int32)), .val (.int (-100000000 : Int32)), .val (.int (7 : Int32))] [])) (fun tZ kZ => XS.istoreN X0.here hx rfl (hb hby d24_35) rfl (l' := #[.val (.int nx), .val (.int (0 : Int32)), .val (.int (-100000000 : Int32)), .val (.int (7 : Int32))]) rfl kZ) ?_
                refine own_by (S' := s₁.setTop (mkF m 39 #[.val (.int nx), .val (.int (0 : Int32)), .val (.int (-100000000 : Int32)), .val (.int ((7 : Int32) + (1 : Int32)))] [])) (fun tZ kZ => XS.iinc X0.here hx rfl (hb hby d24_36) rfl (l' := #[.val (.int nx), .val (.int (0 : Int32)), .val (.int (-100000000 : Int32)), .val (.int ((7 : Int32) + (1 : Int32)))]) rfl kZ) ?_
                rw [show (7 : Int32) + (1 : Int32) = 8 from by decide]
                refine own_by (S' := s₁.setTop (mkF m 16 #[.val (.int nx), .val (.int (0 : Int32)), .val (.int (-100000000 : Int32)), .val (.int (8 : Int32))] [])) (fun tZ kZ => XS.goto X0.here hx rfl (pc0 := 39) (pc' := 16) rfl (hb hby d24_39) (by decide) (by decide) kZ) ?_
                refine own_by (S' := s₁.setTop (mkF m 17 #[.val (.int nx), .val (.int (0 : Int32)), .val (.int (-100000000 : Int32)), .val (.int (8 : Int32))] [(.int (8 : Int32))])) (fun tZ kZ => XS.iloadN X0.here hx rfl (hb hby d24_16) rfl kZ) ?_
                refine own_by (S' := s₁.setTop (mkF m 19 #[.val (.int nx), .val (.int (0 : Int32)), .val (.int (-100000000 : Int32)), .val (.int (8 : Int32))] [(.int (10 : Int32)), (.int (8 : Int32))])) (fun tZ kZ => XS.bipush X0.here hx rfl (hb hby d24_17) kZ) ?_
                refine own_by (S' := s₁.setTop (mkF m 22 #[.val (.int nx), .val (.int (0 : Int32)), .val (.int (-100000000 : Int32)), .val (.int (8 : Int32))] [])) (fun tZ kZ => XS.icmpNo X0.here hx rfl (hb hby d24_19) rfl (tlt (by decide)).2.1 kZ) ?_
                refine own_by (S' := s₁.setTop (mkF m 23 #[.val (.int nx), .val (.int (0 : Int32)), .val (.int (-100000000 : Int32)), .val (.int (8 : Int32))] [(.int nx)])) (fun tZ kZ => XS.iloadN X0.here hx rfl (hb hby d24_22) rfl kZ) ?_
                refine own_by (S' := s₁.setTop (mkF m 24 #[.val (.int nx), .val (.int (0 : Int32)), .val (.int (-100000000 : Int32)), .val (.int (8 : Int32))] [(.int (-100000000 : Int32)), (.int nx)])) (fun tZ kZ => XS.iloadN X0.here hx rfl (hb hby d24_23) rfl kZ) ?_
                by_cases hc8 : (-100000000 : Int32) < nx
                · refine own_by (S' := s₁.setTop (mkF m 27 #[.val (.int nx), .val (.int (0 : Int32)), .val (.int (-100000000 : Int32)), .val (.int (8 : Int32))] [])) (fun tZ kZ => XS.icmpNo X0.here hx rfl (hb hby d24_24) rfl (tlt hc8).2.2.2 kZ) ?_
                  have hlt : x.toInt < 10 ^ 8 := by
                    rw [own_ltI] at hc8
                    have e : (-100000000 : Int32).toInt = -100000000 := rfl
                    have e2 : (10 : Int) ^ 8 = 100000000 := by decide
                    omega
                  refine own_by (S' := s₁.setTop (mkF m 28 #[.val (.int nx), .val (.int (0 : Int32)), .val (.int (-100000000 : Int32)), .val (.int (8 : Int32))] [(.int (8 : Int32))])) (fun tZ kZ => XS.iloadN X0.here hx rfl (hb hby d24_27) rfl kZ) ?_
                  refine own_by (S' := s₁.setTop (mkF m 29 #[.val (.int nx), .val (.int (0 : Int32)), .val (.int (-100000000 : Int32)), .val (.int (8 : Int32))] [(.int (0 : Int32)), (.int (8 : Int32))])) (fun tZ kZ => XS.iloadN X0.here hx rfl (hb hby d24_28) rfl kZ) ?_
                  refine own_by (S' := s₁.setTop (mkF m 30 #[.val (.int nx), .val (.int (0 : Int32)), .val (.int (-100000000 : Int32)), .val (.int (8 : Int32))] [(.int ((8 : Int32) + (0 : Int32)))])) (fun tZ kZ => XS.iadd X0.here hx rfl (hb hby d24_29) rfl kZ) ?_
                  exact own_retI X0 hx (t := .int) Bd.returns (by simp) rfl (hb hby d24_30) Bd.notSynchronized (by decide) (by decide) ⟨_, 8, rfl, N0, e0, by decide, by decide, by decide, hlt⟩
                · refine own_by (S' := s₁.setTop (mkF m 31 #[.val (.int nx), .val (.int (0 : Int32)), .val (.int (-100000000 : Int32)), .val (.int (8 : Int32))] [])) (fun tZ kZ => XS.icmpYes X0.here hx rfl (pc0 := 24) (pc' := 31) rfl (hb hby d24_24) rfl (flt hc8).2.2.2 (by decide) (by decide) kZ) ?_
                  refine own_by (S' := s₁.setTop (mkF m 33 #[.val (.int nx), .val (.int (0 : Int32)), .val (.int (-100000000 : Int32)), .val (.int (8 : Int32))] [(.int (10 : Int32))])) (fun tZ kZ => XS.bipush X0.here hx rfl (hb hby d24_31) kZ) ?_
                  refine own_by (S' := s₁.setTop (mkF m 34 #[.val (.int nx), .val (.int (0 : Int32)), .val (.int (-100000000 : Int32)), .val (.int (8 : Int32))] [(.int (-100000000 : Int32)), (.int (10 : Int32))])) (fun tZ kZ => XS.iloadN X0.here hx rfl (hb hby d24_33) rfl kZ) ?_
                  refine own_by (S' := s₁.setTop (mkF m 35 #[.val (.int nx), .val (.int (0 : Int32)), .val (.int (-100000000 : Int32)), .val (.int (8 : Int32))] [(.int ((10 : Int32) * (-100000000 : Int32)))])) (fun tZ kZ => XS.imul X0.here hx rfl (hb hby d24_34) rfl kZ) ?_
                  rw [show (10 : Int32) * (-100000000 : Int32) = -1000000000 from by decide]
                  refine own_by (S' := s₁.setTop (mkF m 36 #[.val (.int nx), .val (.int (0 : Int32)), .val (.int (-1000000000 : Int32)), .val (.int (8 : Int32))] [])) (fun tZ kZ => XS.istoreN X0.here hx rfl (hb hby d24_35) rfl (l' := #[.val (.int nx), .val (.int (0 : Int32)), .val (.int (-1000000000 : Int32)), .val (.int (8 : Int32))]) rfl kZ) ?_
                  refine own_by (S' := s₁.setTop (mkF m 39 #[.val (.int nx), .val (.int (0 : Int32)), .val (.int (-1000000000 : Int32)), .val (.int ((8 : Int32) + (1 : Int32)))] [])) (fun tZ kZ => XS.iinc X0.here hx rfl (hb hby d24_36) rfl (l' := #[.val (.int nx), .val (.int (0 : Int32)), .val (.int (-1000000000 : Int32)), .val (.int ((8 : Int32) + (1 : Int32)))]) rfl kZ) ?_
                  rw [show (8 : Int32) + (1 : Int32) = 9 from by decide]
                  refine own_by (S' := s₁.setTop (mkF m 16 #[.val (.int nx), .val (.int (0 : Int32)), .val (.int (-1000000000 : Int32)), .val (.int (9 : Int32))] [])) (fun tZ kZ => XS.goto X0.here hx rfl (pc0 := 39) (pc' := 16) rfl (hb hby d24_39) (by decide) (by decide) kZ) ?_
                  refine own_by (S' := s₁.setTop (mkF m 17 #[.val (.int nx), .val (.int (0 : Int32)), .val (.int (-1000000000 : Int32)), .val (.int (9 : Int32))] [(.int (9 : Int32))])) (fun tZ kZ => XS.iloadN X0.here hx rfl (hb hby d24_16) rfl kZ) ?_
                  refine own_by (S' := s₁.setTop (mkF m 19 #[.val (.int nx), .val (.int (0 : Int32)), .val (.int (-1000000000 : Int32)), .val (.int (9 : Int32))] [(.int (10 : Int32)), (.int (9 : Int32))])) (fun tZ kZ => XS.bipush X0.here hx rfl (hb hby d24_17) kZ) ?_
                  refine own_by (S' := s₁.setTop (mkF m 22 #[.val (.int nx), .val (.int (0 : Int32)), .val (.int (-1000000000 : Int32)), .val (.int (9 : Int32))] [])) (fun tZ kZ => XS.icmpNo X0.here hx rfl (hb hby d24_19) rfl (tlt (by decide)).2.1 kZ) ?_
                  refine own_by (S' := s₁.setTop (mkF m 23 #[.val (.int nx), .val (.int (0 : Int32)), .val (.int (-1000000000 : Int32)), .val (.int (9 : Int32))] [(.int nx)])) (fun tZ kZ => XS.iloadN X0.here hx rfl (hb hby d24_22) rfl kZ) ?_
                  refine own_by (S' := s₁.setTop (mkF m 24 #[.val (.int nx), .val (.int (0 : Int32)), .val (.int (-1000000000 : Int32)), .val (.int (9 : Int32))] [(.int (-1000000000 : Int32)), (.int nx)])) (fun tZ kZ => XS.iloadN X0.here hx rfl (hb hby d24_23) rfl kZ) ?_
                  by_cases hc9 : (-1000000000 : Int32) < nx
                  · refine own_by (S' := s₁.setTop (mkF m 27 #[.val (.int nx), .val (.int (0 : Int32)), .val (.int (-1000000000 : Int32)), .val (.int (9 : Int32))] [])) (fun tZ kZ => XS.icmpNo X0.here hx rfl (hb hby d24_24) rfl (tlt hc9).2.2.2 kZ) ?_
                    have hlt : x.toInt < 10 ^ 9 := by
                      rw [own_ltI] at hc9
                      have e : (-1000000000 : Int32).toInt = -1000000000 := rfl
                      have e2 : (10 : Int) ^ 9 = 1000000000 := by decide
                      omega
                    refine own_by (S' := s₁.setTop (mkF m 28 #[.val (.int nx), .val (.int (0 : Int32)), .val (.int (-1000000000 : Int32)), .val (.int (9 : Int32))] [(.int (9 : Int32))])) (fun tZ kZ => XS.iloadN X0.here hx rfl (hb hby d24_27) rfl kZ) ?_
                    refine own_by (S' := s₁.setTop (mkF m 29 #[.val (.int nx), .val (.int (0 : Int32)), .val (.int (-1000000000 : Int32)), .val (.int (9 : Int32))] [(.int (0 : Int32)), (.int (9 : Int32))])) (fun tZ kZ => XS.iloadN X0.here hx rfl (hb hby d24_28) rfl kZ) ?_
                    refine own_by (S' := s₁.setTop (mkF m 30 #[.val (.int nx), .val (.int (0 : Int32)), .val (.int (-1000000000 : Int32)), .val (.int (9 : Int32))] [(.int ((9 : Int32) + (0 : Int32)))])) (fun tZ kZ => XS.iadd X0.here hx rfl (hb hby d24_29) rfl kZ) ?_
                    exact own_retI X0 hx (t := .int) Bd.returns (by simp) rfl (hb hby d24_30) Bd.notSynchronized (by decide) (by decide) ⟨_, 9, rfl, N0, e0, by decide, by decide, by decide, hlt⟩
                  · refine own_by (S' := s₁.setTop (mkF m 31 #[.val (.int nx), .val (.int (0 : Int32)), .val (.int (-1000000000 : Int32)), .val (.int (9 : Int32))] [])) (fun tZ kZ => XS.icmpYes X0.here hx rfl (pc0 := 24) (pc' := 31) rfl (hb hby d24_24) rfl (flt hc9).2.2.2 (by decide) (by decide) kZ) ?_
                    refine own_by (S' := s₁.setTop (mkF m 33 #[.val (.int nx), .val (.int (0 : Int32)), .val (.int (-1000000000 : Int32)), .val (.int (9 : Int32))] [(.int (10 : Int32))])) (fun tZ kZ => XS.bipush X0.here hx rfl (hb hby d24_31) kZ) ?_
                    refine own_by (S' := s₁.setTop (mkF m 34 #[.val (.int nx), .val (.int (0 : Int32)), .val (.int (-1000000000 : Int32)), .val (.int (9 : Int32))] [(.int (-1000000000 : Int32)), (.int (10 : Int32))])) (fun tZ kZ => XS.iloadN X0.here hx rfl (hb hby d24_33) rfl kZ) ?_
                    refine own_by (S' := s₁.setTop (mkF m 35 #[.val (.int nx), .val (.int (0 : Int32)), .val (.int (-1000000000 : Int32)), .val (.int (9 : Int32))] [(.int ((10 : Int32) * (-1000000000 : Int32)))])) (fun tZ kZ => XS.imul X0.here hx rfl (hb hby d24_34) rfl kZ) ?_
                    refine own_by (S' := s₁.setTop (mkF m 36 #[.val (.int nx), .val (.int (0 : Int32)), .val (.int ((10 : Int32) * (-1000000000 : Int32))), .val (.int (9 : Int32))] [])) (fun tZ kZ => XS.istoreN X0.here hx rfl (hb hby d24_35) rfl (l' := #[.val (.int nx), .val (.int (0 : Int32)), .val (.int ((10 : Int32) * (-1000000000 : Int32))), .val (.int (9 : Int32))]) rfl kZ) ?_
                    refine own_by (S' := s₁.setTop (mkF m 39 #[.val (.int nx), .val (.int (0 : Int32)), .val (.int ((10 : Int32) * (-1000000000 : Int32))), .val (.int ((9 : Int32) + (1 : Int32)))] [])) (fun tZ kZ => XS.iinc X0.here hx rfl (hb hby d24_36) rfl (l' := #[.val (.int nx), .val (.int (0 : Int32)), .val (.int ((10 : Int32) * (-1000000000 : Int32))), .val (.int ((9 : Int32) + (1 : Int32)))]) rfl kZ) ?_
                    rw [show (9 : Int32) + (1 : Int32) = 10 from by decide]
                    refine own_by (S' := s₁.setTop (mkF m 16 #[.val (.int nx), .val (.int (0 : Int32)), .val (.int ((10 : Int32) * (-1000000000 : Int32))), .val (.int (10 : Int32))] [])) (fun tZ kZ => XS.goto X0.here hx rfl (pc0 := 39) (pc' := 16) rfl (hb hby d24_39) (by decide) (by decide) kZ) ?_
                    refine own_by (S' := s₁.setTop (mkF m 17 #[.val (.int nx), .val (.int (0 : Int32)), .val (.int ((10 : Int32) * (-1000000000 : Int32))), .val (.int (10 : Int32))] [(.int (10 : Int32))])) (fun tZ kZ => XS.iloadN X0.here hx rfl (hb hby d24_16) rfl kZ) ?_
                    refine own_by (S' := s₁.setTop (mkF m 19 #[.val (.int nx), .val (.int (0 : Int32)), .val (.int ((10 : Int32) * (-1000000000 : Int32))), .val (.int (10 : Int32))] [(.int (10 : Int32)), (.int (10 : Int32))])) (fun tZ kZ => XS.bipush X0.here hx rfl (hb hby d24_17) kZ) ?_
                    refine own_by (S' := s₁.setTop (mkF m 42 #[.val (.int nx), .val (.int (0 : Int32)), .val (.int ((10 : Int32) * (-1000000000 : Int32))), .val (.int (10 : Int32))] [])) (fun tZ kZ => XS.icmpYes X0.here hx rfl (pc0 := 19) (pc' := 42) rfl (hb hby d24_19) rfl (flt (by decide)).2.1 (by decide) (by decide) kZ) ?_
                    refine own_by (S' := s₁.setTop (mkF m 44 #[.val (.int nx), .val (.int (0 : Int32)), .val (.int ((10 : Int32) * (-1000000000 : Int32))), .val (.int (10 : Int32))] [(.int (10 : Int32))])) (fun tZ kZ => XS.bipush X0.here hx rfl (hb hby d24_42) kZ) ?_
                    refine own_by (S' := s₁.setTop (mkF m 45 #[.val (.int nx), .val (.int (0 : Int32)), .val (.int ((10 : Int32) * (-1000000000 : Int32))), .val (.int (10 : Int32))] [(.int (0 : Int32)), (.int (10 : Int32))])) (fun tZ kZ => XS.iloadN X0.here hx rfl (hb hby d24_44) rfl kZ) ?_
                    refine own_by (S' := s₁.setTop (mkF m 46 #[.val (.int nx), .val (.int (0 : Int32)), .val (.int ((10 : Int32) * (-1000000000 : Int32))), .val (.int (10 : Int32))] [(.int ((10 : Int32) + (0 : Int32)))])) (fun tZ kZ => XS.iadd X0.here hx rfl (hb hby d24_45) rfl kZ) ?_
                    exact own_retI X0 hx (t := .int) Bd.returns (by simp) rfl (hb hby d24_46) Bd.notSynchronized (by decide) (by decide) ⟨_, 10, rfl, N0, e0, by decide, by decide, by decide, (by have e2 : (10 : Int) ^ 10 = 10000000000 := (by decide); omega)⟩
theorem d27_0 : decode jdk_33_method_12_code 0 = .ok (.iload_n 1, 1) := by decide +kernel
theorem d27_1 : decode jdk_33_method_12_code 1 = .ok (.istore 5, 2) := by decide +kernel
theorem d27_3 : decode jdk_33_method_12_code 3 = .ok (.iload_n 0, 1) := by decide +kernel
theorem d27_4 : decode jdk_33_method_12_code 4 = .ok (.ifCond .ge 7, 3) := by decide +kernel
theorem d27_7 : decode jdk_33_method_12_code 7 = .ok (.iconst 1, 1) := by decide +kernel
theorem d27_8 : decode jdk_33_method_12_code 8 = .ok (.goto 4, 3) := by decide +kernel
theorem d27_11 : decode jdk_33_method_12_code 11 = .ok (.iconst 0, 1) := by decide +kernel
theorem d27_12 : decode jdk_33_method_12_code 12 = .ok (.istore 6, 2) := by decide +kernel
theorem d27_14 : decode jdk_33_method_12_code 14 = .ok (.iload 6, 2) := by decide +kernel
theorem d27_16 : decode jdk_33_method_12_code 16 = .ok (.ifCond .ne 6, 3) := by decide +kernel
theorem d27_19 : decode jdk_33_method_12_code 19 = .ok (.iload_n 0, 1) := by decide +kernel
theorem d27_20 : decode jdk_33_method_12_code 20 = .ok (.ineg, 1) := by decide +kernel
theorem d27_21 : decode jdk_33_method_12_code 21 = .ok (.istore_n 0, 1) := by decide +kernel
theorem d27_22 : decode jdk_33_method_12_code 22 = .ok (.iload_n 0, 1) := by decide +kernel
theorem d27_23 : decode jdk_33_method_12_code 23 = .ok (.bipush (-100), 2) := by decide +kernel
theorem d27_25 : decode jdk_33_method_12_code 25 = .ok (.if_icmp .gt 47, 3) := by decide +kernel
theorem d27_28 : decode jdk_33_method_12_code 28 = .ok (.iload_n 0, 1) := by decide +kernel
theorem d27_29 : decode jdk_33_method_12_code 29 = .ok (.bipush 100, 2) := by decide +kernel
theorem d27_31 : decode jdk_33_method_12_code 31 = .ok (.idiv, 1) := by decide +kernel
theorem d27_32 : decode jdk_33_method_12_code 32 = .ok (.istore_n 3, 1) := by decide +kernel
theorem d27_33 : decode jdk_33_method_12_code 33 = .ok (.iload_n 3, 1) := by decide +kernel
theorem d27_34 : decode jdk_33_method_12_code 34 = .ok (.bipush 100, 2) := by decide +kernel
theorem d27_36 : decode jdk_33_method_12_code 36 = .ok (.imul, 1) := by decide +kernel
theorem d27_37 : decode jdk_33_method_12_code 37 = .ok (.iload_n 0, 1) := by decide +kernel
theorem d27_38 : decode jdk_33_method_12_code 38 = .ok (.isub, 1) := by decide +kernel
theorem d27_39 : decode jdk_33_method_12_code 39 = .ok (.istore 4, 2) := by decide +kernel
theorem d27_41 : decode jdk_33_method_12_code 41 = .ok (.iload_n 3, 1) := by decide +kernel
theorem d27_42 : decode jdk_33_method_12_code 42 = .ok (.istore_n 0, 1) := by decide +kernel
theorem d27_43 : decode jdk_33_method_12_code 43 = .ok (.aload_n 2, 1) := by decide +kernel
theorem d27_44 : decode jdk_33_method_12_code 44 = .ok (.iinc 5 (-1), 3) := by decide +kernel
theorem d27_47 : decode jdk_33_method_12_code 47 = .ok (.iload 5, 2) := by decide +kernel
theorem d27_49 : decode jdk_33_method_12_code 49 = .ok (.getstatic 83, 3) := by decide +kernel
theorem d27_52 : decode jdk_33_method_12_code 52 = .ok (.iload 4, 2) := by decide +kernel
theorem d27_54 : decode jdk_33_method_12_code 54 = .ok (.baload, 1) := by decide +kernel
theorem d27_55 : decode jdk_33_method_12_code 55 = .ok (.bastore, 1) := by decide +kernel
theorem d27_56 : decode jdk_33_method_12_code 56 = .ok (.aload_n 2, 1) := by decide +kernel
theorem d27_57 : decode jdk_33_method_12_code 57 = .ok (.iinc 5 (-1), 3) := by decide +kernel
theorem d27_60 : decode jdk_33_method_12_code 60 = .ok (.iload 5, 2) := by decide +kernel
theorem d27_62 : decode jdk_33_method_12_code 62 = .ok (.getstatic 87, 3) := by decide +kernel
theorem d27_65 : decode jdk_33_method_12_code 65 = .ok (.iload 4, 2) := by decide +kernel
theorem d27_67 : decode jdk_33_method_12_code 67 = .ok (.baload, 1) := by decide +kernel
theorem d27_68 : decode jdk_33_method_12_code 68 = .ok (.bastore, 1) := by decide +kernel
theorem d27_69 : decode jdk_33_method_12_code 69 = .ok (.goto (-47), 3) := by decide +kernel
theorem d27_72 : decode jdk_33_method_12_code 72 = .ok (.aload_n 2, 1) := by decide +kernel
theorem d27_73 : decode jdk_33_method_12_code 73 = .ok (.iinc 5 (-1), 3) := by decide +kernel
theorem d27_76 : decode jdk_33_method_12_code 76 = .ok (.iload 5, 2) := by decide +kernel
theorem d27_78 : decode jdk_33_method_12_code 78 = .ok (.getstatic 83, 3) := by decide +kernel
theorem d27_81 : decode jdk_33_method_12_code 81 = .ok (.iload_n 0, 1) := by decide +kernel
theorem d27_82 : decode jdk_33_method_12_code 82 = .ok (.ineg, 1) := by decide +kernel
theorem d27_83 : decode jdk_33_method_12_code 83 = .ok (.baload, 1) := by decide +kernel
theorem d27_84 : decode jdk_33_method_12_code 84 = .ok (.bastore, 1) := by decide +kernel
theorem d27_85 : decode jdk_33_method_12_code 85 = .ok (.iload_n 0, 1) := by decide +kernel
theorem d27_86 : decode jdk_33_method_12_code 86 = .ok (.bipush (-9), 2) := by decide +kernel
theorem d27_88 : decode jdk_33_method_12_code 88 = .ok (.if_icmp .ge 16, 3) := by decide +kernel
theorem d27_91 : decode jdk_33_method_12_code 91 = .ok (.aload_n 2, 1) := by decide +kernel
theorem d27_92 : decode jdk_33_method_12_code 92 = .ok (.iinc 5 (-1), 3) := by decide +kernel
theorem d27_95 : decode jdk_33_method_12_code 95 = .ok (.iload 5, 2) := by decide +kernel
theorem d27_97 : decode jdk_33_method_12_code 97 = .ok (.getstatic 87, 3) := by decide +kernel
theorem d27_100 : decode jdk_33_method_12_code 100 = .ok (.iload_n 0, 1) := by decide +kernel
theorem d27_101 : decode jdk_33_method_12_code 101 = .ok (.ineg, 1) := by decide +kernel
theorem d27_102 : decode jdk_33_method_12_code 102 = .ok (.baload, 1) := by decide +kernel
theorem d27_103 : decode jdk_33_method_12_code 103 = .ok (.bastore, 1) := by decide +kernel
theorem d27_104 : decode jdk_33_method_12_code 104 = .ok (.iload 6, 2) := by decide +kernel
theorem d27_106 : decode jdk_33_method_12_code 106 = .ok (.ifCond .eq 12, 3) := by decide +kernel
theorem d27_109 : decode jdk_33_method_12_code 109 = .ok (.aload_n 2, 1) := by decide +kernel
theorem d27_110 : decode jdk_33_method_12_code 110 = .ok (.iinc 5 (-1), 3) := by decide +kernel
theorem d27_113 : decode jdk_33_method_12_code 113 = .ok (.iload 5, 2) := by decide +kernel
theorem d27_115 : decode jdk_33_method_12_code 115 = .ok (.bipush 45, 2) := by decide +kernel
theorem d27_117 : decode jdk_33_method_12_code 117 = .ok (.bastore, 1) := by decide +kernel
theorem d27_118 : decode jdk_33_method_12_code 118 = .ok (.iload 5, 2) := by decide +kernel
theorem d27_120 : decode jdk_33_method_12_code 120 = .ok (.ireturn, 1) := by decide +kernel
theorem ef_rmGc (m : MethodId) (x : Int32) (sz : Int32) (v : Addr) : entryFrame m #[(.int x), (.int sz), (.ref v)] 7 = mkF m 0 #[.val (.int x), .val (.int sz), .val (.ref v), .unset, .unset, .unset, .unset] [] := by first | (simp [entryFrame, mkF, argsToLocals, Value.category, maxLocals]; done) | rfl
set_option maxRecDepth 65536 in
set_option maxHeartbeats 40000000 in
theorem rmGc (l : Launch) (Z : State) (a0 : Array Value) (hw : ∀ d ∈ tables_1, d.before a0 Z = true) (ws : List Jvm.Cond) (x sz : Int32) (d : Nat) (v : Addr) (kv : ClassId) (vs : List Value) (do_ dt : Addr) (co ct : Cell) (h0 : Heap) (n0 : Nat) (Z0 : n0 ≤ h0.size) (hx1 : 1 ≤ x.toInt) (hd : sz.toInt = d) (hd2 : d ≤ 10) (hxd : x.toInt < 10 ^ d) (V_v : OwnA Z h0 v kv .byte vs) (hl : vs.length = 16) (hf : ∀ q ∈ vs, fits .byte q = true) (nov : do_ ≠ v) (ntv : dt ≠ v) (g_v : n0 ≤ v) (S_o : Sta Z h0 "java/lang/Integer" "DigitOnes" "[B" (.ref do_)) (A_o : Arr Z h0 do_ co .byte) (z_o : co.slots.size = 100) (e_o : ∀ k : Nat, k < 100 → ∃ z : Int32, co.slots[k]? = some (.int z)) (S_t : Sta Z h0 "java/lang/Integer" "DigitTens" "[B" (.ref dt)) (A_t : Arr Z h0 dt ct .byte) (z_t : ct.slots.size = 100) (e_t : ∀ k : Nat, k < 100 → ∃ z : Int32, ct.slots[k]? = some (.int z)) :
    MetFree l (⟨"java/lang/Integer", "getChars", "(II[B)I"⟩ : MethodName) (head1 (Jvm.Cond.code (⟨"java/lang/Integer", "getChars", "(II[B)I"⟩ : MethodName) jdk_33_method_12_code (7 : Nat) (Option.some Jvm.ClassFile.FieldType.int) :: ws) ({ frames := 0, cells := 0, slots := 0, locals := 0 } : Room)) (fun aZ UZ => aZ = #[(.int x), (.int sz), (.ref v)] ∧ Z.Warmed39 UZ.vm ∧ UZ.heap = h0) (fun _ _ _ _ _ => True) (fun _ UZ oZ VZ => ∃ vZ LZ, oZ = .returned vZ ∧ (QGc Z v kv h0 n0) vZ VZ.heap LZ ∧ FrameEnd UZ oZ VZ LZ ({ frames := 0, cells := 0, slots := 0, locals := 0 } : Room).cells ({ frames := 0, cells := 0, slots := 0, locals := 0 } : Room).slots) := by
  refine MetFree.of_bodySF (plainFor_of_name pn_5) hisR ?_
  intro p e s m args below meth c s₁ Bd hml0 hP hK
  obtain ⟨rfl, hZ, hh⟩ := hP
  have hx := Bd.exec
  have hby := Bd.bytes
  have hml : c.maxLocals = 7 := hml0
  have hown : s.vm.findClass "java/lang/Integer" = some m.cls := findClass_of_methodNamed Bd.named
  have hnm := (name_of_methodNamed Bd.named Bd.method).1
  have X0 : Stand p l e ({ frames := 0, cells := 0, slots := 0, locals := 0 } : Room) s m #[(.int x), (.int sz), (.ref v)] below meth c s₁ [] 0 0 := Stand.of_body Bd
  have e0 : s₁.heap = h0 := by rw [← hh, Bd.state]; rfl
  have N0 := Fr.nil n0
  show OwnG p e below (OwnE s (QGc Z v kv h0 n0) ({ frames := 0, cells := 0, slots := 0, locals := 0 } : Room).cells ({ frames := 0, cells := 0, slots := 0, locals := 0 } : Room).slots) _
  refine own_by (S' := s₁.setTop (mkF m 0 #[.val (.int x), .val (.int sz), .val (.ref v), .unset, .unset, .unset, .unset] [])) (fun tZ kZ => castTop (ef_rmGc m x sz v) kZ) ?_
  obtain ⟨X0_, hX0⟩ : ∃ X : Nat, x.toInt = X := ⟨x.toInt.toNat, by omega⟩
  have hng := own_neg hX0
  have hp0 : X0_ < 10 ^ d := by have := hxd; rw [hX0] at this; exact_mod_cast this
  have hX1 : 1 ≤ X0_ := by omega
  refine own_by (S' := s₁.setTop (mkF m 1 #[.val (.int x), .val (.int sz), .val (.ref v), .unset, .unset, .unset, .unset] [(.int sz)])) (fun tZ kZ => XS.iloadN X0.here hx rfl (hb hby d27_0) rfl kZ) ?_
  refine own_by (S' := s₁.setTop (mkF m 3 #[.val (.int x), .val (.int sz), .val (.ref v), .unset, .unset, .val (.int sz), .unset] [])) (fun tZ kZ => XS.istore X0.here hx rfl (hb hby d27_1) rfl (l' := #[.val (.int x), .val (.int sz), .val (.ref v), .unset, .unset, .val (.int sz), .unset]) rfl kZ) ?_
  refine own_by (S' := s₁.setTop (mkF m 4 #[.val (.int x), .val (.int sz), .val (.ref v), .unset, .unset, .val (.int sz), .unset] [(.int x)])) (fun tZ kZ => XS.iloadN X0.here hx rfl (hb hby d27_3) rfl kZ) ?_
  refine own_by (S' := s₁.setTop (mkF m 11 #[.val (.int x), .val (.int sz), .val (.ref v), .unset, .unset, .val (.int sz), .unset] [])) (fun tZ kZ => XS.ifYes X0.here hx rfl (pc0 := 4) (pc' := 11) rfl (hb hby d27_4) rfl ((if0 _ _).trans (flt (by rw [own_ltI]; have e : (0 : Int32).toInt = 0 := rfl; omega)).2.1) (by decide) (by decide) kZ) ?_
  refine own_by (S' := s₁.setTop (mkF m 12 #[.val (.int x), .val (.int sz), .val (.ref v), .unset, .unset, .val (.int sz), .unset] [(.int (0 : Int32))])) (fun tZ kZ => XS.iconst X0.here hx rfl (hb hby d27_11) kZ) ?_
  refine own_by (S' := s₁.setTop (mkF m 14 #[.val (.int x), .val (.int sz), .val (.ref v), .unset, .unset, .val (.int sz), .val (.int (0 : Int32))] [])) (fun tZ kZ => XS.istore X0.here hx rfl (hb hby d27_12) rfl (l' := #[.val (.int x), .val (.int sz), .val (.ref v), .unset, .unset, .val (.int sz), .val (.int (0 : Int32))]) rfl kZ) ?_
  refine own_by (S' := s₁.setTop (mkF m 16 #[.val (.int x), .val (.int sz), .val (.ref v), .unset, .unset, .val (.int sz), .val (.int (0 : Int32))] [(.int (0 : Int32))])) (fun tZ kZ => XS.iload X0.here hx rfl (hb hby d27_14) rfl kZ) ?_
  refine own_by (S' := s₁.setTop (mkF m 19 #[.val (.int x), .val (.int sz), .val (.ref v), .unset, .unset, .val (.int sz), .val (.int (0 : Int32))] [])) (fun tZ kZ => XS.ifNo X0.here hx rfl (hb hby d27_16) rfl ((if0 _ _).trans (teq rfl).2) kZ) ?_
  refine own_by (S' := s₁.setTop (mkF m 20 #[.val (.int x), .val (.int sz), .val (.ref v), .unset, .unset, .val (.int sz), .val (.int (0 : Int32))] [(.int x)])) (fun tZ kZ => XS.iloadN X0.here hx rfl (hb hby d27_19) rfl kZ) ?_
  refine own_by (S' := s₁.setTop (mkF m 21 #[.val (.int x), .val (.int sz), .val (.ref v), .unset, .unset, .val (.int sz), .val (.int (0 : Int32))] [(.int (-x))])) (fun tZ kZ => XS.ineg X0.here hx rfl (hb hby d27_20) rfl kZ) ?_
  obtain ⟨i0, hi0⟩ : ∃ z : Int32, z = (-x) := ⟨_, rfl⟩
  rw [← hi0]
  refine own_by (S' := s₁.setTop (mkF m 22 #[.val (.int i0), .val (.int sz), .val (.ref v), .unset, .unset, .val (.int sz), .val (.int (0 : Int32))] [])) (fun tZ kZ => XS.istoreN X0.here hx rfl (hb hby d27_21) rfl (l' := #[.val (.int i0), .val (.int sz), .val (.ref v), .unset, .unset, .val (.int sz), .val (.int (0 : Int32))]) rfl kZ) ?_
  rw [← hi0] at hng
  have hk0 : sz.toInt = (d : Nat) := hd
  have hkk0 : d ≤ 10 := hd2
  refine own_by (S' := s₁.setTop (mkF m 23 #[.val (.int i0), .val (.int sz), .val (.ref v), .unset, .unset, .val (.int sz), .val (.int (0 : Int32))] [(.int i0)])) (fun tZ kZ => XS.iloadN X0.here hx rfl (hb hby d27_22) rfl kZ) ?_
  refine own_by (S' := s₁.setTop (mkF m 25 #[.val (.int i0), .val (.int sz), .val (.ref v), .unset, .unset, .val (.int sz), .val (.int (0 : Int32))] [(.int (-100 : Int32)), (.int i0)])) (fun tZ kZ => XS.bipush X0.here hx rfl (hb hby d27_23) kZ) ?_
  by_cases hc0 : (-100 : Int32) < i0
  · refine own_by (S' := s₁.setTop (mkF m 72 #[.val (.int i0), .val (.int sz), .val (.ref v), .unset, .unset, .val (.int sz), .val (.int (0 : Int32))] [])) (fun tZ kZ => XS.icmpYes X0.here hx rfl (pc0 := 25) (pc' := 72) rfl (hb hby d27_25) rfl (tlt hc0).2.2.1 (by decide) (by decide) kZ) ?_
    have hX100 : X0_ < 100 := by
      rw [own_ltI] at hc0
      have e : (-100 : Int32).toInt = -100 := rfl
      omega
    have hk1 := own_pw1 hp0 hX1
    have hpa := own_dec1 hk0 hk1 (by omega)
    have hni : (-i0).toInt = ((X0_ : Nat) : Int) := by
      have a := c_ineg i0
      have b := rng32 (-i0)
      omega
    refine own_by (S' := s₁.setTop (mkF m 73 #[.val (.int i0), .val (.int sz), .val (.ref v), .unset, .unset, .val (.int sz), .val (.int (0 : Int32))] [(.ref v)])) (fun tZ kZ => XS.aloadN X0.here hx rfl (hb hby d27_72) rfl rfl kZ) ?_
    refine own_by (S' := s₁.setTop (mkF m 76 #[.val (.int i0), .val (.int sz), .val (.ref v), .unset, .unset, .val (.int (sz + (-1 : Int32))), .val (.int (0 : Int32))] [(.ref v)])) (fun tZ kZ => XS.iinc X0.here hx rfl (hb hby d27_73) rfl (l' := #[.val (.int i0), .val (.int sz), .val (.ref v), .unset, .unset, .val (.int (sz + (-1 : Int32))), .val (.int (0 : Int32))]) rfl kZ) ?_
    refine own_by (S' := s₁.setTop (mkF m 78 #[.val (.int i0), .val (.int sz), .val (.ref v), .unset, .unset, .val (.int (sz + (-1 : Int32))), .val (.int (0 : Int32))] [(.int (sz + (-1 : Int32))), (.ref v)])) (fun tZ kZ => XS.iload X0.here hx rfl (hb hby d27_76) rfl kZ) ?_
    obtain ⟨T1, X1, e1, st1⟩ := getS2 X0 hx hZ hown (host := "") (Or.inl (hw_ hw 153 rfl)) Via.refl e0 S_o (g := (mkF m 78 #[.val (.int i0), .val (.int sz), .val (.ref v), .unset, .unset, .val (.int (sz + (-1 : Int32))), .val (.int (0 : Int32))] [(.int (sz + (-1 : Int32))), (.ref v)])) rfl (hb hby d27_78)
    refine own_by (S' := T1.setTop (mkF m 81 #[.val (.int i0), .val (.int sz), .val (.ref v), .unset, .unset, .val (.int (sz + (-1 : Int32))), .val (.int (0 : Int32))] [(.ref do_), (.int (sz + (-1 : Int32))), (.ref v)])) st1 ?_
    refine own_by (S' := T1.setTop (mkF m 82 #[.val (.int i0), .val (.int sz), .val (.ref v), .unset, .unset, .val (.int (sz + (-1 : Int32))), .val (.int (0 : Int32))] [(.int i0), (.ref do_), (.int (sz + (-1 : Int32))), (.ref v)])) (fun tZ kZ => XS.iloadN X1.here hx rfl (hb hby d27_81) rfl kZ) ?_
    refine own_by (S' := T1.setTop (mkF m 83 #[.val (.int i0), .val (.int sz), .val (.ref v), .unset, .unset, .val (.int (sz + (-1 : Int32))), .val (.int (0 : Int32))] [(.int (-i0)), (.ref do_), (.int (sz + (-1 : Int32))), (.ref v)])) (fun tZ kZ => XS.ineg X1.here hx rfl (hb hby d27_82) rfl kZ) ?_
    obtain ⟨dz2, hdz2⟩ := e_o (X0_) (by omega)
    refine own_by (S' := T1.setTop (mkF m 84 #[.val (.int i0), .val (.int sz), .val (.ref v), .unset, .unset, .val (.int (sz + (-1 : Int32))), .val (.int (0 : Int32))] [(.int dz2), (.int (sz + (-1 : Int32))), (.ref v)])) (fun tZ kZ => X1.baloadBytes hx (j := (-i0)) (v := (.int dz2)) (by rw [e1]; exact A_o.1) (State.isArrayOf_alike hZ.alike A_o.2.1) A_o.2.2 (by rintro (q | q); exact own_nneg hni q; rw [own_tnc hni, z_o] at q; omega) (by rw [own_tnc hni]; exact hdz2) (g := (mkF m 83 #[.val (.int i0), .val (.int sz), .val (.ref v), .unset, .unset, .val (.int (sz + (-1 : Int32))), .val (.int (0 : Int32))] [(.int (-i0)), (.ref do_), (.int (sz + (-1 : Int32))), (.ref v)])) rfl rfl (hb hby d27_83) _ kZ) ?_
    obtain ⟨cc3, Ar3, hc3, hl3⟩ := id V_v
    have hin3 := OwnA.inb (j := (sz + (-1 : Int32))) hl3 (own_nneg hpa) (by simp only [List.length_set, hl]; rw [own_tnc hpa]; omega)
    obtain ⟨T3, h3, X3, e3, W3, st3⟩ := stB X1 hx hZ e1 Ar3 (j := (sz + (-1 : Int32))) hin3 (g := (mkF m 84 #[.val (.int i0), .val (.int sz), .val (.ref v), .unset, .unset, .val (.int (sz + (-1 : Int32))), .val (.int (0 : Int32))] [(.int dz2), (.int (sz + (-1 : Int32))), (.ref v)])) rfl rfl (hb hby d27_84)
    have N3 := Fr.snoc X3 N0 g_v
    have S_o_3 := S_o.wr W3
    have S_t_3 := S_t.wr W3
    have A_o_3 := A_o.other W3 nov
    have A_t_3 := A_t.other W3 ntv
    have Zs3 : n0 ≤ h3.size := Nat.le_trans Z0 (Keep.of_wr W3).1
    have K3 := (Keep.refl h0 [v]).wr W3 (Or.inl (List.mem_of_getElem? (i := 0) rfl))
    have V_v_w3 := V_v.set W3
    refine own_by (S' := T3.setTop (mkF m 85 #[.val (.int i0), .val (.int sz), .val (.ref v), .unset, .unset, .val (.int (sz + (-1 : Int32))), .val (.int (0 : Int32))] [])) st3 ?_
    refine own_by (S' := T3.setTop (mkF m 86 #[.val (.int i0), .val (.int sz), .val (.ref v), .unset, .unset, .val (.int (sz + (-1 : Int32))), .val (.int (0 : Int32))] [(.int i0)])) (fun tZ kZ => XS.iloadN X3.here hx rfl (hb hby d27_85) rfl kZ) ?_
    refine own_by (S' := T3.setTop (mkF m 88 #[.val (.int i0), .val (.int sz), .val (.ref v), .unset, .unset, .val (.int (sz + (-1 : Int32))), .val (.int (0 : Int32))] [(.int (-9 : Int32)), (.int i0)])) (fun tZ kZ => XS.bipush X3.here hx rfl (hb hby d27_86) kZ) ?_
    by_cases hnine : i0 < (-9 : Int32)
    · refine own_by (S' := T3.setTop (mkF m 91 #[.val (.int i0), .val (.int sz), .val (.ref v), .unset, .unset, .val (.int (sz + (-1 : Int32))), .val (.int (0 : Int32))] [])) (fun tZ kZ => XS.icmpNo X3.here hx rfl (hb hby d27_88) rfl (tlt hnine).2.1 kZ) ?_
      have hX10 : 10 ≤ X0_ := by
        rw [own_ltI] at hnine
        have e : (-9 : Int32).toInt = -9 := rfl
        omega
      have hk2 := own_pw2 hp0 hX10
      have hpb := own_dec1 hpa (by omega) (by omega)
      refine own_by (S' := T3.setTop (mkF m 92 #[.val (.int i0), .val (.int sz), .val (.ref v), .unset, .unset, .val (.int (sz + (-1 : Int32))), .val (.int (0 : Int32))] [(.ref v)])) (fun tZ kZ => XS.aloadN X3.here hx rfl (hb hby d27_91) rfl rfl kZ) ?_
      refine own_by (S' := T3.setTop (mkF m 95 #[.val (.int i0), .val (.int sz), .val (.ref v), .unset, .unset, .val (.int ((sz + (-1 : Int32)) + (-1 : Int32))), .val (.int (0 : Int32))] [(.ref v)])) (fun tZ kZ => XS.iinc X3.here hx rfl (hb hby d27_92) rfl (l' := #[.val (.int i0), .val (.int sz), .val (.ref v), .unset, .unset, .val (.int ((sz + (-1 : Int32)) + (-1 : Int32))), .val (.int (0 : Int32))]) rfl kZ) ?_
      refine own_by (S' := T3.setTop (mkF m 97 #[.val (.int i0), .val (.int sz), .val (.ref v), .unset, .unset, .val (.int ((sz + (-1 : Int32)) + (-1 : Int32))), .val (.int (0 : Int32))] [(.int ((sz + (-1 : Int32)) + (-1 : Int32))), (.ref v)])) (fun tZ kZ => XS.iload X3.here hx rfl (hb hby d27_95) rfl kZ) ?_
      obtain ⟨T4, X4, e4, st4⟩ := getS2 X3 hx hZ hown (host := "") (Or.inl (hw_ hw 271 rfl)) Via.refl e3 S_t_3 (g := (mkF m 97 #[.val (.int i0), .val (.int sz), .val (.ref v), .unset, .unset, .val (.int ((sz + (-1 : Int32)) + (-1 : Int32))), .val (.int (0 : Int32))] [(.int ((sz + (-1 : Int32)) + (-1 : Int32))), (.ref v)])) rfl (hb hby d27_97)
      refine own_by (S' := T4.setTop (mkF m 100 #[.val (.int i0), .val (.int sz), .val (.ref v), .unset, .unset, .val (.int ((sz + (-1 : Int32)) + (-1 : Int32))), .val (.int (0 : Int32))] [(.ref dt), (.int ((sz + (-1 : Int32)) + (-1 : Int32))), (.ref v)])) st4 ?_
      refine own_by (S' := T4.setTop (mkF m 101 #[.val (.int i0), .val (.int sz), .val (.ref v), .unset, .unset, .val (.int ((sz + (-1 : Int32)) + (-1 : Int32))), .val (.int (0 : Int32))] [(.int i0), (.ref dt), (.int ((sz + (-1 : Int32)) + (-1 : Int32))), (.ref v)])) (fun tZ kZ => XS.iloadN X4.here hx rfl (hb hby d27_100) rfl kZ) ?_
      refine own_by (S' := T4.setTop (mkF m 102 #[.val (.int i0), .val (.int sz), .val (.ref v), .unset, .unset, .val (.int ((sz + (-1 : Int32)) + (-1 : Int32))), .val (.int (0 : Int32))] [(.int (-i0)), (.ref dt), (.int ((sz + (-1 : Int32)) + (-1 : Int32))), (.ref v)])) (fun tZ kZ => XS.ineg X4.here hx rfl (hb hby d27_101) rfl kZ) ?_
      obtain ⟨dz5, hdz5⟩ := e_t (X0_) (by omega)
      refine own_by (S' := T4.setTop (mkF m 103 #[.val (.int i0), .val (.int sz), .val (.ref v), .unset, .unset, .val (.int ((sz + (-1 : Int32)) + (-1 : Int32))), .val (.int (0 : Int32))] [(.int dz5), (.int ((sz + (-1 : Int32)) + (-1 : Int32))), (.ref v)])) (fun tZ kZ => X4.baloadBytes hx (j := (-i0)) (v := (.int dz5)) (by rw [e4]; exact A_t_3.1) (State.isArrayOf_alike hZ.alike A_t_3.2.1) A_t_3.2.2 (by rintro (q | q); exact own_nneg hni q; rw [own_tnc hni, z_t] at q; omega) (by rw [own_tnc hni]; exact hdz5) (g := (mkF m 102 #[.val (.int i0), .val (.int sz), .val (.ref v), .unset, .unset, .val (.int ((sz + (-1 : Int32)) + (-1 : Int32))), .val (.int (0 : Int32))] [(.int (-i0)), (.ref dt), (.int ((sz + (-1 : Int32)) + (-1 : Int32))), (.ref v)])) rfl rfl (hb hby d27_102) _ kZ) ?_
      obtain ⟨cc6, Ar6, hc6, hl6⟩ := id V_v_w3
      have hin6 := OwnA.inb (j := ((sz + (-1 : Int32)) + (-1 : Int32))) hl6 (own_nneg hpb) (by simp only [List.length_set, hl]; rw [own_tnc hpb]; omega)
      obtain ⟨T6, h6, X6, e6, W6, st6⟩ := stB X4 hx hZ e4 Ar6 (j := ((sz + (-1 : Int32)) + (-1 : Int32))) hin6 (g := (mkF m 103 #[.val (.int i0), .val (.int sz), .val (.ref v), .unset, .unset, .val (.int ((sz + (-1 : Int32)) + (-1 : Int32))), .val (.int (0 : Int32))] [(.int dz5), (.int ((sz + (-1 : Int32)) + (-1 : Int32))), (.ref v)])) rfl rfl (hb hby d27_103)
      have N6 := Fr.snoc X6 N3 g_v
      have S_o_6 := S_o_3.wr W6
      have S_t_6 := S_t_3.wr W6
      have A_o_6 := A_o_3.other W6 nov
      have A_t_6 := A_t_3.other W6 ntv
      have Zs6 : n0 ≤ h6.size := Nat.le_trans Zs3 (Keep.of_wr W6).1
      have K6 := K3.wr W6 (Or.inl (List.mem_of_getElem? (i := 0) rfl))
      have V_v_w6 := V_v_w3.set W6
      refine own_by (S' := T6.setTop (mkF m 104 #[.val (.int i0), .val (.int sz), .val (.ref v), .unset, .unset, .val (.int ((sz + (-1 : Int32)) + (-1 : Int32))), .val (.int (0 : Int32))] [])) st6 ?_
      refine own_by (S' := T6.setTop (mkF m 106 #[.val (.int i0), .val (.int sz), .val (.ref v), .unset, .unset, .val (.int ((sz + (-1 : Int32)) + (-1 : Int32))), .val (.int (0 : Int32))] [(.int (0 : Int32))])) (fun tZ kZ => XS.iload X6.here hx rfl (hb hby d27_104) rfl kZ) ?_
      refine own_by (S' := T6.setTop (mkF m 118 #[.val (.int i0), .val (.int sz), .val (.ref v), .unset, .unset, .val (.int ((sz + (-1 : Int32)) + (-1 : Int32))), .val (.int (0 : Int32))] [])) (fun tZ kZ => XS.ifYes X6.here hx rfl (pc0 := 106) (pc' := 118) rfl (hb hby d27_106) rfl ((if0 _ _).trans (teq rfl).1) (by decide) (by decide) kZ) ?_
      refine own_by (S' := T6.setTop (mkF m 120 #[.val (.int i0), .val (.int sz), .val (.ref v), .unset, .unset, .val (.int ((sz + (-1 : Int32)) + (-1 : Int32))), .val (.int (0 : Int32))] [(.int ((sz + (-1 : Int32)) + (-1 : Int32)))])) (fun tZ kZ => XS.iload X6.here hx rfl (hb hby d27_118) rfl kZ) ?_
      exact own_retI X6 hx (t := .int) Bd.returns (by simp) rfl (hb hby d27_120) Bd.notSynchronized (by decide) (by decide) (show QGc Z v kv h0 n0 _ T6.heap _ from by rw [e6]; exact ⟨_, rfl, N6, K6, _, V_v_w6, by simp only [List.length_set, hl], by repeat (first | exact hf | apply own_fitset)⟩)
    · refine own_by (S' := T3.setTop (mkF m 104 #[.val (.int i0), .val (.int sz), .val (.ref v), .unset, .unset, .val (.int (sz + (-1 : Int32))), .val (.int (0 : Int32))] [])) (fun tZ kZ => XS.icmpYes X3.here hx rfl (pc0 := 88) (pc' := 104) rfl (hb hby d27_88) rfl (flt hnine).2.1 (by decide) (by decide) kZ) ?_
      refine own_by (S' := T3.setTop (mkF m 106 #[.val (.int i0), .val (.int sz), .val (.ref v), .unset, .unset, .val (.int (sz + (-1 : Int32))), .val (.int (0 : Int32))] [(.int (0 : Int32))])) (fun tZ kZ => XS.iload X3.here hx rfl (hb hby d27_104) rfl kZ) ?_
      refine own_by (S' := T3.setTop (mkF m 118 #[.val (.int i0), .val (.int sz), .val (.ref v), .unset, .unset, .val (.int (sz + (-1 : Int32))), .val (.int (0 : Int32))] [])) (fun tZ kZ => XS.ifYes X3.here hx rfl (pc0 := 106) (pc' := 118) rfl (hb hby d27_106) rfl ((if0 _ _).trans (teq rfl).1) (by decide) (by decide) kZ) ?_
      refine own_by (S' := T3.setTop (mkF m 120 #[.val (.int i0), .val (.int sz), .val (.ref v), .unset, .unset, .val (.int (sz + (-1 : Int32))), .val (.int (0 : Int32))] [(.int (sz + (-1 : Int32)))])) (fun tZ kZ => XS.iload X3.here hx rfl (hb hby d27_118) rfl kZ) ?_
      exact own_retI X3 hx (t := .int) Bd.returns (by simp) rfl (hb hby d27_120) Bd.notSynchronized (by decide) (by decide) (show QGc Z v kv h0 n0 _ T3.heap _ from by rw [e3]; exact ⟨_, rfl, N3, K3, _, V_v_w3, by simp only [List.length_set, hl], by repeat (first | exact hf | apply own_fitset)⟩)
  · refine own_by (S' := s₁.setTop (mkF m 28 #[.val (.int i0), .val (.int sz), .val (.ref v), .unset, .unset, .val (.int sz), .val (.int (0 : Int32))] [])) (fun tZ kZ => XS.icmpNo X0.here hx rfl (hb hby d27_25) rfl (flt hc0).2.2.1 kZ) ?_
    have hX_0 : 100 ≤ X0_ := by
      rw [own_ltI] at hc0
      have e : (-100 : Int32).toInt = -100 := rfl
      omega
    obtain ⟨hk3_0, hp1, hx1_⟩ := own_pw hp0 (by omega) hX_0
    obtain ⟨hq0, hr0⟩ := own_g1 hng
    have ha0 := own_dec1 hk0 (by omega) (by omega)
    have hb0 := own_dec1 ha0 (by omega) (by omega)
    refine own_by (S' := s₁.setTop (mkF m 29 #[.val (.int i0), .val (.int sz), .val (.ref v), .unset, .unset, .val (.int sz), .val (.int (0 : Int32))] [(.int i0)])) (fun tZ kZ => XS.iloadN X0.here hx rfl (hb hby d27_28) rfl kZ) ?_
    refine own_by (S' := s₁.setTop (mkF m 31 #[.val (.int i0), .val (.int sz), .val (.ref v), .unset, .unset, .val (.int sz), .val (.int (0 : Int32))] [(.int (100 : Int32)), (.int i0)])) (fun tZ kZ => XS.bipush X0.here hx rfl (hb hby d27_29) kZ) ?_
    refine own_by (S' := s₁.setTop (mkF m 32 #[.val (.int i0), .val (.int sz), .val (.ref v), .unset, .unset, .val (.int sz), .val (.int (0 : Int32))] [(.int (i0 / (100 : Int32)))])) (fun tZ kZ => XS.idiv X0.here hx rfl (hb hby d27_31) rfl (by decide) kZ) ?_
    refine own_by (S' := s₁.setTop (mkF m 33 #[.val (.int i0), .val (.int sz), .val (.ref v), .val (.int (i0 / (100 : Int32))), .unset, .val (.int sz), .val (.int (0 : Int32))] [])) (fun tZ kZ => XS.istoreN X0.here hx rfl (hb hby d27_32) rfl (l' := #[.val (.int i0), .val (.int sz), .val (.ref v), .val (.int (i0 / (100 : Int32))), .unset, .val (.int sz), .val (.int (0 : Int32))]) rfl kZ) ?_
    refine own_by (S' := s₁.setTop (mkF m 34 #[.val (.int i0), .val (.int sz), .val (.ref v), .val (.int (i0 / (100 : Int32))), .unset, .val (.int sz), .val (.int (0 : Int32))] [(.int (i0 / (100 : Int32)))])) (fun tZ kZ => XS.iloadN X0.here hx rfl (hb hby d27_33) rfl kZ) ?_
    refine own_by (S' := s₁.setTop (mkF m 36 #[.val (.int i0), .val (.int sz), .val (.ref v), .val (.int (i0 / (100 : Int32))), .unset, .val (.int sz), .val (.int (0 : Int32))] [(.int (100 : Int32)), (.int (i0 / (100 : Int32)))])) (fun tZ kZ => XS.bipush X0.here hx rfl (hb hby d27_34) kZ) ?_
    refine own_by (S' := s₁.setTop (mkF m 37 #[.val (.int i0), .val (.int sz), .val (.ref v), .val (.int (i0 / (100 : Int32))), .unset, .val (.int sz), .val (.int (0 : Int32))] [(.int ((i0 / (100 : Int32)) * (100 : Int32)))])) (fun tZ kZ => XS.imul X0.here hx rfl (hb hby d27_36) rfl kZ) ?_
    refine own_by (S' := s₁.setTop (mkF m 38 #[.val (.int i0), .val (.int sz), .val (.ref v), .val (.int (i0 / (100 : Int32))), .unset, .val (.int sz), .val (.int (0 : Int32))] [(.int i0), (.int ((i0 / (100 : Int32)) * (100 : Int32)))])) (fun tZ kZ => XS.iloadN X0.here hx rfl (hb hby d27_37) rfl kZ) ?_
    refine own_by (S' := s₁.setTop (mkF m 39 #[.val (.int i0), .val (.int sz), .val (.ref v), .val (.int (i0 / (100 : Int32))), .unset, .val (.int sz), .val (.int (0 : Int32))] [(.int (((i0 / (100 : Int32)) * (100 : Int32)) - i0))])) (fun tZ kZ => XS.isub X0.here hx rfl (hb hby d27_38) rfl kZ) ?_
    refine own_by (S' := s₁.setTop (mkF m 41 #[.val (.int i0), .val (.int sz), .val (.ref v), .val (.int (i0 / (100 : Int32))), .val (.int (((i0 / (100 : Int32)) * (100 : Int32)) - i0)), .val (.int sz), .val (.int (0 : Int32))] [])) (fun tZ kZ => XS.istore X0.here hx rfl (hb hby d27_39) rfl (l' := #[.val (.int i0), .val (.int sz), .val (.ref v), .val (.int (i0 / (100 : Int32))), .val (.int (((i0 / (100 : Int32)) * (100 : Int32)) - i0)), .val (.int sz), .val (.int (0 : Int32))]) rfl kZ) ?_
    refine own_by (S' := s₁.setTop (mkF m 42 #[.val (.int i0), .val (.int sz), .val (.ref v), .val (.int (i0 / (100 : Int32))), .val (.int (((i0 / (100 : Int32)) * (100 : Int32)) - i0)), .val (.int sz), .val (.int (0 : Int32))] [(.int (i0 / (100 : Int32)))])) (fun tZ kZ => XS.iloadN X0.here hx rfl (hb hby d27_41) rfl kZ) ?_
    refine own_by (S' := s₁.setTop (mkF m 43 #[.val (.int (i0 / (100 : Int32))), .val (.int sz), .val (.ref v), .val (.int (i0 / (100 : Int32))), .val (.int (((i0 / (100 : Int32)) * (100 : Int32)) - i0)), .val (.int sz), .val (.int (0 : Int32))] [])) (fun tZ kZ => XS.istoreN X0.here hx rfl (hb hby d27_42) rfl (l' := #[.val (.int (i0 / (100 : Int32))), .val (.int sz), .val (.ref v), .val (.int (i0 / (100 : Int32))), .val (.int (((i0 / (100 : Int32)) * (100 : Int32)) - i0)), .val (.int sz), .val (.int (0 : Int32))]) rfl kZ) ?_
    refine own_by (S' := s₁.setTop (mkF m 44 #[.val (.int (i0 / (100 : Int32))), .val (.int sz), .val (.ref v), .val (.int (i0 / (100 : Int32))), .val (.int (((i0 / (100 : Int32)) * (100 : Int32)) - i0)), .val (.int sz), .val (.int (0 : Int32))] [(.ref v)])) (fun tZ kZ => XS.aloadN X0.here hx rfl (hb hby d27_43) rfl rfl kZ) ?_
    refine own_by (S' := s₁.setTop (mkF m 47 #[.val (.int (i0 / (100 : Int32))), .val (.int sz), .val (.ref v), .val (.int (i0 / (100 : Int32))), .val (.int (((i0 / (100 : Int32)) * (100 : Int32)) - i0)), .val (.int (sz + (-1 : Int32))), .val (.int (0 : Int32))] [(.ref v)])) (fun tZ kZ => XS.iinc X0.here hx rfl (hb hby d27_44) rfl (l' := #[.val (.int (i0 / (100 : Int32))), .val (.int sz), .val (.ref v), .val (.int (i0 / (100 : Int32))), .val (.int (((i0 / (100 : Int32)) * (100 : Int32)) - i0)), .val (.int (sz + (-1 : Int32))), .val (.int (0 : Int32))]) rfl kZ) ?_
    refine own_by (S' := s₁.setTop (mkF m 49 #[.val (.int (i0 / (100 : Int32))), .val (.int sz), .val (.ref v), .val (.int (i0 / (100 : Int32))), .val (.int (((i0 / (100 : Int32)) * (100 : Int32)) - i0)), .val (.int (sz + (-1 : Int32))), .val (.int (0 : Int32))] [(.int (sz + (-1 : Int32))), (.ref v)])) (fun tZ kZ => XS.iload X0.here hx rfl (hb hby d27_47) rfl kZ) ?_
    obtain ⟨T7, X7, e7, st7⟩ := getS2 X0 hx hZ hown (host := "") (Or.inl (hw_ hw 153 rfl)) Via.refl e0 S_o (g := (mkF m 49 #[.val (.int (i0 / (100 : Int32))), .val (.int sz), .val (.ref v), .val (.int (i0 / (100 : Int32))), .val (.int (((i0 / (100 : Int32)) * (100 : Int32)) - i0)), .val (.int (sz + (-1 : Int32))), .val (.int (0 : Int32))] [(.int (sz + (-1 : Int32))), (.ref v)])) rfl (hb hby d27_49)
    refine own_by (S' := T7.setTop (mkF m 52 #[.val (.int (i0 / (100 : Int32))), .val (.int sz), .val (.ref v), .val (.int (i0 / (100 : Int32))), .val (.int (((i0 / (100 : Int32)) * (100 : Int32)) - i0)), .val (.int (sz + (-1 : Int32))), .val (.int (0 : Int32))] [(.ref do_), (.int (sz + (-1 : Int32))), (.ref v)])) st7 ?_
    refine own_by (S' := T7.setTop (mkF m 54 #[.val (.int (i0 / (100 : Int32))), .val (.int sz), .val (.ref v), .val (.int (i0 / (100 : Int32))), .val (.int (((i0 / (100 : Int32)) * (100 : Int32)) - i0)), .val (.int (sz + (-1 : Int32))), .val (.int (0 : Int32))] [(.int (((i0 / (100 : Int32)) * (100 : Int32)) - i0)), (.ref do_), (.int (sz + (-1 : Int32))), (.ref v)])) (fun tZ kZ => XS.iload X7.here hx rfl (hb hby d27_52) rfl kZ) ?_
    obtain ⟨dz8, hdz8⟩ := e_o (X0_ % 100) (by omega)
    refine own_by (S' := T7.setTop (mkF m 55 #[.val (.int (i0 / (100 : Int32))), .val (.int sz), .val (.ref v), .val (.int (i0 / (100 : Int32))), .val (.int (((i0 / (100 : Int32)) * (100 : Int32)) - i0)), .val (.int (sz + (-1 : Int32))), .val (.int (0 : Int32))] [(.int dz8), (.int (sz + (-1 : Int32))), (.ref v)])) (fun tZ kZ => X7.baloadBytes hx (j := (((i0 / (100 : Int32)) * (100 : Int32)) - i0)) (v := (.int dz8)) (by rw [e7]; exact A_o.1) (State.isArrayOf_alike hZ.alike A_o.2.1) A_o.2.2 (by rintro (q | q); exact own_nneg hr0 q; rw [own_tnc hr0, z_o] at q; omega) (by rw [own_tnc hr0]; exact hdz8) (g := (mkF m 54 #[.val (.int (i0 / (100 : Int32))), .val (.int sz), .val (.ref v), .val (.int (i0 / (100 : Int32))), .val (.int (((i0 / (100 : Int32)) * (100 : Int32)) - i0)), .val (.int (sz + (-1 : Int32))), .val (.int (0 : Int32))] [(.int (((i0 / (100 : Int32)) * (100 : Int32)) - i0)), (.ref do_), (.int (sz + (-1 : Int32))), (.ref v)])) rfl rfl (hb hby d27_54) _ kZ) ?_
    obtain ⟨cc9, Ar9, hc9, hl9⟩ := id V_v
    have hin9 := OwnA.inb (j := (sz + (-1 : Int32))) hl9 (own_nneg ha0) (by simp only [List.length_set, hl]; rw [own_tnc ha0]; omega)
    obtain ⟨T9, h9, X9, e9, W9, st9⟩ := stB X7 hx hZ e7 Ar9 (j := (sz + (-1 : Int32))) hin9 (g := (mkF m 55 #[.val (.int (i0 / (100 : Int32))), .val (.int sz), .val (.ref v), .val (.int (i0 / (100 : Int32))), .val (.int (((i0 / (100 : Int32)) * (100 : Int32)) - i0)), .val (.int (sz + (-1 : Int32))), .val (.int (0 : Int32))] [(.int dz8), (.int (sz + (-1 : Int32))), (.ref v)])) rfl rfl (hb hby d27_55)
    have N9 := Fr.snoc X9 N0 g_v
    have S_o_9 := S_o.wr W9
    have S_t_9 := S_t.wr W9
    have A_o_9 := A_o.other W9 nov
    have A_t_9 := A_t.other W9 ntv
    have Zs9 : n0 ≤ h9.size := Nat.le_trans Z0 (Keep.of_wr W9).1
    have K9 := (Keep.refl h0 [v]).wr W9 (Or.inl (List.mem_of_getElem? (i := 0) rfl))
    have V_v_w9 := V_v.set W9
    refine own_by (S' := T9.setTop (mkF m 56 #[.val (.int (i0 / (100 : Int32))), .val (.int sz), .val (.ref v), .val (.int (i0 / (100 : Int32))), .val (.int (((i0 / (100 : Int32)) * (100 : Int32)) - i0)), .val (.int (sz + (-1 : Int32))), .val (.int (0 : Int32))] [])) st9 ?_
    refine own_by (S' := T9.setTop (mkF m 57 #[.val (.int (i0 / (100 : Int32))), .val (.int sz), .val (.ref v), .val (.int (i0 / (100 : Int32))), .val (.int (((i0 / (100 : Int32)) * (100 : Int32)) - i0)), .val (.int (sz + (-1 : Int32))), .val (.int (0 : Int32))] [(.ref v)])) (fun tZ kZ => XS.aloadN X9.here hx rfl (hb hby d27_56) rfl rfl kZ) ?_
    refine own_by (S' := T9.setTop (mkF m 60 #[.val (.int (i0 / (100 : Int32))), .val (.int sz), .val (.ref v), .val (.int (i0 / (100 : Int32))), .val (.int (((i0 / (100 : Int32)) * (100 : Int32)) - i0)), .val (.int ((sz + (-1 : Int32)) + (-1 : Int32))), .val (.int (0 : Int32))] [(.ref v)])) (fun tZ kZ => XS.iinc X9.here hx rfl (hb hby d27_57) rfl (l' := #[.val (.int (i0 / (100 : Int32))), .val (.int sz), .val (.ref v), .val (.int (i0 / (100 : Int32))), .val (.int (((i0 / (100 : Int32)) * (100 : Int32)) - i0)), .val (.int ((sz + (-1 : Int32)) + (-1 : Int32))), .val (.int (0 : Int32))]) rfl kZ) ?_
    refine own_by (S' := T9.setTop (mkF m 62 #[.val (.int (i0 / (100 : Int32))), .val (.int sz), .val (.ref v), .val (.int (i0 / (100 : Int32))), .val (.int (((i0 / (100 : Int32)) * (100 : Int32)) - i0)), .val (.int ((sz + (-1 : Int32)) + (-1 : Int32))), .val (.int (0 : Int32))] [(.int ((sz + (-1 : Int32)) + (-1 : Int32))), (.ref v)])) (fun tZ kZ => XS.iload X9.here hx rfl (hb hby d27_60) rfl kZ) ?_
    obtain ⟨T10, X10, e10, st10⟩ := getS2 X9 hx hZ hown (host := "") (Or.inl (hw_ hw 271 rfl)) Via.refl e9 S_t_9 (g := (mkF m 62 #[.val (.int (i0 / (100 : Int32))), .val (.int sz), .val (.ref v), .val (.int (i0 / (100 : Int32))), .val (.int (((i0 / (100 : Int32)) * (100 : Int32)) - i0)), .val (.int ((sz + (-1 : Int32)) + (-1 : Int32))), .val (.int (0 : Int32))] [(.int ((sz + (-1 : Int32)) + (-1 : Int32))), (.ref v)])) rfl (hb hby d27_62)
    refine own_by (S' := T10.setTop (mkF m 65 #[.val (.int (i0 / (100 : Int32))), .val (.int sz), .val (.ref v), .val (.int (i0 / (100 : Int32))), .val (.int (((i0 / (100 : Int32)) * (100 : Int32)) - i0)), .val (.int ((sz + (-1 : Int32)) + (-1 : Int32))), .val (.int (0 : Int32))] [(.ref dt), (.int ((sz + (-1 : Int32)) + (-1 : Int32))), (.ref v)])) st10 ?_
    refine own_by (S' := T10.setTop (mkF m 67 #[.val (.int (i0 / (100 : Int32))), .val (.int sz), .val (.ref v), .val (.int (i0 / (100 : Int32))), .val (.int (((i0 / (100 : Int32)) * (100 : Int32)) - i0)), .val (.int ((sz + (-1 : Int32)) + (-1 : Int32))), .val (.int (0 : Int32))] [(.int (((i0 / (100 : Int32)) * (100 : Int32)) - i0)), (.ref dt), (.int ((sz + (-1 : Int32)) + (-1 : Int32))), (.ref v)])) (fun tZ kZ => XS.iload X10.here hx rfl (hb hby d27_65) rfl kZ) ?_
    obtain ⟨dz11, hdz11⟩ := e_t (X0_ % 100) (by omega)
    refine own_by (S' := T10.setTop (mkF m 68 #[.val (.int (i0 / (100 : Int32))), .val (.int sz), .val (.ref v), .val (.int (i0 / (100 : Int32))), .val (.int (((i0 / (100 : Int32)) * (100 : Int32)) - i0)), .val (.int ((sz + (-1 : Int32)) + (-1 : Int32))), .val (.int (0 : Int32))] [(.int dz11), (.int ((sz + (-1 : Int32)) + (-1 : Int32))), (.ref v)])) (fun tZ kZ => X10.baloadBytes hx (j := (((i0 / (100 : Int32)) * (100 : Int32)) - i0)) (v := (.int dz11)) (by rw [e10]; exact A_t_9.1) (State.isArrayOf_alike hZ.alike A_t_9.2.1) A_t_9.2.2 (by rintro (q | q); exact own_nneg hr0 q; rw [own_tnc hr0, z_t] at q; omega) (by rw [own_tnc hr0]; exact hdz11) (g := (mkF m 67 #[.val (.int (i0 / (100 : Int32))), .val (.int sz), .val (.ref v), .val (.int (i0 / (100 : Int32))), .val (.int (((i0 / (100 : Int32)) * (100 : Int32)) - i0)), .val (.int ((sz + (-1 : Int32)) + (-1 : Int32))), .val (.int (0 : Int32))] [(.int (((i0 / (100 : Int32)) * (100 : Int32)) - i0)), (.ref dt), (.int ((sz + (-1 : Int32)) + (-1 : Int32))), (.ref v)])) rfl rfl (hb hby d27_67) _ kZ) ?_
    obtain ⟨cc12, Ar12, hc12, hl12⟩ := id V_v_w9
    have hin12 := OwnA.inb (j := ((sz + (-1 : Int32)) + (-1 : Int32))) hl12 (own_nneg hb0) (by simp only [List.length_set, hl]; rw [own_tnc hb0]; omega)
    obtain ⟨T12, h12, X12, e12, W12, st12⟩ := stB X10 hx hZ e10 Ar12 (j := ((sz + (-1 : Int32)) + (-1 : Int32))) hin12 (g := (mkF m 68 #[.val (.int (i0 / (100 : Int32))), .val (.int sz), .val (.ref v), .val (.int (i0 / (100 : Int32))), .val (.int (((i0 / (100 : Int32)) * (100 : Int32)) - i0)), .val (.int ((sz + (-1 : Int32)) + (-1 : Int32))), .val (.int (0 : Int32))] [(.int dz11), (.int ((sz + (-1 : Int32)) + (-1 : Int32))), (.ref v)])) rfl rfl (hb hby d27_68)
    have N12 := Fr.snoc X12 N9 g_v
    have S_o_12 := S_o_9.wr W12
    have S_t_12 := S_t_9.wr W12
    have A_o_12 := A_o_9.other W12 nov
    have A_t_12 := A_t_9.other W12 ntv
    have Zs12 : n0 ≤ h12.size := Nat.le_trans Zs9 (Keep.of_wr W12).1
    have K12 := K9.wr W12 (Or.inl (List.mem_of_getElem? (i := 0) rfl))
    have V_v_w12 := V_v_w9.set W12
    refine own_by (S' := T12.setTop (mkF m 69 #[.val (.int (i0 / (100 : Int32))), .val (.int sz), .val (.ref v), .val (.int (i0 / (100 : Int32))), .val (.int (((i0 / (100 : Int32)) * (100 : Int32)) - i0)), .val (.int ((sz + (-1 : Int32)) + (-1 : Int32))), .val (.int (0 : Int32))] [])) st12 ?_
    refine own_by (S' := T12.setTop (mkF m 22 #[.val (.int (i0 / (100 : Int32))), .val (.int sz), .val (.ref v), .val (.int (i0 / (100 : Int32))), .val (.int (((i0 / (100 : Int32)) * (100 : Int32)) - i0)), .val (.int ((sz + (-1 : Int32)) + (-1 : Int32))), .val (.int (0 : Int32))] [])) (fun tZ kZ => XS.goto X12.here hx rfl (pc0 := 69) (pc' := 22) rfl (hb hby d27_69) (by decide) (by decide) kZ) ?_
    obtain ⟨X1_, hXe0⟩ : ∃ z : Nat, z = X0_ / 100 := ⟨_, rfl⟩
    rw [← hXe0] at hp1 hx1_ hq0
    obtain ⟨k1_, hke0⟩ : ∃ z : Nat, z = d - 1 - 1 := ⟨_, rfl⟩
    rw [← hke0] at hb0
    have hp1' : X1_ < 10 ^ k1_ := by rw [show k1_ = d - 2 from by omega]; exact hp1
    have hkk1 : k1_ ≤ 8 := by omega
    refine own_by (S' := T12.setTop (mkF m 23 #[.val (.int (i0 / (100 : Int32))), .val (.int sz), .val (.ref v), .val (.int (i0 / (100 : Int32))), .val (.int (((i0 / (100 : Int32)) * (100 : Int32)) - i0)), .val (.int ((sz + (-1 : Int32)) + (-1 : Int32))), .val (.int (0 : Int32))] [(.int (i0 / (100 : Int32)))])) (fun tZ kZ => XS.iloadN X12.here hx rfl (hb hby d27_22) rfl kZ) ?_
    refine own_by (S' := T12.setTop (mkF m 25 #[.val (.int (i0 / (100 : Int32))), .val (.int sz), .val (.ref v), .val (.int (i0 / (100 : Int32))), .val (.int (((i0 / (100 : Int32)) * (100 : Int32)) - i0)), .val (.int ((sz + (-1 : Int32)) + (-1 : Int32))), .val (.int (0 : Int32))] [(.int (-100 : Int32)), (.int (i0 / (100 : Int32)))])) (fun tZ kZ => XS.bipush X12.here hx rfl (hb hby d27_23) kZ) ?_
    by_cases hc1 : (-100 : Int32) < (i0 / (100 : Int32))
    · refine own_by (S' := T12.setTop (mkF m 72 #[.val (.int (i0 / (100 : Int32))), .val (.int sz), .val (.ref v), .val (.int (i0 / (100 : Int32))), .val (.int (((i0 / (100 : Int32)) * (100 : Int32)) - i0)), .val (.int ((sz + (-1 : Int32)) + (-1 : Int32))), .val (.int (0 : Int32))] [])) (fun tZ kZ => XS.icmpYes X12.here hx rfl (pc0 := 25) (pc' := 72) rfl (hb hby d27_25) rfl (tlt hc1).2.2.1 (by decide) (by decide) kZ) ?_
      have hX100 : X1_ < 100 := by
        rw [own_ltI] at hc1
        have e : (-100 : Int32).toInt = -100 := rfl
        omega
      have hk1 := own_pw1 hp1' hx1_
      have hpa := own_dec1 hb0 hk1 (by omega)
      have hni : (-(i0 / (100 : Int32))).toInt = ((X1_ : Nat) : Int) := by
        have a := c_ineg (i0 / (100 : Int32))
        have b := rng32 (-(i0 / (100 : Int32)))
        omega
      refine own_by (S' := T12.setTop (mkF m 73 #[.val (.int (i0 / (100 : Int32))), .val (.int sz), .val (.ref v), .val (.int (i0 / (100 : Int32))), .val (.int (((i0 / (100 : Int32)) * (100 : Int32)) - i0)), .val (.int ((sz + (-1 : Int32)) + (-1 : Int32))), .val (.int (0 : Int32))] [(.ref v)])) (fun tZ kZ => XS.aloadN X12.here hx rfl (hb hby d27_72) rfl rfl kZ) ?_
      refine own_by (S' := T12.setTop (mkF m 76 #[.val (.int (i0 / (100 : Int32))), .val (.int sz), .val (.ref v), .val (.int (i0 / (100 : Int32))), .val (.int (((i0 / (100 : Int32)) * (100 : Int32)) - i0)), .val (.int (((sz + (-1 : Int32)) + (-1 : Int32)) + (-1 : Int32))), .val (.int (0 : Int32))] [(.ref v)])) (fun tZ kZ => XS.iinc X12.here hx rfl (hb hby d27_73) rfl (l' := #[.val (.int (i0 / (100 : Int32))), .val (.int sz), .val (.ref v), .val (.int (i0 / (100 : Int32))), .val (.int (((i0 / (100 : Int32)) * (100 : Int32)) - i0)), .val (.int (((sz + (-1 : Int32)) + (-1 : Int32)) + (-1 : Int32))), .val (.int (0 : Int32))]) rfl kZ) ?_
      refine own_by (S' := T12.setTop (mkF m 78 #[.val (.int (i0 / (100 : Int32))), .val (.int sz), .val (.ref v), .val (.int (i0 / (100 : Int32))), .val (.int (((i0 / (100 : Int32)) * (100 : Int32)) - i0)), .val (.int (((sz + (-1 : Int32)) + (-1 : Int32)) + (-1 : Int32))), .val (.int (0 : Int32))] [(.int (((sz + (-1 : Int32)) + (-1 : Int32)) + (-1 : Int32))), (.ref v)])) (fun tZ kZ => XS.iload X12.here hx rfl (hb hby d27_76) rfl kZ) ?_
      obtain ⟨T13, X13, e13, st13⟩ := getS2 X12 hx hZ hown (host := "") (Or.inl (hw_ hw 153 rfl)) Via.refl e12 S_o_12 (g := (mkF m 78 #[.val (.int (i0 / (100 : Int32))), .val (.int sz), .val (.ref v), .val (.int (i0 / (100 : Int32))), .val (.int (((i0 / (100 : Int32)) * (100 : Int32)) - i0)), .val (.int (((sz + (-1 : Int32)) + (-1 : Int32)) + (-1 : Int32))), .val (.int (0 : Int32))] [(.int (((sz + (-1 : Int32)) + (-1 : Int32)) + (-1 : Int32))), (.ref v)])) rfl (hb hby d27_78)
      refine own_by (S' := T13.setTop (mkF m 81 #[.val (.int (i0 / (100 : Int32))), .val (.int sz), .val (.ref v), .val (.int (i0 / (100 : Int32))), .val (.int (((i0 / (100 : Int32)) * (100 : Int32)) - i0)), .val (.int (((sz + (-1 : Int32)) + (-1 : Int32)) + (-1 : Int32))), .val (.int (0 : Int32))] [(.ref do_), (.int (((sz + (-1 : Int32)) + (-1 : Int32)) + (-1 : Int32))), (.ref v)])) st13 ?_
      refine own_by (S' := T13.setTop (mkF m 82 #[.val (.int (i0 / (100 : Int32))), .val (.int sz), .val (.ref v), .val (.int (i0 / (100 : Int32))), .val (.int (((i0 / (100 : Int32)) * (100 : Int32)) - i0)), .val (.int (((sz + (-1 : Int32)) + (-1 : Int32)) + (-1 : Int32))), .val (.int (0 : Int32))] [(.int (i0 / (100 : Int32))), (.ref do_), (.int (((sz + (-1 : Int32)) + (-1 : Int32)) + (-1 : Int32))), (.ref v)])) (fun tZ kZ => XS.iloadN X13.here hx rfl (hb hby d27_81) rfl kZ) ?_
      refine own_by (S' := T13.setTop (mkF m 83 #[.val (.int (i0 / (100 : Int32))), .val (.int sz), .val (.ref v), .val (.int (i0 / (100 : Int32))), .val (.int (((i0 / (100 : Int32)) * (100 : Int32)) - i0)), .val (.int (((sz + (-1 : Int32)) + (-1 : Int32)) + (-1 : Int32))), .val (.int (0 : Int32))] [(.int (-(i0 / (100 : Int32)))), (.ref do_), (.int (((sz + (-1 : Int32)) + (-1 : Int32)) + (-1 : Int32))), (.ref v)])) (fun tZ kZ => XS.ineg X13.here hx rfl (hb hby d27_82) rfl kZ) ?_
      obtain ⟨dz14, hdz14⟩ := e_o (X1_) (by omega)
      refine own_by (S' := T13.setTop (mkF m 84 #[.val (.int (i0 / (100 : Int32))), .val (.int sz), .val (.ref v), .val (.int (i0 / (100 : Int32))), .val (.int (((i0 / (100 : Int32)) * (100 : Int32)) - i0)), .val (.int (((sz + (-1 : Int32)) + (-1 : Int32)) + (-1 : Int32))), .val (.int (0 : Int32))] [(.int dz14), (.int (((sz + (-1 : Int32)) + (-1 : Int32)) + (-1 : Int32))), (.ref v)])) (fun tZ kZ => X13.baloadBytes hx (j := (-(i0 / (100 : Int32)))) (v := (.int dz14)) (by rw [e13]; exact A_o_12.1) (State.isArrayOf_alike hZ.alike A_o_12.2.1) A_o_12.2.2 (by rintro (q | q); exact own_nneg hni q; rw [own_tnc hni, z_o] at q; omega) (by rw [own_tnc hni]; exact hdz14) (g := (mkF m 83 #[.val (.int (i0 / (100 : Int32))), .val (.int sz), .val (.ref v), .val (.int (i0 / (100 : Int32))), .val (.int (((i0 / (100 : Int32)) * (100 : Int32)) - i0)), .val (.int (((sz + (-1 : Int32)) + (-1 : Int32)) + (-1 : Int32))), .val (.int (0 : Int32))] [(.int (-(i0 / (100 : Int32)))), (.ref do_), (.int (((sz + (-1 : Int32)) + (-1 : Int32)) + (-1 : Int32))), (.ref v)])) rfl rfl (hb hby d27_83) _ kZ) ?_
      obtain ⟨cc15, Ar15, hc15, hl15⟩ := id V_v_w12
      have hin15 := OwnA.inb (j := (((sz + (-1 : Int32)) + (-1 : Int32)) + (-1 : Int32))) hl15 (own_nneg hpa) (by simp only [List.length_set, hl]; rw [own_tnc hpa]; omega)
      obtain ⟨T15, h15, X15, e15, W15, st15⟩ := stB X13 hx hZ e13 Ar15 (j := (((sz + (-1 : Int32)) + (-1 : Int32)) + (-1 : Int32))) hin15 (g := (mkF m 84 #[.val (.int (i0 / (100 : Int32))), .val (.int sz), .val (.ref v), .val (.int (i0 / (100 : Int32))), .val (.int (((i0 / (100 : Int32)) * (100 : Int32)) - i0)), .val (.int (((sz + (-1 : Int32)) + (-1 : Int32)) + (-1 : Int32))), .val (.int (0 : Int32))] [(.int dz14), (.int (((sz + (-1 : Int32)) + (-1 : Int32)) + (-1 : Int32))), (.ref v)])) rfl rfl (hb hby d27_84)
      have N15 := Fr.snoc X15 N12 g_v
      have S_o_15 := S_o_12.wr W15
      have S_t_15 := S_t_12.wr W15
      have A_o_15 := A_o_12.other W15 nov
      have A_t_15 := A_t_12.other W15 ntv
      have Zs15 : n0 ≤ h15.size := Nat.le_trans Zs12 (Keep.of_wr W15).1
      have K15 := K12.wr W15 (Or.inl (List.mem_of_getElem? (i := 0) rfl))
      have V_v_w15 := V_v_w12.set W15
      refine own_by (S' := T15.setTop (mkF m 85 #[.val (.int (i0 / (100 : Int32))), .val (.int sz), .val (.ref v), .val (.int (i0 / (100 : Int32))), .val (.int (((i0 / (100 : Int32)) * (100 : Int32)) - i0)), .val (.int (((sz + (-1 : Int32)) + (-1 : Int32)) + (-1 : Int32))), .val (.int (0 : Int32))] [])) st15 ?_
      refine own_by (S' := T15.setTop (mkF m 86 #[.val (.int (i0 / (100 : Int32))), .val (.int sz), .val (.ref v), .val (.int (i0 / (100 : Int32))), .val (.int (((i0 / (100 : Int32)) * (100 : Int32)) - i0)), .val (.int (((sz + (-1 : Int32)) + (-1 : Int32)) + (-1 : Int32))), .val (.int (0 : Int32))] [(.int (i0 / (100 : Int32)))])) (fun tZ kZ => XS.iloadN X15.here hx rfl (hb hby d27_85) rfl kZ) ?_
      refine own_by (S' := T15.setTop (mkF m 88 #[.val (.int (i0 / (100 : Int32))), .val (.int sz), .val (.ref v), .val (.int (i0 / (100 : Int32))), .val (.int (((i0 / (100 : Int32)) * (100 : Int32)) - i0)), .val (.int (((sz + (-1 : Int32)) + (-1 : Int32)) + (-1 : Int32))), .val (.int (0 : Int32))] [(.int (-9 : Int32)), (.int (i0 / (100 : Int32)))])) (fun tZ kZ => XS.bipush X15.here hx rfl (hb hby d27_86) kZ) ?_
      by_cases hnine : (i0 / (100 : Int32)) < (-9 : Int32)
      · refine own_by (S' := T15.setTop (mkF m 91 #[.val (.int (i0 / (100 : Int32))), .val (.int sz), .val (.ref v), .val (.int (i0 / (100 : Int32))), .val (.int (((i0 / (100 : Int32)) * (100 : Int32)) - i0)), .val (.int (((sz + (-1 : Int32)) + (-1 : Int32)) + (-1 : Int32))), .val (.int (0 : Int32))] [])) (fun tZ kZ => XS.icmpNo X15.here hx rfl (hb hby d27_88) rfl (tlt hnine).2.1 kZ) ?_
        have hX10 : 10 ≤ X1_ := by
          rw [own_ltI] at hnine
          have e : (-9 : Int32).toInt = -9 := rfl
          omega
        have hk2 := own_pw2 hp1' hX10
        have hpb := own_dec1 hpa (by omega) (by omega)
        refine own_by (S' := T15.setTop (mkF m 92 #[.val (.int (i0 / (100 : Int32))), .val (.int sz), .val (.ref v), .val (.int (i0 / (100 : Int32))), .val (.int (((i0 / (100 : Int32)) * (100 : Int32)) - i0)), .val (.int (((sz + (-1 : Int32)) + (-1 : Int32)) + (-1 : Int32))), .val (.int (0 : Int32))] [(.ref v)])) (fun tZ kZ => XS.aloadN X15.here hx rfl (hb hby d27_91) rfl rfl kZ) ?_
        refine own_by (S' := T15.setTop (mkF m 95 #[.val (.int (i0 / (100 : Int32))), .val (.int sz), .val (.ref v), .val (.int (i0 / (100 : Int32))), .val (.int (((i0 / (100 : Int32)) * (100 : Int32)) - i0)), .val (.int ((((sz + (-1 : Int32)) + (-1 : Int32)) + (-1 : Int32)) + (-1 : Int32))), .val (.int (0 : Int32))] [(.ref v)])) (fun tZ kZ => XS.iinc X15.here hx rfl (hb hby d27_92) rfl (l' := #[.val (.int (i0 / (100 : Int32))), .val (.int sz), .val (.ref v), .val (.int (i0 / (100 : Int32))), .val (.int (((i0 / (100 : Int32)) * (100 : Int32)) - i0)), .val (.int ((((sz + (-1 : Int32)) + (-1 : Int32)) + (-1 : Int32)) + (-1 : Int32))), .val (.int (0 : Int32))]) rfl kZ) ?_
        refine own_by (S' := T15.setTop (mkF m 97 #[.val (.int (i0 / (100 : Int32))), .val (.int sz), .val (.ref v), .val (.int (i0 / (100 : Int32))), .val (.int (((i0 / (100 : Int32)) * (100 : Int32)) - i0)), .val (.int ((((sz + (-1 : Int32)) + (-1 : Int32)) + (-1 : Int32)) + (-1 : Int32))), .val (.int (0 : Int32))] [(.int ((((sz + (-1 : Int32)) + (-1 : Int32)) + (-1 : Int32)) + (-1 : Int32))), (.ref v)])) (fun tZ kZ => XS.iload X15.here hx rfl (hb hby d27_95) rfl kZ) ?_
        obtain ⟨T16, X16, e16, st16⟩ := getS2 X15 hx hZ hown (host := "") (Or.inl (hw_ hw 271 rfl)) Via.refl e15 S_t_15 (g := (mkF m 97 #[.val (.int (i0 / (100 : Int32))), .val (.int sz), .val (.ref v), .val (.int (i0 / (100 : Int32))), .val (.int (((i0 / (100 : Int32)) * (100 : Int32)) - i0)), .val (.int ((((sz + (-1 : Int32)) + (-1 : Int32)) + (-1 : Int32)) + (-1 : Int32))), .val (.int (0 : Int32))] [(.int ((((sz + (-1 : Int32)) + (-1 : Int32)) + (-1 : Int32)) + (-1 : Int32))), (.ref v)])) rfl (hb hby d27_97)
        refine own_by (S' := T16.setTop (mkF m 100 #[.val (.int (i0 / (100 : Int32))), .val (.int sz), .val (.ref v), .val (.int (i0 / (100 : Int32))), .val (.int (((i0 / (100 : Int32)) * (100 : Int32)) - i0)), .val (.int ((((sz + (-1 : Int32)) + (-1 : Int32)) + (-1 : Int32)) + (-1 : Int32))), .val (.int (0 : Int32))] [(.ref dt), (.int ((((sz + (-1 : Int32)) + (-1 : Int32)) + (-1 : Int32)) + (-1 : Int32))), (.ref v)])) st16 ?_
        refine own_by (S' := T16.setTop (mkF m 101 #[.val (.int (i0 / (100 : Int32))), .val (.int sz), .val (.ref v), .val (.int (i0 / (100 : Int32))), .val (.int (((i0 / (100 : Int32)) * (100 : Int32)) - i0)), .val (.int ((((sz + (-1 : Int32)) + (-1 : Int32)) + (-1 : Int32)) + (-1 : Int32))), .val (.int (0 : Int32))] [(.int (i0 / (100 : Int32))), (.ref dt), (.int ((((sz + (-1 : Int32)) + (-1 : Int32)) + (-1 : Int32)) + (-1 : Int32))), (.ref v)])) (fun tZ kZ => XS.iloadN X16.here hx rfl (hb hby d27_100) rfl kZ) ?_
        refine own_by (S' := T16.setTop (mkF m 102 #[.val (.int (i0 / (100 : Int32))), .val (.int sz), .val (.ref v), .val (.int (i0 / (100 : Int32))), .val (.int (((i0 / (100 : Int32)) * (100 : Int32)) - i0)), .val (.int ((((sz + (-1 : Int32)) + (-1 : Int32)) + (-1 : Int32)) + (-1 : Int32))), .val (.int (0 : Int32))] [(.int (-(i0 / (100 : Int32)))), (.ref dt), (.int ((((sz + (-1 : Int32)) + (-1 : Int32)) + (-1 : Int32)) + (-1 : Int32))), (.ref v)])) (fun tZ kZ => XS.ineg X16.here hx rfl (hb hby d27_101) rfl kZ) ?_
        obtain ⟨dz17, hdz17⟩ := e_t (X1_) (by omega)
        refine own_by (S' := T16.setTop (mkF m 103 #[.val (.int (i0 / (100 : Int32))), .val (.int sz), .val (.ref v), .val (.int (i0 / (100 : Int32))), .val (.int (((i0 / (100 : Int32)) * (100 : Int32)) - i0)), .val (.int ((((sz + (-1 : Int32)) + (-1 : Int32)) + (-1 : Int32)) + (-1 : Int32))), .val (.int (0 : Int32))] [(.int dz17), (.int ((((sz + (-1 : Int32)) + (-1 : Int32)) + (-1 : Int32)) + (-1 : Int32))), (.ref v)])) (fun tZ kZ => X16.baloadBytes hx (j := (-(i0 / (100 : Int32)))) (v := (.int dz17)) (by rw [e16]; exact A_t_15.1) (State.isArrayOf_alike hZ.alike A_t_15.2.1) A_t_15.2.2 (by rintro (q | q); exact own_nneg hni q; rw [own_tnc hni, z_t] at q; omega) (by rw [own_tnc hni]; exact hdz17) (g := (mkF m 102 #[.val (.int (i0 / (100 : Int32))), .val (.int sz), .val (.ref v), .val (.int (i0 / (100 : Int32))), .val (.int (((i0 / (100 : Int32)) * (100 : Int32)) - i0)), .val (.int ((((sz + (-1 : Int32)) + (-1 : Int32)) + (-1 : Int32)) + (-1 : Int32))), .val (.int (0 : Int32))] [(.int (-(i0 / (100 : Int32)))), (.ref dt), (.int ((((sz + (-1 : Int32)) + (-1 : Int32)) + (-1 : Int32)) + (-1 : Int32))), (.ref v)])) rfl rfl (hb hby d27_102) _ kZ) ?_
        obtain ⟨cc18, Ar18, hc18, hl18⟩ := id V_v_w15
        have hin18 := OwnA.inb (j := ((((sz + (-1 : Int32)) + (-1 : Int32)) + (-1 : Int32)) + (-1 : Int32))) hl18 (own_nneg hpb) (by simp only [List.length_set, hl]; rw [own_tnc hpb]; omega)
        obtain ⟨T18, h18, X18, e18, W18, st18⟩ := stB X16 hx hZ e16 Ar18 (j := ((((sz + (-1 : Int32)) + (-1 : Int32)) + (-1 : Int32)) + (-1 : Int32))) hin18 (g := (mkF m 103 #[.val (.int (i0 / (100 : Int32))), .val (.int sz), .val (.ref v), .val (.int (i0 / (100 : Int32))), .val (.int (((i0 / (100 : Int32)) * (100 : Int32)) - i0)), .val (.int ((((sz + (-1 : Int32)) + (-1 : Int32)) + (-1 : Int32)) + (-1 : Int32))), .val (.int (0 : Int32))] [(.int dz17), (.int ((((sz + (-1 : Int32)) + (-1 : Int32)) + (-1 : Int32)) + (-1 : Int32))), (.ref v)])) rfl rfl (hb hby d27_103)
        have N18 := Fr.snoc X18 N15 g_v
        have S_o_18 := S_o_15.wr W18
        have S_t_18 := S_t_15.wr W18
        have A_o_18 := A_o_15.other W18 nov
        have A_t_18 := A_t_15.other W18 ntv
        have Zs18 : n0 ≤ h18.size := Nat.le_trans Zs15 (Keep.of_wr W18).1
        have K18 := K15.wr W18 (Or.inl (List.mem_of_getElem? (i := 0) rfl))
        have V_v_w18 := V_v_w15.set W18
        refine own_by (S' := T18.setTop (mkF m 104 #[.val (.int (i0 / (100 : Int32))), .val (.int sz), .val (.ref v), .val (.int (i0 / (100 : Int32))), .val (.int (((i0 / (100 : Int32)) * (100 : Int32)) - i0)), .val (.int ((((sz + (-1 : Int32)) + (-1 : Int32)) + (-1 : Int32)) + (-1 : Int32))), .val (.int (0 : Int32))] [])) st18 ?_
        refine own_by (S' := T18.setTop (mkF m 106 #[.val (.int (i0 / (100 : Int32))), .val (.int sz), .val (.ref v), .val (.int (i0 / (100 : Int32))), .val (.int (((i0 / (100 : Int32)) * (100 : Int32)) - i0)), .val (.int ((((sz + (-1 : Int32)) + (-1 : Int32)) + (-1 : Int32)) + (-1 : Int32))), .val (.int (0 : Int32))] [(.int (0 : Int32))])) (fun tZ kZ => XS.iload X18.here hx rfl (hb hby d27_104) rfl kZ) ?_
        refine own_by (S' := T18.setTop (mkF m 118 #[.val (.int (i0 / (100 : Int32))), .val (.int sz), .val (.ref v), .val (.int (i0 / (100 : Int32))), .val (.int (((i0 / (100 : Int32)) * (100 : Int32)) - i0)), .val (.int ((((sz + (-1 : Int32)) + (-1 : Int32)) + (-1 : Int32)) + (-1 : Int32))), .val (.int (0 : Int32))] [])) (fun tZ kZ => XS.ifYes X18.here hx rfl (pc0 := 106) (pc' := 118) rfl (hb hby d27_106) rfl ((if0 _ _).trans (teq rfl).1) (by decide) (by decide) kZ) ?_
        refine own_by (S' := T18.setTop (mkF m 120 #[.val (.int (i0 / (100 : Int32))), .val (.int sz), .val (.ref v), .val (.int (i0 / (100 : Int32))), .val (.int (((i0 / (100 : Int32)) * (100 : Int32)) - i0)), .val (.int ((((sz + (-1 : Int32)) + (-1 : Int32)) + (-1 : Int32)) + (-1 : Int32))), .val (.int (0 : Int32))] [(.int ((((sz + (-1 : Int32)) + (-1 : Int32)) + (-1 : Int32)) + (-1 : Int32)))])) (fun tZ kZ => XS.iload X18.here hx rfl (hb hby d27_118) rfl kZ) ?_
        exact own_retI X18 hx (t := .int) Bd.returns (by simp) rfl (hb hby d27_120) Bd.notSynchronized (by decide) (by decide) (show QGc Z v kv h0 n0 _ T18.heap _ from by rw [e18]; exact ⟨_, rfl, N18, K18, _, V_v_w18, by simp only [List.length_set, hl], by repeat (first | exact hf | apply own_fitset)⟩)
      · refine own_by (S' := T15.setTop (mkF m 104 #[.val (.int (i0 / (100 : Int32))), .val (.int sz), .val (.ref v), .val (.int (i0 / (100 : Int32))), .val (.int (((i0 / (100 : Int32)) * (100 : Int32)) - i0)), .val (.int (((sz + (-1 : Int32)) + (-1 : Int32)) + (-1 : Int32))), .val (.int (0 : Int32))] [])) (fun tZ kZ => XS.icmpYes X15.here hx rfl (pc0 := 88) (pc' := 104) rfl (hb hby d27_88) rfl (flt hnine).2.1 (by decide) (by decide) kZ) ?_
        refine own_by (S' := T15.setTop (mkF m 106 #[.val (.int (i0 / (100 : Int32))), .val (.int sz), .val (.ref v), .val (.int (i0 / (100 : Int32))), .val (.int (((i0 / (100 : Int32)) * (100 : Int32)) - i0)), .val (.int (((sz + (-1 : Int32)) + (-1 : Int32)) + (-1 : Int32))), .val (.int (0 : Int32))] [(.int (0 : Int32))])) (fun tZ kZ => XS.iload X15.here hx rfl (hb hby d27_104) rfl kZ) ?_
        refine own_by (S' := T15.setTop (mkF m 118 #[.val (.int (i0 / (100 : Int32))), .val (.int sz), .val (.ref v), .val (.int (i0 / (100 : Int32))), .val (.int (((i0 / (100 : Int32)) * (100 : Int32)) - i0)), .val (.int (((sz + (-1 : Int32)) + (-1 : Int32)) + (-1 : Int32))), .val (.int (0 : Int32))] [])) (fun tZ kZ => XS.ifYes X15.here hx rfl (pc0 := 106) (pc' := 118) rfl (hb hby d27_106) rfl ((if0 _ _).trans (teq rfl).1) (by decide) (by decide) kZ) ?_
        refine own_by (S' := T15.setTop (mkF m 120 #[.val (.int (i0 / (100 : Int32))), .val (.int sz), .val (.ref v), .val (.int (i0 / (100 : Int32))), .val (.int (((i0 / (100 : Int32)) * (100 : Int32)) - i0)), .val (.int (((sz + (-1 : Int32)) + (-1 : Int32)) + (-1 : Int32))), .val (.int (0 : Int32))] [(.int (((sz + (-1 : Int32)) + (-1 : Int32)) + (-1 : Int32)))])) (fun tZ kZ => XS.iload X15.here hx rfl (hb hby d27_118) rfl kZ) ?_
        exact own_retI X15 hx (t := .int) Bd.returns (by simp) rfl (hb hby d27_120) Bd.notSynchronized (by decide) (by decide) (show QGc Z v kv h0 n0 _ T15.heap _ from by rw [e15]; exact ⟨_, rfl, N15, K15, _, V_v_w15, by simp only [List.length_set, hl], by repeat (first | exact hf | apply own_fitset)⟩)
    · refine own_by (S' := T12.setTop (mkF m 28 #[.val (.int (i0 / (100 : Int32))), .val (.int sz), .val (.ref v), .val (.int (i0 / (100 : Int32))), .val (.int (((i0 / (100 : Int32)) * (100 : Int32)) - i0)), .val (.int ((sz + (-1 : Int32)) + (-1 : Int32))), .val (.int (0 : Int32))] [])) (fun tZ kZ => XS.icmpNo X12.here hx rfl (hb hby d27_25) rfl (flt hc1).2.2.1 kZ) ?_
      have hX_1 : 100 ≤ X1_ := by
        rw [own_ltI] at hc1
        have e : (-100 : Int32).toInt = -100 := rfl
        omega
      obtain ⟨hk3_1, hp2, hx2_⟩ := own_pw hp1' (by omega) hX_1
      obtain ⟨hq1, hr1⟩ := own_g1 hq0
      have ha1 := own_dec1 hb0 (by omega) (by omega)
      have hb1 := own_dec1 ha1 (by omega) (by omega)
      refine own_by (S' := T12.setTop (mkF m 29 #[.val (.int (i0 / (100 : Int32))), .val (.int sz), .val (.ref v), .val (.int (i0 / (100 : Int32))), .val (.int (((i0 / (100 : Int32)) * (100 : Int32)) - i0)), .val (.int ((sz + (-1 : Int32)) + (-1 : Int32))), .val (.int (0 : Int32))] [(.int (i0 / (100 : Int32)))])) (fun tZ kZ => XS.iloadN X12.here hx rfl (hb hby d27_28) rfl kZ) ?_
      refine own_by (S' := T12.setTop (mkF m 31 #[.val (.int (i0 / (100 : Int32))), .val (.int sz), .val (.ref v), .val (.int (i0 / (100 : Int32))), .val (.int (((i0 / (100 : Int32)) * (100 : Int32)) - i0)), .val (.int ((sz + (-1 : Int32)) + (-1 : Int32))), .val (.int (0 : Int32))] [(.int (100 : Int32)), (.int (i0 / (100 : Int32)))])) (fun tZ kZ => XS.bipush X12.here hx rfl (hb hby d27_29) kZ) ?_
      refine own_by (S' := T12.setTop (mkF m 32 #[.val (.int (i0 / (100 : Int32))), .val (.int sz), .val (.ref v), .val (.int (i0 / (100 : Int32))), .val (.int (((i0 / (100 : Int32)) * (100 : Int32)) - i0)), .val (.int ((sz + (-1 : Int32)) + (-1 : Int32))), .val (.int (0 : Int32))] [(.int ((i0 / (100 : Int32)) / (100 : Int32)))])) (fun tZ kZ => XS.idiv X12.here hx rfl (hb hby d27_31) rfl (by decide) kZ) ?_
      refine own_by (S' := T12.setTop (mkF m 33 #[.val (.int (i0 / (100 : Int32))), .val (.int sz), .val (.ref v), .val (.int ((i0 / (100 : Int32)) / (100 : Int32))), .val (.int (((i0 / (100 : Int32)) * (100 : Int32)) - i0)), .val (.int ((sz + (-1 : Int32)) + (-1 : Int32))), .val (.int (0 : Int32))] [])) (fun tZ kZ => XS.istoreN X12.here hx rfl (hb hby d27_32) rfl (l' := #[.val (.int (i0 / (100 : Int32))), .val (.int sz), .val (.ref v), .val (.int ((i0 / (100 : Int32)) / (100 : Int32))), .val (.int (((i0 / (100 : Int32)) * (100 : Int32)) - i0)), .val (.int ((sz + (-1 : Int32)) + (-1 : Int32))), .val (.int (0 : Int32))]) rfl kZ) ?_
      refine own_by (S' := T12.setTop (mkF m 34 #[.val (.int (i0 / (100 : Int32))), .val (.int sz), .val (.ref v), .val (.int ((i0 / (100 : Int32)) / (100 : Int32))), .val (.int (((i0 / (100 : Int32)) * (100 : Int32)) - i0)), .val (.int ((sz + (-1 : Int32)) + (-1 : Int32))), .val (.int (0 : Int32))] [(.int ((i0 / (100 : Int32)) / (100 : Int32)))])) (fun tZ kZ => XS.iloadN X12.here hx rfl (hb hby d27_33) rfl kZ) ?_
      refine own_by (S' := T12.setTop (mkF m 36 #[.val (.int (i0 / (100 : Int32))), .val (.int sz), .val (.ref v), .val (.int ((i0 / (100 : Int32)) / (100 : Int32))), .val (.int (((i0 / (100 : Int32)) * (100 : Int32)) - i0)), .val (.int ((sz + (-1 : Int32)) + (-1 : Int32))), .val (.int (0 : Int32))] [(.int (100 : Int32)), (.int ((i0 / (100 : Int32)) / (100 : Int32)))])) (fun tZ kZ => XS.bipush X12.here hx rfl (hb hby d27_34) kZ) ?_
      refine own_by (S' := T12.setTop (mkF m 37 #[.val (.int (i0 / (100 : Int32))), .val (.int sz), .val (.ref v), .val (.int ((i0 / (100 : Int32)) / (100 : Int32))), .val (.int (((i0 / (100 : Int32)) * (100 : Int32)) - i0)), .val (.int ((sz + (-1 : Int32)) + (-1 : Int32))), .val (.int (0 : Int32))] [(.int (((i0 / (100 : Int32)) / (100 : Int32)) * (100 : Int32)))])) (fun tZ kZ => XS.imul X12.here hx rfl (hb hby d27_36) rfl kZ) ?_
      refine own_by (S' := T12.setTop (mkF m 38 #[.val (.int (i0 / (100 : Int32))), .val (.int sz), .val (.ref v), .val (.int ((i0 / (100 : Int32)) / (100 : Int32))), .val (.int (((i0 / (100 : Int32)) * (100 : Int32)) - i0)), .val (.int ((sz + (-1 : Int32)) + (-1 : Int32))), .val (.int (0 : Int32))] [(.int (i0 / (100 : Int32))), (.int (((i0 / (100 : Int32)) / (100 : Int32)) * (100 : Int32)))])) (fun tZ kZ => XS.iloadN X12.here hx rfl (hb hby d27_37) rfl kZ) ?_
      refine own_by (S' := T12.setTop (mkF m 39 #[.val (.int (i0 / (100 : Int32))), .val (.int sz), .val (.ref v), .val (.int ((i0 / (100 : Int32)) / (100 : Int32))), .val (.int (((i0 / (100 : Int32)) * (100 : Int32)) - i0)), .val (.int ((sz + (-1 : Int32)) + (-1 : Int32))), .val (.int (0 : Int32))] [(.int ((((i0 / (100 : Int32)) / (100 : Int32)) * (100 : Int32)) - (i0 / (100 : Int32))))])) (fun tZ kZ => XS.isub X12.here hx rfl (hb hby d27_38) rfl kZ) ?_
      refine own_by (S' := T12.setTop (mkF m 41 #[.val (.int (i0 / (100 : Int32))), .val (.int sz), .val (.ref v), .val (.int ((i0 / (100 : Int32)) / (100 : Int32))), .val (.int ((((i0 / (100 : Int32)) / (100 : Int32)) * (100 : Int32)) - (i0 / (100 : Int32)))), .val (.int ((sz + (-1 : Int32)) + (-1 : Int32))), .val (.int (0 : Int32))] [])) (fun tZ kZ => XS.istore X12.here hx rfl (hb hby d27_39) rfl (l' := #[.val (.int (i0 / (100 : Int32))), .val (.int sz), .val (.ref v), .val (.int ((i0 / (100 : Int32)) / (100 : Int32))), .val (.int ((((i0 / (100 : Int32)) / (100 : Int32)) * (100 : Int32)) - (i0 / (100 : Int32)))), .val (.int ((sz + (-1 : Int32)) + (-1 : Int32))), .val (.int (0 : Int32))]) rfl kZ) ?_
      refine own_by (S' := T12.setTop (mkF m 42 #[.val (.int (i0 / (100 : Int32))), .val (.int sz), .val (.ref v), .val (.int ((i0 / (100 : Int32)) / (100 : Int32))), .val (.int ((((i0 / (100 : Int32)) / (100 : Int32)) * (100 : Int32)) - (i0 / (100 : Int32)))), .val (.int ((sz + (-1 : Int32)) + (-1 : Int32))), .val (.int (0 : Int32))] [(.int ((i0 / (100 : Int32)) / (100 : Int32)))])) (fun tZ kZ => XS.iloadN X12.here hx rfl (hb hby d27_41) rfl kZ) ?_
      refine own_by (S' := T12.setTop (mkF m 43 #[.val (.int ((i0 / (100 : Int32)) / (100 : Int32))), .val (.int sz), .val (.ref v), .val (.int ((i0 / (100 : Int32)) / (100 : Int32))), .val (.int ((((i0 / (100 : Int32)) / (100 : Int32)) * (100 : Int32)) - (i0 / (100 : Int32)))), .val (.int ((sz + (-1 : Int32)) + (-1 : Int32))), .val (.int (0 : Int32))] [])) (fun tZ kZ => XS.istoreN X12.here hx rfl (hb hby d27_42) rfl (l' := #[.val (.int ((i0 / (100 : Int32)) / (100 : Int32))), .val (.int sz), .val (.ref v), .val (.int ((i0 / (100 : Int32)) / (100 : Int32))), .val (.int ((((i0 / (100 : Int32)) / (100 : Int32)) * (100 : Int32)) - (i0 / (100 : Int32)))), .val (.int ((sz + (-1 : Int32)) + (-1 : Int32))), .val (.int (0 : Int32))]) rfl kZ) ?_
      refine own_by (S' := T12.setTop (mkF m 44 #[.val (.int ((i0 / (100 : Int32)) / (100 : Int32))), .val (.int sz), .val (.ref v), .val (.int ((i0 / (100 : Int32)) / (100 : Int32))), .val (.int ((((i0 / (100 : Int32)) / (100 : Int32)) * (100 : Int32)) - (i0 / (100 : Int32)))), .val (.int ((sz + (-1 : Int32)) + (-1 : Int32))), .val (.int (0 : Int32))] [(.ref v)])) (fun tZ kZ => XS.aloadN X12.here hx rfl (hb hby d27_43) rfl rfl kZ) ?_
      refine own_by (S' := T12.setTop (mkF m 47 #[.val (.int ((i0 / (100 : Int32)) / (100 : Int32))), .val (.int sz), .val (.ref v), .val (.int ((i0 / (100 : Int32)) / (100 : Int32))), .val (.int ((((i0 / (100 : Int32)) / (100 : Int32)) * (100 : Int32)) - (i0 / (100 : Int32)))), .val (.int (((sz + (-1 : Int32)) + (-1 : Int32)) + (-1 : Int32))), .val (.int (0 : Int32))] [(.ref v)])) (fun tZ kZ => XS.iinc X12.here hx rfl (hb hby d27_44) rfl (l' := #[.val (.int ((i0 / (100 : Int32)) / (100 : Int32))), .val (.int sz), .val (.ref v), .val (.int ((i0 / (100 : Int32)) / (100 : Int32))), .val (.int ((((i0 / (100 : Int32)) / (100 : Int32)) * (100 : Int32)) - (i0 / (100 : Int32)))), .val (.int (((sz + (-1 : Int32)) + (-1 : Int32)) + (-1 : Int32))), .val (.int (0 : Int32))]) rfl kZ) ?_
      refine own_by (S' := T12.setTop (mkF m 49 #[.val (.int ((i0 / (100 : Int32)) / (100 : Int32))), .val (.int sz), .val (.ref v), .val (.int ((i0 / (100 : Int32)) / (100 : Int32))), .val (.int ((((i0 / (100 : Int32)) / (100 : Int32)) * (100 : Int32)) - (i0 / (100 : Int32)))), .val (.int (((sz + (-1 : Int32)) + (-1 : Int32)) + (-1 : Int32))), .val (.int (0 : Int32))] [(.int (((sz + (-1 : Int32)) + (-1 : Int32)) + (-1 : Int32))), (.ref v)])) (fun tZ kZ => XS.iload X12.here hx rfl (hb hby d27_47) rfl kZ) ?_
      obtain ⟨T19, X19, e19, st19⟩ := getS2 X12 hx hZ hown (host := "") (Or.inl (hw_ hw 153 rfl)) Via.refl e12 S_o_12 (g := (mkF m 49 #[.val (.int ((i0 / (100 : Int32)) / (100 : Int32))), .val (.int sz), .val (.ref v), .val (.int ((i0 / (100 : Int32)) / (100 : Int32))), .val (.int ((((i0 / (100 : Int32)) / (100 : Int32)) * (100 : Int32)) - (i0 / (100 : Int32)))), .val (.int (((sz + (-1 : Int32)) + (-1 : Int32)) + (-1 : Int32))), .val (.int (0 : Int32))] [(.int (((sz + (-1 : Int32)) + (-1 : Int32)) + (-1 : Int32))), (.ref v)])) rfl (hb hby d27_49)
      refine own_by (S' := T19.setTop (mkF m 52 #[.val (.int ((i0 / (100 : Int32)) / (100 : Int32))), .val (.int sz), .val (.ref v), .val (.int ((i0 / (100 : Int32)) / (100 : Int32))), .val (.int ((((i0 / (100 : Int32)) / (100 : Int32)) * (100 : Int32)) - (i0 / (100 : Int32)))), .val (.int (((sz + (-1 : Int32)) + (-1 : Int32)) + (-1 : Int32))), .val (.int (0 : Int32))] [(.ref do_), (.int (((sz + (-1 : Int32)) + (-1 : Int32)) + (-1 : Int32))), (.ref v)])) st19 ?_
      refine own_by (S' := T19.setTop (mkF m 54 #[.val (.int ((i0 / (100 : Int32)) / (100 : Int32))), .val (.int sz), .val (.ref v), .val (.int ((i0 / (100 : Int32)) / (100 : Int32))), .val (.int ((((i0 / (100 : Int32)) / (100 : Int32)) * (100 : Int32)) - (i0 / (100 : Int32)))), .val (.int (((sz + (-1 : Int32)) + (-1 : Int32)) + (-1 : Int32))), .val (.int (0 : Int32))] [(.int ((((i0 / (100 : Int32)) / (100 : Int32)) * (100 : Int32)) - (i0 / (100 : Int32)))), (.ref do_), (.int (((sz + (-1 : Int32)) + (-1 : Int32)) + (-1 : Int32))), (.ref v)])) (fun tZ kZ => XS.iload X19.here hx rfl (hb hby d27_52) rfl kZ) ?_
      obtain ⟨dz20, hdz20⟩ := e_o (X1_ % 100) (by omega)
      refine own_by (S' := T19.setTop (mkF m 55 #[.val (.int ((i0 / (100 : Int32)) / (100 : Int32))), .val (.int sz), .val (.ref v), .val (.int ((i0 / (100 : Int32)) / (100 : Int32))), .val (.int ((((i0 / (100 : Int32)) / (100 : Int32)) * (100 : Int32)) - (i0 / (100 : Int32)))), .val (.int (((sz + (-1 : Int32)) + (-1 : Int32)) + (-1 : Int32))), .val (.int (0 : Int32))] [(.int dz20), (.int (((sz + (-1 : Int32)) + (-1 : Int32)) + (-1 : Int32))), (.ref v)])) (fun tZ kZ => X19.baloadBytes hx (j := ((((i0 / (100 : Int32)) / (100 : Int32)) * (100 : Int32)) - (i0 / (100 : Int32)))) (v := (.int dz20)) (by rw [e19]; exact A_o_12.1) (State.isArrayOf_alike hZ.alike A_o_12.2.1) A_o_12.2.2 (by rintro (q | q); exact own_nneg hr1 q; rw [own_tnc hr1, z_o] at q; omega) (by rw [own_tnc hr1]; exact hdz20) (g := (mkF m 54 #[.val (.int ((i0 / (100 : Int32)) / (100 : Int32))), .val (.int sz), .val (.ref v), .val (.int ((i0 / (100 : Int32)) / (100 : Int32))), .val (.int ((((i0 / (100 : Int32)) / (100 : Int32)) * (100 : Int32)) - (i0 / (100 : Int32)))), .val (.int (((sz + (-1 : Int32)) + (-1 : Int32)) + (-1 : Int32))), .val (.int (0 : Int32))] [(.int ((((i0 / (100 : Int32)) / (100 : Int32)) * (100 : Int32)) - (i0 / (100 : Int32)))), (.ref do_), (.int (((sz + (-1 : Int32)) + (-1 : Int32)) + (-1 : Int32))), (.ref v)])) rfl rfl (hb hby d27_54) _ kZ) ?_
      obtain ⟨cc21, Ar21, hc21, hl21⟩ := id V_v_w12
      have hin21 := OwnA.inb (j := (((sz + (-1 : Int32)) + (-1 : Int32)) + (-1 : Int32))) hl21 (own_nneg ha1) (by simp only [List.length_set, hl]; rw [own_tnc ha1]; omega)
      obtain ⟨T21, h21, X21, e21, W21, st21⟩ := stB X19 hx hZ e19 Ar21 (j := (((sz + (-1 : Int32)) + (-1 : Int32)) + (-1 : Int32))) hin21 (g := (mkF m 55 #[.val (.int ((i0 / (100 : Int32)) / (100 : Int32))), .val (.int sz), .val (.ref v), .val (.int ((i0 / (100 : Int32)) / (100 : Int32))), .val (.int ((((i0 / (100 : Int32)) / (100 : Int32)) * (100 : Int32)) - (i0 / (100 : Int32)))), .val (.int (((sz + (-1 : Int32)) + (-1 : Int32)) + (-1 : Int32))), .val (.int (0 : Int32))] [(.int dz20), (.int (((sz + (-1 : Int32)) + (-1 : Int32)) + (-1 : Int32))), (.ref v)])) rfl rfl (hb hby d27_55)
      have N21 := Fr.snoc X21 N12 g_v
      have S_o_21 := S_o_12.wr W21
      have S_t_21 := S_t_12.wr W21
      have A_o_21 := A_o_12.other W21 nov
      have A_t_21 := A_t_12.other W21 ntv
      have Zs21 : n0 ≤ h21.size := Nat.le_trans Zs12 (Keep.of_wr W21).1
      have K21 := K12.wr W21 (Or.inl (List.mem_of_getElem? (i := 0) rfl))
      have V_v_w21 := V_v_w12.set W21
      refine own_by (S' := T21.setTop (mkF m 56 #[.val (.int ((i0 / (100 : Int32)) / (100 : Int32))), .val (.int sz), .val (.ref v), .val (.int ((i0 / (100 : Int32)) / (100 : Int32))), .val (.int ((((i0 / (100 : Int32)) / (100 : Int32)) * (100 : Int32)) - (i0 / (100 : Int32)))), .val (.int (((sz + (-1 : Int32)) + (-1 : Int32)) + (-1 : Int32))), .val (.int (0 : Int32))] [])) st21 ?_
      refine own_by (S' := T21.setTop (mkF m 57 #[.val (.int ((i0 / (100 : Int32)) / (100 : Int32))), .val (.int sz), .val (.ref v), .val (.int ((i0 / (100 : Int32)) / (100 : Int32))), .val (.int ((((i0 / (100 : Int32)) / (100 : Int32)) * (100 : Int32)) - (i0 / (100 : Int32)))), .val (.int (((sz + (-1 : Int32)) + (-1 : Int32)) + (-1 : Int32))), .val (.int (0 : Int32))] [(.ref v)])) (fun tZ kZ => XS.aloadN X21.here hx rfl (hb hby d27_56) rfl rfl kZ) ?_
      refine own_by (S' := T21.setTop (mkF m 60 #[.val (.int ((i0 / (100 : Int32)) / (100 : Int32))), .val (.int sz), .val (.ref v), .val (.int ((i0 / (100 : Int32)) / (100 : Int32))), .val (.int ((((i0 / (100 : Int32)) / (100 : Int32)) * (100 : Int32)) - (i0 / (100 : Int32)))), .val (.int ((((sz + (-1 : Int32)) + (-1 : Int32)) + (-1 : Int32)) + (-1 : Int32))), .val (.int (0 : Int32))] [(.ref v)])) (fun tZ kZ => XS.iinc X21.here hx rfl (hb hby d27_57) rfl (l' := #[.val (.int ((i0 / (100 : Int32)) / (100 : Int32))), .val (.int sz), .val (.ref v), .val (.int ((i0 / (100 : Int32)) / (100 : Int32))), .val (.int ((((i0 / (100 : Int32)) / (100 : Int32)) * (100 : Int32)) - (i0 / (100 : Int32)))), .val (.int ((((sz + (-1 : Int32)) + (-1 : Int32)) + (-1 : Int32)) + (-1 : Int32))), .val (.int (0 : Int32))]) rfl kZ) ?_
      refine own_by (S' := T21.setTop (mkF m 62 #[.val (.int ((i0 / (100 : Int32)) / (100 : Int32))), .val (.int sz), .val (.ref v), .val (.int ((i0 / (100 : Int32)) / (100 : Int32))), .val (.int ((((i0 / (100 : Int32)) / (100 : Int32)) * (100 : Int32)) - (i0 / (100 : Int32)))), .val (.int ((((sz + (-1 : Int32)) + (-1 : Int32)) + (-1 : Int32)) + (-1 : Int32))), .val (.int (0 : Int32))] [(.int ((((sz + (-1 : Int32)) + (-1 : Int32)) + (-1 : Int32)) + (-1 : Int32))), (.ref v)])) (fun tZ kZ => XS.iload X21.here hx rfl (hb hby d27_60) rfl kZ) ?_
      obtain ⟨T22, X22, e22, st22⟩ := getS2 X21 hx hZ hown (host := "") (Or.inl (hw_ hw 271 rfl)) Via.refl e21 S_t_21 (g := (mkF m 62 #[.val (.int ((i0 / (100 : Int32)) / (100 : Int32))), .val (.int sz), .val (.ref v), .val (.int ((i0 / (100 : Int32)) / (100 : Int32))), .val (.int ((((i0 / (100 : Int32)) / (100 : Int32)) * (100 : Int32)) - (i0 / (100 : Int32)))), .val (.int ((((sz + (-1 : Int32)) + (-1 : Int32)) + (-1 : Int32)) + (-1 : Int32))), .val (.int (0 : Int32))] [(.int ((((sz + (-1 : Int32)) + (-1 : Int32)) + (-1 : Int32)) + (-1 : Int32))), (.ref v)])) rfl (hb hby d27_62)
      refine own_by (S' := T22.setTop (mkF m 65 #[.val (.int ((i0 / (100 : Int32)) / (100 : Int32))), .val (.int sz), .val (.ref v), .val (.int ((i0 / (100 : Int32)) / (100 : Int32))), .val (.int ((((i0 / (100 : Int32)) / (100 : Int32)) * (100 : Int32)) - (i0 / (100 : Int32)))), .val (.int ((((sz + (-1 : Int32)) + (-1 : Int32)) + (-1 : Int32)) + (-1 : Int32))), .val (.int (0 : Int32))] [(.ref dt), (.int ((((sz + (-1 : Int32)) + (-1 : Int32)) + (-1 : Int32)) + (-1 : Int32))), (.ref v)])) st22 ?_
      refine own_by (S' := T22.setTop (mkF m 67 #[.val (.int ((i0 / (100 : Int32)) / (100 : Int32))), .val (.int sz), .val (.ref v), .val (.int ((i0 / (100 : Int32)) / (100 : Int32))), .val (.int ((((i0 / (100 : Int32)) / (100 : Int32)) * (100 : Int32)) - (i0 / (100 : Int32)))), .val (.int ((((sz + (-1 : Int32)) + (-1 : Int32)) + (-1 : Int32)) + (-1 : Int32))), .val (.int (0 : Int32))] [(.int ((((i0 / (100 : Int32)) / (100 : Int32)) * (100 : Int32)) - (i0 / (100 : Int32)))), (.ref dt), (.int ((((sz + (-1 : Int32)) + (-1 : Int32)) + (-1 : Int32)) + (-1 : Int32))), (.ref v)])) (fun tZ kZ => XS.iload X22.here hx rfl (hb hby d27_65) rfl kZ) ?_
      obtain ⟨dz23, hdz23⟩ := e_t (X1_ % 100) (by omega)
      refine own_by (S' := T22.setTop (mkF m 68 #[.val (.int ((i0 / (100 : Int32)) / (100 : Int32))), .val (.int sz), .val (.ref v), .val (.int ((i0 / (100 : Int32)) / (100 : Int32))), .val (.int ((((i0 / (100 : Int32)) / (100 : Int32)) * (100 : Int32)) - (i0 / (100 : Int32)))), .val (.int ((((sz + (-1 : Int32)) + (-1 : Int32)) + (-1 : Int32)) + (-1 : Int32))), .val (.int (0 : Int32))] [(.int dz23), (.int ((((sz + (-1 : Int32)) + (-1 : Int32)) + (-1 : Int32)) + (-1 : Int32))), (.ref v)])) (fun tZ kZ => X22.baloadBytes hx (j := ((((i0 / (100 : Int32)) / (100 : Int32)) * (100 : Int32)) - (i0 / (100 : Int32)))) (v := (.int dz23)) (by rw [e22]; exact A_t_21.1) (State.isArrayOf_alike hZ.alike A_t_21.2.1) A_t_21.2.2 (by rintro (q | q); exact own_nneg hr1 q; rw [own_tnc hr1, z_t] at q; omega) (by rw [own_tnc hr1]; exact hdz23) (g := (mkF m 67 #[.val (.int ((i0 / (100 : Int32)) / (100 : Int32))), .val (.int sz), .val (.ref v), .val (.int ((i0 / (100 : Int32)) / (100 : Int32))), .val (.int ((((i0 / (100 : Int32)) / (100 : Int32)) * (100 : Int32)) - (i0 / (100 : Int32)))), .val (.int ((((sz + (-1 : Int32)) + (-1 : Int32)) + (-1 : Int32)) + (-1 : Int32))), .val (.int (0 : Int32))] [(.int ((((i0 / (100 : Int32)) / (100 : Int32)) * (100 : Int32)) - (i0 / (100 : Int32)))), (.ref dt), (.int ((((sz + (-1 : Int32)) + (-1 : Int32)) + (-1 : Int32)) + (-1 : Int32))), (.ref v)])) rfl rfl (hb hby d27_67) _ kZ) ?_
      obtain ⟨cc24, Ar24, hc24, hl24⟩ := id V_v_w21
      have hin24 := OwnA.inb (j := ((((sz + (-1 : Int32)) + (-1 : Int32)) + (-1 : Int32)) + (-1 : Int32))) hl24 (own_nneg hb1) (by simp only [List.length_set, hl]; rw [own_tnc hb1]; omega)
      obtain ⟨T24, h24, X24, e24, W24, st24⟩ := stB X22 hx hZ e22 Ar24 (j := ((((sz + (-1 : Int32)) + (-1 : Int32)) + (-1 : Int32)) + (-1 : Int32))) hin24 (g := (mkF m 68 #[.val (.int ((i0 / (100 : Int32)) / (100 : Int32))), .val (.int sz), .val (.ref v), .val (.int ((i0 / (100 : Int32)) / (100 : Int32))), .val (.int ((((i0 / (100 : Int32)) / (100 : Int32)) * (100 : Int32)) - (i0 / (100 : Int32)))), .val (.int ((((sz + (-1 : Int32)) + (-1 : Int32)) + (-1 : Int32)) + (-1 : Int32))), .val (.int (0 : Int32))] [(.int dz23), (.int ((((sz + (-1 : Int32)) + (-1 : Int32)) + (-1 : Int32)) + (-1 : Int32))), (.ref v)])) rfl rfl (hb hby d27_68)
      have N24 := Fr.snoc X24 N21 g_v
      have S_o_24 := S_o_21.wr W24
      have S_t_24 := S_t_21.wr W24
      have A_o_24 := A_o_21.other W24 nov
      have A_t_24 := A_t_21.other W24 ntv
      have Zs24 : n0 ≤ h24.size := Nat.le_trans Zs21 (Keep.of_wr W24).1
      have K24 := K21.wr W24 (Or.inl (List.mem_of_getElem? (i := 0) rfl))
      have V_v_w24 := V_v_w21.set W24
      refine own_by (S' := T24.setTop (mkF m 69 #[.val (.int ((i0 / (100 : Int32)) / (100 : Int32))), .val (.int sz), .val (.ref v), .val (.int ((i0 / (100 : Int32)) / (100 : Int32))), .val (.int ((((i0 / (100 : Int32)) / (100 : Int32)) * (100 : Int32)) - (i0 / (100 : Int32)))), .val (.int ((((sz + (-1 : Int32)) + (-1 : Int32)) + (-1 : Int32)) + (-1 : Int32))), .val (.int (0 : Int32))] [])) st24 ?_
      refine own_by (S' := T24.setTop (mkF m 22 #[.val (.int ((i0 / (100 : Int32)) / (100 : Int32))), .val (.int sz), .val (.ref v), .val (.int ((i0 / (100 : Int32)) / (100 : Int32))), .val (.int ((((i0 / (100 : Int32)) / (100 : Int32)) * (100 : Int32)) - (i0 / (100 : Int32)))), .val (.int ((((sz + (-1 : Int32)) + (-1 : Int32)) + (-1 : Int32)) + (-1 : Int32))), .val (.int (0 : Int32))] [])) (fun tZ kZ => XS.goto X24.here hx rfl (pc0 := 69) (pc' := 22) rfl (hb hby d27_69) (by decide) (by decide) kZ) ?_
      obtain ⟨X2_, hXe1⟩ : ∃ z : Nat, z = X1_ / 100 := ⟨_, rfl⟩
      rw [← hXe1] at hp2 hx2_ hq1
      obtain ⟨k2_, hke1⟩ : ∃ z : Nat, z = k1_ - 1 - 1 := ⟨_, rfl⟩
      rw [← hke1] at hb1
      have hp2' : X2_ < 10 ^ k2_ := by rw [show k2_ = k1_ - 2 from by omega]; exact hp2
      have hkk2 : k2_ ≤ 6 := by omega
      refine own_by (S' := T24.setTop (mkF m 23 #[.val (.int ((i0 / (100 : Int32)) / (100 : Int32))), .val (.int sz), .val (.ref v), .val (.int ((i0 / (100 : Int32)) / (100 : Int32))), .val (.int ((((i0 / (100 : Int32)) / (100 : Int32)) * (100 : Int32)) - (i0 / (100 : Int32)))), .val (.int ((((sz + (-1 : Int32)) + (-1 : Int32)) + (-1 : Int32)) + (-1 : Int32))), .val (.int (0 : Int32))] [(.int ((i0 / (100 : Int32)) / (100 : Int32)))])) (fun tZ kZ => XS.iloadN X24.here hx rfl (hb hby d27_22) rfl kZ) ?_
      refine own_by (S' := T24.setTop (mkF m 25 #[.val (.int ((i0 / (100 : Int32)) / (100 : Int32))), .val (.int sz), .val (.ref v), .val (.int ((i0 / (100 : Int32)) / (100 : Int32))), .val (.int ((((i0 / (100 : Int32)) / (100 : Int32)) * (100 : Int32)) - (i0 / (100 : Int32)))), .val (.int ((((sz + (-1 : Int32)) + (-1 : Int32)) + (-1 : Int32)) + (-1 : Int32))), .val (.int (0 : Int32))] [(.int (-100 : Int32)), (.int ((i0 / (100 : Int32)) / (100 : Int32)))])) (fun tZ kZ => XS.bipush X24.here hx rfl (hb hby d27_23) kZ) ?_
      by_cases hc2 : (-100 : Int32) < ((i0 / (100 : Int32)) / (100 : Int32))
      · refine own_by (S' := T24.setTop (mkF m 72 #[.val (.int ((i0 / (100 : Int32)) / (100 : Int32))), .val (.int sz), .val (.ref v), .val (.int ((i0 / (100 : Int32)) / (100 : Int32))), .val (.int ((((i0 / (100 : Int32)) / (100 : Int32)) * (100 : Int32)) - (i0 / (100 : Int32)))), .val (.int ((((sz + (-1 : Int32)) + (-1 : Int32)) + (-1 : Int32)) + (-1 : Int32))), .val (.int (0 : Int32))] [])) (fun tZ kZ => XS.icmpYes X24.here hx rfl (pc0 := 25) (pc' := 72) rfl (hb hby d27_25) rfl (tlt hc2).2.2.1 (by decide) (by decide) kZ) ?_
        have hX100 : X2_ < 100 := by
          rw [own_ltI] at hc2
          have e : (-100 : Int32).toInt = -100 := rfl
          omega
        have hk1 := own_pw1 hp2' hx2_
        have hpa := own_dec1 hb1 hk1 (by omega)
        have hni : (-((i0 / (100 : Int32)) / (100 : Int32))).toInt = ((X2_ : Nat) : Int) := by
          have a := c_ineg ((i0 / (100 : Int32)) / (100 : Int32))
          have b := rng32 (-((i0 / (100 : Int32)) / (100 : Int32)))
          omega
        refine own_by (S' := T24.setTop (mkF m 73 #[.val (.int ((i0 / (100 : Int32)) / (100 : Int32))), .val (.int sz), .val (.ref v), .val (.int ((i0 / (100 : Int32)) / (100 : Int32))), .val (.int ((((i0 / (100 : Int32)) / (100 : Int32)) * (100 : Int32)) - (i0 / (100 : Int32)))), .val (.int ((((sz + (-1 : Int32)) + (-1 : Int32)) + (-1 : Int32)) + (-1 : Int32))), .val (.int (0 : Int32))] [(.ref v)])) (fun tZ kZ => XS.aloadN X24.here hx rfl (hb hby d27_72) rfl rfl kZ) ?_
        refine own_by (S' := T24.setTop (mkF m 76 #[.val (.int ((i0 / (100 : Int32)) / (100 : Int32))), .val (.int sz), .val (.ref v), .val (.int ((i0 / (100 : Int32)) / (100 : Int32))), .val (.int ((((i0 / (100 : Int32)) / (100 : Int32)) * (100 : Int32)) - (i0 / (100 : Int32)))), .val (.int (((((sz + (-1 : Int32)) + (-1 : Int32)) + (-1 : Int32)) + (-1 : Int32)) + (-1 : Int32))), .val (.int (0 : Int32))] [(.ref v)])) (fun tZ kZ => XS.iinc X24.here hx rfl (hb hby d27_73) rfl (l' := #[.val (.int ((i0 / (100 : Int32)) / (100 : Int32))), .val (.int sz), .val (.ref v), .val (.int ((i0 / (100 : Int32)) / (100 : Int32))), .val (.int ((((i0 / (100 : Int32)) / (100 : Int32)) * (100 : Int32)) - (i0 / (100 : Int32)))), .val (.int (((((sz + (-1 : Int32)) + (-1 : Int32)) + (-1 : Int32)) + (-1 : Int32)) + (-1 : Int32))), .val (.int (0 : Int32))]) rfl kZ) ?_
        refine own_by (S' := T24.setTop (mkF m 78 #[.val (.int ((i0 / (100 : Int32)) / (100 : Int32))), .val (.int sz), .val (.ref v), .val (.int ((i0 / (100 : Int32)) / (100 : Int32))), .val (.int ((((i0 / (100 : Int32)) / (100 : Int32)) * (100 : Int32)) - (i0 / (100 : Int32)))), .val (.int (((((sz + (-1 : Int32)) + (-1 : Int32)) + (-1 : Int32)) + (-1 : Int32)) + (-1 : Int32))), .val (.int (0 : Int32))] [(.int (((((sz + (-1 : Int32)) + (-1 : Int32)) + (-1 : Int32)) + (-1 : Int32)) + (-1 : Int32))), (.ref v)])) (fun tZ kZ => XS.iload X24.here hx rfl (hb hby d27_76) rfl kZ) ?_
        obtain ⟨T25, X25, e25, st25⟩ := getS2 X24 hx hZ hown (host := "") (Or.inl (hw_ hw 153 rfl)) Via.refl e24 S_o_24 (g := (mkF m 78 #[.val (.int ((i0 / (100 : Int32)) / (100 : Int32))), .val (.int sz), .val (.ref v), .val (.int ((i0 / (100 : Int32)) / (100 : Int32))), .val (.int ((((i0 / (100 : Int32)) / (100 : Int32)) * (100 : Int32)) - (i0 / (100 : Int32)))), .val (.int (((((sz + (-1 : Int32)) + (-1 : Int32)) + (-1 : Int32)) + (-1 : Int32)) + (-1 : Int32))), .val (.int (0 : Int32))] [(.int (((((sz + (-1 : Int32)) + (-1 : Int32)) + (-1 : Int32)) + (-1 : Int32)) + (-1 : Int32))), (.ref v)])) rfl (hb hby d27_78)
        refine own_by (S' := T25.setTop (mkF m 81 #[.val (.int ((i0 / (100 : Int32)) / (100 : Int32))), .val (.int sz), .val (.ref v), .val (.int ((i0 / (100 : Int32)) / (100 : Int32))), .val (.int ((((i0 / (100 : Int32)) / (100 : Int32)) * (100 : Int32)) - (i0 / (100 : Int32)))), .val (.int (((((sz + (-1 : Int32)) + (-1 : Int32)) + (-1 : Int32)) + (-1 : Int32)) + (-1 : Int32))), .val (.int (0 : Int32))] [(.ref do_), (.int (((((sz + (-1 : Int32)) + (-1 : Int32)) + (-1 : Int32)) + (-1 : Int32)) + (-1 : Int32))), (.ref v)])) st25 ?_
        refine own_by (S' := T25.setTop (mkF m 82 #[.val (.int ((i0 / (100 : Int32)) / (100 : Int32))), .val (.int sz), .val (.ref v), .val (.int ((i0 / (100 : Int32)) / (100 : Int32))), .val (.int ((((i0 / (100 : Int32)) / (100 : Int32)) * (100 : Int32)) - (i0 / (100 : Int32)))), .val (.int (((((sz + (-1 : Int32)) + (-1 : Int32)) + (-1 : Int32)) + (-1 : Int32)) + (-1 : Int32))), .val (.int (0 : Int32))] [(.int ((i0 / (100 : Int32)) / (100 : Int32))), (.ref do_), (.int (((((sz + (-1 : Int32)) + (-1 : Int32)) + (-1 : Int32)) + (-1 : Int32)) + (-1 : Int32))), (.ref v)])) (fun tZ kZ => XS.iloadN X25.here hx rfl (hb hby d27_81) rfl kZ) ?_
        refine own_by (S' := T25.setTop (mkF m 83 #[.val (.int ((i0 / (100 : Int32)) / (100 : Int32))), .val (.int sz), .val (.ref v), .val (.int ((i0 / (100 : Int32)) / (100 : Int32))), .val (.int ((((i0 / (100 : Int32)) / (100 : Int32)) * (100 : Int32)) - (i0 / (100 : Int32)))), .val (.int (((((sz + (-1 : Int32)) + (-1 : Int32)) + (-1 : Int32)) + (-1 : Int32)) + (-1 : Int32))), .val (.int (0 : Int32))] [(.int (-((i0 / (100 : Int32)) / (100 : Int32)))), (.ref do_), (.int (((((sz + (-1 : Int32)) + (-1 : Int32)) + (-1 : Int32)) + (-1 : Int32)) + (-1 : Int32))), (.ref v)])) (fun tZ kZ => XS.ineg X25.here hx rfl (hb hby d27_82) rfl kZ) ?_
        obtain ⟨dz26, hdz26⟩ := e_o (X2_) (by omega)
        refine own_by (S' := T25.setTop (mkF m 84 #[.val (.int ((i0 / (100 : Int32)) / (100 : Int32))), .val (.int sz), .val (.ref v), .val (.int ((i0 / (100 : Int32)) / (100 : Int32))), .val (.int ((((i0 / (100 : Int32)) / (100 : Int32)) * (100 : Int32)) - (i0 / (100 : Int32)))), .val (.int (((((sz + (-1 : Int32)) + (-1 : Int32)) + (-1 : Int32)) + (-1 : Int32)) + (-1 : Int32))), .val (.int (0 : Int32))] [(.int dz26), (.int (((((sz + (-1 : Int32)) + (-1 : Int32)) + (-1 : Int32)) + (-1 : Int32)) + (-1 : Int32))), (.ref v)])) (fun tZ kZ => X25.baloadBytes hx (j := (-((i0 / (100 : Int32)) / (100 : Int32)))) (v := (.int dz26)) (by rw [e25]; exact A_o_24.1) (State.isArrayOf_alike hZ.alike A_o_24.2.1) A_o_24.2.2 (by rintro (q | q); exact own_nneg hni q; rw [own_tnc hni, z_o] at q; omega) (by rw [own_tnc hni]; exact hdz26) (g := (mkF m 83 #[.val (.int ((i0 / (100 : Int32)) / (100 : Int32))), .val (.int sz), .val (.ref v), .val (.int ((i0 / (100 : Int32)) / (100 : Int32))), .val (.int ((((i0 / (100 : Int32)) / (100 : Int32)) * (100 : Int32)) - (i0 / (100 : Int32)))), .val (.int (((((sz + (-1 : Int32)) + (-1 : Int32)) + (-1 : Int32)) + (-1 : Int32)) + (-1 : Int32))), .val (.int (0 : Int32))] [(.int (-((i0 / (100 : Int32)) / (100 : Int32)))), (.ref do_), (.int (((((sz + (-1 : Int32)) + (-1 : Int32)) + (-1 : Int32)) + (-1 : Int32)) + (-1 : Int32))), (.ref v)])) rfl rfl (hb hby d27_83) _ kZ) ?_
        obtain ⟨cc27, Ar27, hc27, hl27⟩ := id V_v_w24
        have hin27 := OwnA.inb (j := (((((sz + (-1 : Int32)) + (-1 : Int32)) + (-1 : Int32)) + (-1 : Int32)) + (-1 : Int32))) hl27 (own_nneg hpa) (by simp only [List.length_set, hl]; rw [own_tnc hpa]; omega)
        obtain ⟨T27, h27, X27, e27, W27, st27⟩ := stB X25 hx hZ e25 Ar27 (j := (((((sz + (-1 : Int32)) + (-1 : Int32)) + (-1 : Int32)) + (-1 : Int32)) + (-1 : Int32))) hin27 (g := (mkF m 84 #[.val (.int ((i0 / (100 : Int32)) / (100 : Int32))), .val (.int sz), .val (.ref v), .val (.int ((i0 / (100 : Int32)) / (100 : Int32))), .val (.int ((((i0 / (100 : Int32)) / (100 : Int32)) * (100 : Int32)) - (i0 / (100 : Int32)))), .val (.int (((((sz + (-1 : Int32)) + (-1 : Int32)) + (-1 : Int32)) + (-1 : Int32)) + (-1 : Int32))), .val (.int (0 : Int32))] [(.int dz26), (.int (((((sz + (-1 : Int32)) + (-1 : Int32)) + (-1 : Int32)) + (-1 : Int32)) + (-1 : Int32))), (.ref v)])) rfl rfl (hb hby d27_84)
        have N27 := Fr.snoc X27 N24 g_v
        have S_o_27 := S_o_24.wr W27
        have S_t_27 := S_t_24.wr W27
        have A_o_27 := A_o_24.other W27 nov
        have A_t_27 := A_t_24.other W27 ntv
        have Zs27 : n0 ≤ h27.size := Nat.le_trans Zs24 (Keep.of_wr W27).1
        have K27 := K24.wr W27 (Or.inl (List.mem_of_getElem? (i := 0) rfl))
        have V_v_w27 := V_v_w24.set W27
        refine own_by (S' := T27.setTop (mkF m 85 #[.val (.int ((i0 / (100 : Int32)) / (100 : Int32))), .val (.int sz), .val (.ref v), .val (.int ((i0 / (100 : Int32)) / (100 : Int32))), .val (.int ((((i0 / (100 : Int32)) / (100 : Int32)) * (100 : Int32)) - (i0 / (100 : Int32)))), .val (.int (((((sz + (-1 : Int32)) + (-1 : Int32)) + (-1 : Int32)) + (-1 : Int32)) + (-1 : Int32))), .val (.int (0 : Int32))] [])) st27 ?_
        refine own_by (S' := T27.setTop (mkF m 86 #[.val (.int ((i0 / (100 : Int32)) / (100 : Int32))), .val (.int sz), .val (.ref v), .val (.int ((i0 / (100 : Int32)) / (100 : Int32))), .val (.int ((((i0 / (100 : Int32)) / (100 : Int32)) * (100 : Int32)) - (i0 / (100 : Int32)))), .val (.int (((((sz + (-1 : Int32)) + (-1 : Int32)) + (-1 : Int32)) + (-1 : Int32)) + (-1 : Int32))), .val (.int (0 : Int32))] [(.int ((i0 / (100 : Int32)) / (100 : Int32)))])) (fun tZ kZ => XS.iloadN X27.here hx rfl (hb hby d27_85) rfl kZ) ?_
        refine own_by (S' := T27.setTop (mkF m 88 #[.val (.int ((i0 / (100 : Int32)) / (100 : Int32))), .val (.int sz), .val (.ref v), .val (.int ((i0 / (100 : Int32)) / (100 : Int32))), .val (.int ((((i0 / (100 : Int32)) / (100 : Int32)) * (100 : Int32)) - (i0 / (100 : Int32)))), .val (.int (((((sz + (-1 : Int32)) + (-1 : Int32)) + (-1 : Int32)) + (-1 : Int32)) + (-1 : Int32))), .val (.int (0 : Int32))] [(.int (-9 : Int32)), (.int ((i0 / (100 : Int32)) / (100 : Int32)))])) (fun tZ kZ => XS.bipush X27.here hx rfl (hb hby d27_86) kZ) ?_
        by_cases hnine : ((i0 / (100 : Int32)) / (100 : Int32)) < (-9 : Int32)
        · refine own_by (S' := T27.setTop (mkF m 91 #[.val (.int ((i0 / (100 : Int32)) / (100 : Int32))), .val (.int sz), .val (.ref v), .val (.int ((i0 / (100 : Int32)) / (100 : Int32))), .val (.int ((((i0 / (100 : Int32)) / (100 : Int32)) * (100 : Int32)) - (i0 / (100 : Int32)))), .val (.int (((((sz + (-1 : Int32)) + (-1 : Int32)) + (-1 : Int32)) + (-1 : Int32)) + (-1 : Int32))), .val (.int (0 : Int32))] [])) (fun tZ kZ => XS.icmpNo X27.here hx rfl (hb hby d27_88) rfl (tlt hnine).2.1 kZ) ?_
          have hX10 : 10 ≤ X2_ := by
            rw [own_ltI] at hnine
            have e : (-9 : Int32).toInt = -9 := rfl
            omega
          have hk2 := own_pw2 hp2' hX10
          have hpb := own_dec1 hpa (by omega) (by omega)
          refine own_by (S' := T27.setTop (mkF m 92 #[.val (.int ((i0 / (100 : Int32)) / (100 : Int32))), .val (.int sz), .val (.ref v), .val (.int ((i0 / (100 : Int32)) / (100 : Int32))), .val (.int ((((i0 / (100 : Int32)) / (100 : Int32)) * (100 : Int32)) - (i0 / (100 : Int32)))), .val (.int (((((sz + (-1 : Int32)) + (-1 : Int32)) + (-1 : Int32)) + (-1 : Int32)) + (-1 : Int32))), .val (.int (0 : Int32))] [(.ref v)])) (fun tZ kZ => XS.aloadN X27.here hx rfl (hb hby d27_91) rfl rfl kZ) ?_
          refine own_by (S' := T27.setTop (mkF m 95 #[.val (.int ((i0 / (100 : Int32)) / (100 : Int32))), .val (.int sz), .val (.ref v), .val (.int ((i0 / (100 : Int32)) / (100 : Int32))), .val (.int ((((i0 / (100 : Int32)) / (100 : Int32)) * (100 : Int32)) - (i0 / (100 : Int32)))), .val (.int ((((((sz + (-1 : Int32)) + (-1 : Int32)) + (-1 : Int32)) + (-1 : Int32)) + (-1 : Int32)) + (-1 : Int32))), .val (.int (0 : Int32))] [(.ref v)])) (fun tZ kZ => XS.iinc X27.here hx rfl (hb hby d27_92) rfl (l' := #[.val (.int ((i0 / (100 : Int32)) / (100 : Int32))), .val (.int sz), .val (.ref v), .val (.int ((i0 / (100 : Int32)) / (100 : Int32))), .val (.int ((((i0 / (100 : Int32)) / (100 : Int32)) * (100 : Int32)) - (i0 / (100 : Int32)))), .val (.int ((((((sz + (-1 : Int32)) + (-1 : Int32)) + (-1 : Int32)) + (-1 : Int32)) + (-1 : Int32)) + (-1 : Int32))), .val (.int (0 : Int32))]) rfl kZ) ?_
          refine own_by (S' := T27.setTop (mkF m 97 #[.val (.int ((i0 / (100 : Int32)) / (100 : Int32))), .val (.int sz), .val (.ref v), .val (.int ((i0 / (100 : Int32)) / (100 : Int32))), .val (.int ((((i0 / (100 : Int32)) / (100 : Int32)) * (100 : Int32)) - (i0 / (100 : Int32)))), .val (.int ((((((sz + (-1 : Int32)) + (-1 : Int32)) + (-1 : Int32)) + (-1 : Int32)) + (-1 : Int32)) + (-1 : Int32))), .val (.int (0 : Int32))] [(.int ((((((sz + (-1 : Int32)) + (-1 : Int32)) + (-1 : Int32)) + (-1 : Int32)) + (-1 : Int32)) + (-1 : Int32))), (.ref v)])) (fun tZ kZ => XS.iload X27.here hx rfl (hb hby d27_95) rfl kZ) ?_
          obtain ⟨T28, X28, e28, st28⟩ := getS2 X27 hx hZ hown (host := "") (Or.inl (hw_ hw 271 rfl)) Via.refl e27 S_t_27 (g := (mkF m 97 #[.val (.int ((i0 / (100 : Int32)) / (100 : Int32))), .val (.int sz), .val (.ref v), .val (.int ((i0 / (100 : Int32)) / (100 : Int32))), .val (.int ((((i0 / (100 : Int32)) / (100 : Int32)) * (100 : Int32)) - (i0 / (100 : Int32)))), .val (.int ((((((sz + (-1 : Int32)) + (-1 : Int32)) + (-1 : Int32)) + (-1 : Int32)) + (-1 : Int32)) + (-1 : Int32))), .val (.int (0 : Int32))] [(.int ((((((sz + (-1 : Int32)) + (-1 : Int32)) + (-1 : Int32)) + (-1 : Int32)) + (-1 : Int32)) + (-1 : Int32))), (.ref v)])) rfl (hb hby d27_97)
          refine own_by (S' := T28.setTop (mkF m 100 #[.val (.int ((i0 / (100 : Int32)) / (100 : Int32))), .val (.int sz), .val (.ref v), .val (.int ((i0 / (100 : Int32)) / (100 : Int32))), .val (.int ((((i0 / (100 : Int32)) / (100 : Int32)) * (100 : Int32)) - (i0 / (100 : Int32)))), .val (.int ((((((sz + (-1 : Int32)) + (-1 : Int32)) + (-1 : Int32)) + (-1 : Int32)) + (-1 : Int32)) + (-1 : Int32))), .val (.int (0 : Int32))] [(.ref dt), (.int ((((((sz + (-1 : Int32)) + (-1 : Int32)) + (-1 : Int32)) + (-1 : Int32)) + (-1 : Int32)) + (-1 : Int32))), (.ref v)])) st28 ?_
          refine own_by (S' := T28.setTop (mkF m 101 #[.val (.int ((i0 / (100 : Int32)) / (100 : Int32))), .val (.int sz), .val (.ref v), .val (.int ((i0 / (100 : Int32)) / (100 : Int32))), .val (.int ((((i0 / (100 : Int32)) / (100 : Int32)) * (100 : Int32)) - (i0 / (100 : Int32)))), .val (.int ((((((sz + (-1 : Int32)) + (-1 : Int32)) + (-1 : Int32)) + (-1 : Int32)) + (-1 : Int32)) + (-1 : Int32))), .val (.int (0 : Int32))] [(.int ((i0 / (100 : Int32)) / (100 : Int32))), (.ref dt), (.int ((((((sz + (-1 : Int32)) + (-1 : Int32)) + (-1 : Int32)) + (-1 : Int32)) + (-1 : Int32)) + (-1 : Int32))), (.ref v)])) (fun tZ kZ => XS.iloadN X28.here hx rfl (hb hby d27_100) rfl kZ) ?_
          refine own_by (S' := T28.setTop (mkF m 102 #[.val (.int ((i0 / (100 : Int32)) / (100 : Int32))), .val (.int sz), .val (.ref v), .val (.int ((i0 / (100 : Int32)) / (100 : Int32))), .val (.int ((((i0 / (100 : Int32)) / (100 : Int32)) * (100 : Int32)) - (i0 / (100 : Int32)))), .val (.int ((((((sz + (-1 : Int32)) + (-1 : Int32)) + (-1 : Int32)) + (-1 : Int32)) + (-1 : Int32)) + (-1 : Int32))), .val (.int (0 : Int32))] [(.int (-((i0 / (100 : Int32)) / (100 : Int32)))), (.ref dt), (.int ((((((sz + (-1 : Int32)) + (-1 : Int32)) + (-1 : Int32)) + (-1 : Int32)) + (-1 : Int32)) + (-1 : Int32))), (.ref v)])) (fun tZ kZ => XS.ineg X28.here hx rfl (hb hby d27_101) rfl kZ) ?_
          obtain ⟨dz29, hdz29⟩ := e_t (X2_) (by omega)
          refine own_by (S' := T28.setTop (mkF m 103 #[.val (.int ((i0 / (100 : Int32)) / (100 : Int32))), .val (.int sz), .val (.ref v), .val (.int ((i0 / (100 : Int32)) / (100 : Int32))), .val (.int ((((i0 / (100 : Int32)) / (100 : Int32)) * (100 : Int32)) - (i0 / (100 : Int32)))), .val (.int ((((((sz + (-1 : Int32)) + (-1 : Int32)) + (-1 : Int32)) + (-1 : Int32)) + (-1 : Int32)) + (-1 : Int32))), .val (.int (0 : Int32))] [(.int dz29), (.int ((((((sz + (-1 : Int32)) + (-1 : Int32)) + (-1 : Int32)) + (-1 : Int32)) + (-1 : Int32)) + (-1 : Int32))), (.ref v)])) (fun tZ kZ => X28.baloadBytes hx (j := (-((i0 / (100 : Int32)) / (100 : Int32)))) (v := (.int dz29)) (by rw [e28]; exact A_t_27.1) (State.isArrayOf_alike hZ.alike A_t_27.2.1) A_t_27.2.2 (by rintro (q | q); exact own_nneg hni q; rw [own_tnc hni, z_t] at q; omega) (by rw [own_tnc hni]; exact hdz29) (g := (mkF m 102 #[.val (.int ((i0 / (100 : Int32)) / (100 : Int32))), .val (.int sz), .val (.ref v), .val (.int ((i0 / (100 : Int32)) / (100 : Int32))), .val (.int ((((i0 / (100 : Int32)) / (100 : Int32)) * (100 : Int32)) - (i0 / (100 : Int32)))), .val (.int ((((((sz + (-1 : Int32)) + (-1 : Int32)) + (-1 : Int32)) + (-1 : Int32)) + (-1 : Int32)) + (-1 : Int32))), .val (.int (0 : Int32))] [(.int (-((i0 / (100 : Int32)) / (100 : Int32)))), (.ref dt), (.int ((((((sz + (-1 : Int32)) + (-1 : Int32)) + (-1 : Int32)) + (-1 : Int32)) + (-1 : Int32)) + (-1 : Int32))), (.ref v)])) rfl rfl (hb hby d27_102) _ kZ) ?_
          obtain ⟨cc30, Ar30, hc30, hl30⟩ := id V_v_w27
          have hin30 := OwnA.inb (j := ((((((sz + (-1 : Int32)) + (-1 : Int32)) + (-1 : Int32)) + (-1 : Int32)) + (-1 : Int32)) + (-1 : Int32))) hl30 (own_nneg hpb) (by simp only [List.length_set, hl]; rw [own_tnc hpb]; omega)
          obtain ⟨T30, h30, X30, e30, W30, st30⟩ := stB X28 hx hZ e28 Ar30 (j := ((((((sz + (-1 : Int32)) + (-1 : Int32)) + (-1 : Int32)) + (-1 : Int32)) + (-1 : Int32)) + (-1 : Int32))) hin30 (g := (mkF m 103 #[.val (.int ((i0 / (100 : Int32)) / (100 : Int32))), .val (.int sz), .val (.ref v), .val (.int ((i0 / (100 : Int32)) / (100 : Int32))), .val (.int ((((i0 / (100 : Int32)) / (100 : Int32)) * (100 : Int32)) - (i0 / (100 : Int32)))), .val (.int ((((((sz + (-1 : Int32)) + (-1 : Int32)) + (-1 : Int32)) + (-1 : Int32)) + (-1 : Int32)) + (-1 : Int32))), .val (.int (0 : Int32))] [(.int dz29), (.int ((((((sz + (-1 : Int32)) + (-1 : Int32)) + (-1 : Int32)) + (-1 : Int32)) + (-1 : Int32)) + (-1 : Int32))), (.ref v)])) rfl rfl (hb hby d27_103)
          have N30 := Fr.snoc X30 N27 g_v
          have S_o_30 := S_o_27.wr W30
          have S_t_30 := S_t_27.wr W30
          have A_o_30 := A_o_27.other W30 nov
          have A_t_30 := A_t_27.other W30 ntv
          have Zs30 : n0 ≤ h30.size := Nat.le_trans Zs27 (Keep.of_wr W30).1
          have K30 := K27.wr W30 (Or.inl (List.mem_of_getElem? (i := 0) rfl))
          have V_v_w30 := V_v_w27.set W30
          refine own_by (S' := T30.setTop (mkF m 104 #[.val (.int ((i0 / (100 : Int32)) / (100 : Int32))), .val (.int sz), .val (.ref v), .val (.int ((i0 / (100 : Int32)) / (100 : Int32))), .val (.int ((((i0 / (100 : Int32)) / (100 : Int32)) * (100 : Int32)) - (i0 / (100 : Int32)))), .val (.int ((((((sz + (-1 : Int32)) + (-1 : Int32)) + (-1 : Int32)) + (-1 : Int32)) + (-1 : Int32)) + (-1 : Int32))), .val (.int (0 : Int32))] [])) st30 ?_
          refine own_by (S' := T30.setTop (mkF m 106 #[.val (.int ((i0 / (100 : Int32)) / (100 : Int32))), .val (.int sz), .val (.ref v), .val (.int ((i0 / (100 : Int32)) / (100 : Int32))), .val (.int ((((i0 / (100 : Int32)) / (100 : Int32)) * (100 : Int32)) - (i0 / (100 : Int32)))), .val (.int ((((((sz + (-1 : Int32)) + (-1 : Int32)) + (-1 : Int32)) + (-1 : Int32)) + (-1 : Int32)) + (-1 : Int32))), .val (.int (0 : Int32))] [(.int (0 : Int32))])) (fun tZ kZ => XS.iload X30.here hx rfl (hb hby d27_104) rfl kZ) ?_
          refine own_by (S' := T30.setTop (mkF m 118 #[.val (.int ((i0 / (100 : Int32)) / (100 : Int32))), .val (.int sz), .val (.ref v), .val (.int ((i0 / (100 : Int32)) / (100 : Int32))), .val (.int ((((i0 / (100 : Int32)) / (100 : Int32)) * (100 : Int32)) - (i0 / (100 : Int32)))), .val (.int ((((((sz + (-1 : Int32)) + (-1 : Int32)) + (-1 : Int32)) + (-1 : Int32)) + (-1 : Int32)) + (-1 : Int32))), .val (.int (0 : Int32))] [])) (fun tZ kZ => XS.ifYes X30.here hx rfl (pc0 := 106) (pc' := 118) rfl (hb hby d27_106) rfl ((if0 _ _).trans (teq rfl).1) (by decide) (by decide) kZ) ?_
          refine own_by (S' := T30.setTop (mkF m 120 #[.val (.int ((i0 / (100 : Int32)) / (100 : Int32))), .val (.int sz), .val (.ref v), .val (.int ((i0 / (100 : Int32)) / (100 : Int32))), .val (.int ((((i0 / (100 : Int32)) / (100 : Int32)) * (100 : Int32)) - (i0 / (100 : Int32)))), .val (.int ((((((sz + (-1 : Int32)) + (-1 : Int32)) + (-1 : Int32)) + (-1 : Int32)) + (-1 : Int32)) + (-1 : Int32))), .val (.int (0 : Int32))] [(.int ((((((sz + (-1 : Int32)) + (-1 : Int32)) + (-1 : Int32)) + (-1 : Int32)) + (-1 : Int32)) + (-1 : Int32)))])) (fun tZ kZ => XS.iload X30.here hx rfl (hb hby d27_118) rfl kZ) ?_
          exact own_retI X30 hx (t := .int) Bd.returns (by simp) rfl (hb hby d27_120) Bd.notSynchronized (by decide) (by decide) (show QGc Z v kv h0 n0 _ T30.heap _ from by rw [e30]; exact ⟨_, rfl, N30, K30, _, V_v_w30, by simp only [List.length_set, hl], by repeat (first | exact hf | apply own_fitset)⟩)
        · refine own_by (S' := T27.setTop (mkF m 104 #[.val (.int ((i0 / (100 : Int32)) / (100 : Int32))), .val (.int sz), .val (.ref v), .val (.int ((i0 / (100 : Int32)) / (100 : Int32))), .val (.int ((((i0 / (100 : Int32)) / (100 : Int32)) * (100 : Int32)) - (i0 / (100 : Int32)))), .val (.int (((((sz + (-1 : Int32)) + (-1 : Int32)) + (-1 : Int32)) + (-1 : Int32)) + (-1 : Int32))), .val (.int (0 : Int32))] [])) (fun tZ kZ => XS.icmpYes X27.here hx rfl (pc0 := 88) (pc' := 104) rfl (hb hby d27_88) rfl (flt hnine).2.1 (by decide) (by decide) kZ) ?_
          refine own_by (S' := T27.setTop (mkF m 106 #[.val (.int ((i0 / (100 : Int32)) / (100 : Int32))), .val (.int sz), .val (.ref v), .val (.int ((i0 / (100 : Int32)) / (100 : Int32))), .val (.int ((((i0 / (100 : Int32)) / (100 : Int32)) * (100 : Int32)) - (i0 / (100 : Int32)))), .val (.int (((((sz + (-1 : Int32)) + (-1 : Int32)) + (-1 : Int32)) + (-1 : Int32)) + (-1 : Int32))), .val (.int (0 : Int32))] [(.int (0 : Int32))])) (fun tZ kZ => XS.iload X27.here hx rfl (hb hby d27_104) rfl kZ) ?_
          refine own_by (S' := T27.setTop (mkF m 118 #[.val (.int ((i0 / (100 : Int32)) / (100 : Int32))), .val (.int sz), .val (.ref v), .val (.int ((i0 / (100 : Int32)) / (100 : Int32))), .val (.int ((((i0 / (100 : Int32)) / (100 : Int32)) * (100 : Int32)) - (i0 / (100 : Int32)))), .val (.int (((((sz + (-1 : Int32)) + (-1 : Int32)) + (-1 : Int32)) + (-1 : Int32)) + (-1 : Int32))), .val (.int (0 : Int32))] [])) (fun tZ kZ => XS.ifYes X27.here hx rfl (pc0 := 106) (pc' := 118) rfl (hb hby d27_106) rfl ((if0 _ _).trans (teq rfl).1) (by decide) (by decide) kZ) ?_
          refine own_by (S' := T27.setTop (mkF m 120 #[.val (.int ((i0 / (100 : Int32)) / (100 : Int32))), .val (.int sz), .val (.ref v), .val (.int ((i0 / (100 : Int32)) / (100 : Int32))), .val (.int ((((i0 / (100 : Int32)) / (100 : Int32)) * (100 : Int32)) - (i0 / (100 : Int32)))), .val (.int (((((sz + (-1 : Int32)) + (-1 : Int32)) + (-1 : Int32)) + (-1 : Int32)) + (-1 : Int32))), .val (.int (0 : Int32))] [(.int (((((sz + (-1 : Int32)) + (-1 : Int32)) + (-1 : Int32)) + (-1 : Int32)) + (-1 : Int32)))])) (fun tZ kZ => XS.iload X27.here hx rfl (hb hby d27_118) rfl kZ) ?_
          exact own_retI X27 hx (t := .int) Bd.returns (by simp) rfl (hb hby d27_120) Bd.notSynchronized (by decide) (by decide) (show QGc Z v kv h0 n0 _ T27.heap _ from by rw [e27]; exact ⟨_, rfl, N27, K27, _, V_v_w27, by simp only [List.length_set, hl], by repeat (first | exact hf | apply own_fitset)⟩)
      · refine own_by (S' := T24.setTop (mkF m 28 #[.val (.int ((i0 / (100 : Int32)) / (100 : Int32))), .val (.int sz), .val (.ref v), .val (.int ((i0 / (100 : Int32)) / (100 : Int32))), .val (.int ((((i0 / (100 : Int32)) / (100 : Int32)) * (100 : Int32)) - (i0 / (100 : Int32)))), .val (.int ((((sz + (-1 : Int32)) + (-1 : Int32)) + (-1 : Int32)) + (-1 : Int32))), .val (.int (0 : Int32))] [])) (fun tZ kZ => XS.icmpNo X24.here hx rfl (hb hby d27_25) rfl (flt hc2).2.2.1 kZ) ?_
        have hX_2 : 100 ≤ X2_ := by
          rw [own_ltI] at hc2
          have e : (-100 : Int32).toInt = -100 := rfl
          omega
        obtain ⟨hk3_2, hp3, hx3_⟩ := own_pw hp2' (by omega) hX_2
        obtain ⟨hq2, hr2⟩ := own_g1 hq1
        have ha2 := own_dec1 hb1 (by omega) (by omega)
        have hb2 := own_dec1 ha2 (by omega) (by omega)
        refine own_by (S' := T24.setTop (mkF m 29 #[.val (.int ((i0 / (100 : Int32)) / (100 : Int32))), .val (.int sz), .val (.ref v), .val (.int ((i0 / (100 : Int32)) / (100 : Int32))), .val (.int ((((i0 / (100 : Int32)) / (100 : Int32)) * (100 : Int32)) - (i0 / (100 : Int32)))), .val (.int ((((sz + (-1 : Int32)) + (-1 : Int32)) + (-1 : Int32)) + (-1 : Int32))), .val (.int (0 : Int32))] [(.int ((i0 / (100 : Int32)) / (100 : Int32)))])) (fun tZ kZ => XS.iloadN X24.here hx rfl (hb hby d27_28) rfl kZ) ?_
        refine own_by (S' := T24.setTop (mkF m 31 #[.val (.int ((i0 / (100 : Int32)) / (100 : Int32))), .val (.int sz), .val (.ref v), .val (.int ((i0 / (100 : Int32)) / (100 : Int32))), .val (.int ((((i0 / (100 : Int32)) / (100 : Int32)) * (100 : Int32)) - (i0 / (100 : Int32)))), .val (.int ((((sz + (-1 : Int32)) + (-1 : Int32)) + (-1 : Int32)) + (-1 : Int32))), .val (.int (0 : Int32))] [(.int (100 : Int32)), (.int ((i0 / (100 : Int32)) / (100 : Int32)))])) (fun tZ kZ => XS.bipush X24.here hx rfl (hb hby d27_29) kZ) ?_
        refine own_by (S' := T24.setTop (mkF m 32 #[.val (.int ((i0 / (100 : Int32)) / (100 : Int32))), .val (.int sz), .val (.ref v), .val (.int ((i0 / (100 : Int32)) / (100 : Int32))), .val (.int ((((i0 / (100 : Int32)) / (100 : Int32)) * (100 : Int32)) - (i0 / (100 : Int32)))), .val (.int ((((sz + (-1 : Int32)) + (-1 : Int32)) + (-1 : Int32)) + (-1 : Int32))), .val (.int (0 : Int32))] [(.int (((i0 / (100 : Int32)) / (100 : Int32)) / (100 : Int32)))])) (fun tZ kZ => XS.idiv X24.here hx rfl (hb hby d27_31) rfl (by decide) kZ) ?_
        refine own_by (S' := T24.setTop (mkF m 33 #[.val (.int ((i0 / (100 : Int32)) / (100 : Int32))), .val (.int sz), .val (.ref v), .val (.int (((i0 / (100 : Int32)) / (100 : Int32)) / (100 : Int32))), .val (.int ((((i0 / (100 : Int32)) / (100 : Int32)) * (100 : Int32)) - (i0 / (100 : Int32)))), .val (.int ((((sz + (-1 : Int32)) + (-1 : Int32)) + (-1 : Int32)) + (-1 : Int32))), .val (.int (0 : Int32))] [])) (fun tZ kZ => XS.istoreN X24.here hx rfl (hb hby d27_32) rfl (l' := #[.val (.int ((i0 / (100 : Int32)) / (100 : Int32))), .val (.int sz), .val (.ref v), .val (.int (((i0 / (100 : Int32)) / (100 : Int32)) / (100 : Int32))), .val (.int ((((i0 / (100 : Int32)) / (100 : Int32)) * (100 : Int32)) - (i0 / (100 : Int32)))), .val (.int ((((sz + (-1 : Int32)) + (-1 : Int32)) + (-1 : Int32)) + (-1 : Int32))), .val (.int (0 : Int32))]) rfl kZ) ?_
        refine own_by (S' := T24.setTop (mkF m 34 #[.val (.int ((i0 / (100 : Int32)) / (100 : Int32))), .val (.int sz), .val (.ref v), .val (.int (((i0 / (100 : Int32)) / (100 : Int32)) / (100 : Int32))), .val (.int ((((i0 / (100 : Int32)) / (100 : Int32)) * (100 : Int32)) - (i0 / (100 : Int32)))), .val (.int ((((sz + (-1 : Int32)) + (-1 : Int32)) + (-1 : Int32)) + (-1 : Int32))), .val (.int (0 : Int32))] [(.int (((i0 / (100 : Int32)) / (100 : Int32)) / (100 : Int32)))])) (fun tZ kZ => XS.iloadN X24.here hx rfl (hb hby d27_33) rfl kZ) ?_
        refine own_by (S' := T24.setTop (mkF m 36 #[.val (.int ((i0 / (100 : Int32)) / (100 : Int32))), .val (.int sz), .val (.ref v), .val (.int (((i0 / (100 : Int32)) / (100 : Int32)) / (100 : Int32))), .val (.int ((((i0 / (100 : Int32)) / (100 : Int32)) * (100 : Int32)) - (i0 / (100 : Int32)))), .val (.int ((((sz + (-1 : Int32)) + (-1 : Int32)) + (-1 : Int32)) + (-1 : Int32))), .val (.int (0 : Int32))] [(.int (100 : Int32)), (.int (((i0 / (100 : Int32)) / (100 : Int32)) / (100 : Int32)))])) (fun tZ kZ => XS.bipush X24.here hx rfl (hb hby d27_34) kZ) ?_
        refine own_by (S' := T24.setTop (mkF m 37 #[.val (.int ((i0 / (100 : Int32)) / (100 : Int32))), .val (.int sz), .val (.ref v), .val (.int (((i0 / (100 : Int32)) / (100 : Int32)) / (100 : Int32))), .val (.int ((((i0 / (100 : Int32)) / (100 : Int32)) * (100 : Int32)) - (i0 / (100 : Int32)))), .val (.int ((((sz + (-1 : Int32)) + (-1 : Int32)) + (-1 : Int32)) + (-1 : Int32))), .val (.int (0 : Int32))] [(.int ((((i0 / (100 : Int32)) / (100 : Int32)) / (100 : Int32)) * (100 : Int32)))])) (fun tZ kZ => XS.imul X24.here hx rfl (hb hby d27_36) rfl kZ) ?_
        refine own_by (S' := T24.setTop (mkF m 38 #[.val (.int ((i0 / (100 : Int32)) / (100 : Int32))), .val (.int sz), .val (.ref v), .val (.int (((i0 / (100 : Int32)) / (100 : Int32)) / (100 : Int32))), .val (.int ((((i0 / (100 : Int32)) / (100 : Int32)) * (100 : Int32)) - (i0 / (100 : Int32)))), .val (.int ((((sz + (-1 : Int32)) + (-1 : Int32)) + (-1 : Int32)) + (-1 : Int32))), .val (.int (0 : Int32))] [(.int ((i0 / (100 : Int32)) / (100 : Int32))), (.int ((((i0 / (100 : Int32)) / (100 : Int32)) / (100 : Int32)) * (100 : Int32)))])) (fun tZ kZ => XS.iloadN X24.here hx rfl (hb hby d27_37) rfl kZ) ?_
        refine own_by (S' := T24.setTop (mkF m 39 #[.val (.int ((i0 / (100 : Int32)) / (100 : Int32))), .val (.int sz), .val (.ref v), .val (.int (((i0 / (100 : Int32)) / (100 : Int32)) / (100 : Int32))), .val (.int ((((i0 / (100 : Int32)) / (100 : Int32)) * (100 : Int32)) - (i0 / (100 : Int32)))), .val (.int ((((sz + (-1 : Int32)) + (-1 : Int32)) + (-1 : Int32)) + (-1 : Int32))), .val (.int (0 : Int32))] [(.int (((((i0 / (100 : Int32)) / (100 : Int32)) / (100 : Int32)) * (100 : Int32)) - ((i0 / (100 : Int32)) / (100 : Int32))))])) (fun tZ kZ => XS.isub X24.here hx rfl (hb hby d27_38) rfl kZ) ?_
        refine own_by (S' := T24.setTop (mkF m 41 #[.val (.int ((i0 / (100 : Int32)) / (100 : Int32))), .val (.int sz), .val (.ref v), .val (.int (((i0 / (100 : Int32)) / (100 : Int32)) / (100 : Int32))), .val (.int (((((i0 / (100 : Int32)) / (100 : Int32)) / (100 : Int32)) * (100 : Int32)) - ((i0 / (100 : Int32)) / (100 : Int32)))), .val (.int ((((sz + (-1 : Int32)) + (-1 : Int32)) + (-1 : Int32)) + (-1 : Int32))), .val (.int (0 : Int32))] [])) (fun tZ kZ => XS.istore X24.here hx rfl (hb hby d27_39) rfl (l' := #[.val (.int ((i0 / (100 : Int32)) / (100 : Int32))), .val (.int sz), .val (.ref v), .val (.int (((i0 / (100 : Int32)) / (100 : Int32)) / (100 : Int32))), .val (.int (((((i0 / (100 : Int32)) / (100 : Int32)) / (100 : Int32)) * (100 : Int32)) - ((i0 / (100 : Int32)) / (100 : Int32)))), .val (.int ((((sz + (-1 : Int32)) + (-1 : Int32)) + (-1 : Int32)) + (-1 : Int32))), .val (.int (0 : Int32))]) rfl kZ) ?_
        refine own_by (S' := T24.setTop (mkF m 42 #[.val (.int ((i0 / (100 : Int32)) / (100 : Int32))), .val (.int sz), .val (.ref v), .val (.int (((i0 / (100 : Int32)) / (100 : Int32)) / (100 : Int32))), .val (.int (((((i0 / (100 : Int32)) / (100 : Int32)) / (100 : Int32)) * (100 : Int32)) - ((i0 / (100 : Int32)) / (100 : Int32)))), .val (.int ((((sz + (-1 : Int32)) + (-1 : Int32)) + (-1 : Int32)) + (-1 : Int32))), .val (.int (0 : Int32))] [(.int (((i0 / (100 : Int32)) / (100 : Int32)) / (100 : Int32)))])) (fun tZ kZ => XS.iloadN X24.here hx rfl (hb hby d27_41) rfl kZ) ?_
        refine own_by (S' := T24.setTop (mkF m 43 #[.val (.int (((i0 / (100 : Int32)) / (100 : Int32)) / (100 : Int32))), .val (.int sz), .val (.ref v), .val (.int (((i0 / (100 : Int32)) / (100 : Int32)) / (100 : Int32))), .val (.int (((((i0 / (100 : Int32)) / (100 : Int32)) / (100 : Int32)) * (100 : Int32)) - ((i0 / (100 : Int32)) / (100 : Int32)))), .val (.int ((((sz + (-1 : Int32)) + (-1 : Int32)) + (-1 : Int32)) + (-1 : Int32))), .val (.int (0 : Int32))] [])) (fun tZ kZ => XS.istoreN X24.here hx rfl (hb hby d27_42) rfl (l' := #[.val (.int (((i0 / (100 : Int32)) / (100 : Int32)) / (100 : Int32))), .val (.int sz), .val (.ref v), .val (.int (((i0 / (100 : Int32)) / (100 : Int32)) / (100 : Int32))), .val (.int (((((i0 / (100 : Int32)) / (100 : Int32)) / (100 : Int32)) * (100 : Int32)) - ((i0 / (100 : Int32)) / (100 : Int32)))), .val (.int ((((sz + (-1 : Int32)) + (-1 : Int32)) + (-1 : Int32)) + (-1 : Int32))), .val (.int (0 : Int32))]) rfl kZ) ?_
        refine own_by (S' := T24.setTop (mkF m 44 #[.val (.int (((i0 / (100 : Int32)) / (100 : Int32)) / (100 : Int32))), .val (.int sz), .val (.ref v), .val (.int (((i0 / (100 : Int32)) / (100 : Int32)) / (100 : Int32))), .val (.int (((((i0 / (100 : Int32)) / (100 : Int32)) / (100 : Int32)) * (100 : Int32)) - ((i0 / (100 : Int32)) / (100 : Int32)))), .val (.int ((((sz + (-1 : Int32)) + (-1 : Int32)) + (-1 : Int32)) + (-1 : Int32))), .val (.int (0 : Int32))] [(.ref v)])) (fun tZ kZ => XS.aloadN X24.here hx rfl (hb hby d27_43) rfl rfl kZ) ?_
        refine own_by (S' := T24.setTop (mkF m 47 #[.val (.int (((i0 / (100 : Int32)) / (100 : Int32)) / (100 : Int32))), .val (.int sz), .val (.ref v), .val (.int (((i0 / (100 : Int32)) / (100 : Int32)) / (100 : Int32))), .val (.int (((((i0 / (100 : Int32)) / (100 : Int32)) / (100 : Int32)) * (100 : Int32)) - ((i0 / (100 : Int32)) / (100 : Int32)))), .val (.int (((((sz + (-1 : Int32)) + (-1 : Int32)) + (-1 : Int32)) + (-1 : Int32)) + (-1 : Int32))), .val (.int (0 : Int32))] [(.ref v)])) (fun tZ kZ => XS.iinc X24.here hx rfl (hb hby d27_44) rfl (l' := #[.val (.int (((i0 / (100 : Int32)) / (100 : Int32)) / (100 : Int32))), .val (.int sz), .val (.ref v), .val (.int (((i0 / (100 : Int32)) / (100 : Int32)) / (100 : Int32))), .val (.int (((((i0 / (100 : Int32)) / (100 : Int32)) / (100 : Int32)) * (100 : Int32)) - ((i0 / (100 : Int32)) / (100 : Int32)))), .val (.int (((((sz + (-1 : Int32)) + (-1 : Int32)) + (-1 : Int32)) + (-1 : Int32)) + (-1 : Int32))), .val (.int (0 : Int32))]) rfl kZ) ?_
        refine own_by (S' := T24.setTop (mkF m 49 #[.val (.int (((i0 / (100 : Int32)) / (100 : Int32)) / (100 : Int32))), .val (.int sz), .val (.ref v), .val (.int (((i0 / (100 : Int32)) / (100 : Int32)) / (100 : Int32))), .val (.int (((((i0 / (100 : Int32)) / (100 : Int32)) / (100 : Int32)) * (100 : Int32)) - ((i0 / (100 : Int32)) / (100 : Int32)))), .val (.int (((((sz + (-1 : Int32)) + (-1 : Int32)) + (-1 : Int32)) + (-1 : Int32)) + (-1 : Int32))), .val (.int (0 : Int32))] [(.int (((((sz + (-1 : Int32)) + (-1 : Int32)) + (-1 : Int32)) + (-1 : Int32)) + (-1 : Int32))), (.ref v)])) (fun tZ kZ => XS.iload X24.here hx rfl (hb hby d27_47) rfl kZ) ?_
        obtain ⟨T31, X31, e31, st31⟩ := getS2 X24 hx hZ hown (host := "") (Or.inl (hw_ hw 153 rfl)) Via.refl e24 S_o_24 (g := (mkF m 49 #[.val (.int (((i0 / (100 : Int32)) / (100 : Int32)) / (100 : Int32))), .val (.int sz), .val (.ref v), .val (.int (((i0 / (100 : Int32)) / (100 : Int32)) / (100 : Int32))), .val (.int (((((i0 / (100 : Int32)) / (100 : Int32)) / (100 : Int32)) * (100 : Int32)) - ((i0 / (100 : Int32)) / (100 : Int32)))), .val (.int (((((sz + (-1 : Int32)) + (-1 : Int32)) + (-1 : Int32)) + (-1 : Int32)) + (-1 : Int32))), .val (.int (0 : Int32))] [(.int (((((sz + (-1 : Int32)) + (-1 : Int32)) + (-1 : Int32)) + (-1 : Int32)) + (-1 : Int32))), (.ref v)])) rfl (hb hby d27_49)
        refine own_by (S' := T31.setTop (mkF m 52 #[.val (.int (((i0 / (100 : Int32)) / (100 : Int32)) / (100 : Int32))), .val (.int sz), .val (.ref v), .val (.int (((i0 / (100 : Int32)) / (100 : Int32)) / (100 : Int32))), .val (.int (((((i0 / (100 : Int32)) / (100 : Int32)) / (100 : Int32)) * (100 : Int32)) - ((i0 / (100 : Int32)) / (100 : Int32)))), .val (.int (((((sz + (-1 : Int32)) + (-1 : Int32)) + (-1 : Int32)) + (-1 : Int32)) + (-1 : Int32))), .val (.int (0 : Int32))] [(.ref do_), (.int (((((sz + (-1 : Int32)) + (-1 : Int32)) + (-1 : Int32)) + (-1 : Int32)) + (-1 : Int32))), (.ref v)])) st31 ?_
        refine own_by (S' := T31.setTop (mkF m 54 #[.val (.int (((i0 / (100 : Int32)) / (100 : Int32)) / (100 : Int32))), .val (.int sz), .val (.ref v), .val (.int (((i0 / (100 : Int32)) / (100 : Int32)) / (100 : Int32))), .val (.int (((((i0 / (100 : Int32)) / (100 : Int32)) / (100 : Int32)) * (100 : Int32)) - ((i0 / (100 : Int32)) / (100 : Int32)))), .val (.int (((((sz + (-1 : Int32)) + (-1 : Int32)) + (-1 : Int32)) + (-1 : Int32)) + (-1 : Int32))), .val (.int (0 : Int32))] [(.int (((((i0 / (100 : Int32)) / (100 : Int32)) / (100 : Int32)) * (100 : Int32)) - ((i0 / (100 : Int32)) / (100 : Int32)))), (.ref do_), (.int (((((sz + (-1 : Int32)) + (-1 : Int32)) + (-1 : Int32)) + (-1 : Int32)) + (-1 : Int32))), (.ref v)])) (fun tZ kZ => XS.iload X31.here hx rfl (hb hby d27_52) rfl kZ) ?_
        obtain ⟨dz32, hdz32⟩ := e_o (X2_ % 100) (by omega)
        refine own_by (S' := T31.setTop (mkF m 55 #[.val (.int (((i0 / (100 : Int32)) / (100 : Int32)) / (100 : Int32))), .val (.int sz), .val (.ref v), .val (.int (((i0 / (100 : Int32)) / (100 : Int32)) / (100 : Int32))), .val (.int (((((i0 / (100 : Int32)) / (100 : Int32)) / (100 : Int32)) * (100 : Int32)) - ((i0 / (100 : Int32)) / (100 : Int32)))), .val (.int (((((sz + (-1 : Int32)) + (-1 : Int32)) + (-1 : Int32)) + (-1 : Int32)) + (-1 : Int32))), .val (.int (0 : Int32))] [(.int dz32), (.int (((((sz + (-1 : Int32)) + (-1 : Int32)) + (-1 : Int32)) + (-1 : Int32)) + (-1 : Int32))), (.ref v)])) (fun tZ kZ => X31.baloadBytes hx (j := (((((i0 / (100 : Int32)) / (100 : Int32)) / (100 : Int32)) * (100 : Int32)) - ((i0 / (100 : Int32)) / (100 : Int32)))) (v := (.int dz32)) (by rw [e31]; exact A_o_24.1) (State.isArrayOf_alike hZ.alike A_o_24.2.1) A_o_24.2.2 (by rintro (q | q); exact own_nneg hr2 q; rw [own_tnc hr2, z_o] at q; omega) (by rw [own_tnc hr2]; exact hdz32) (g := (mkF m 54 #[.val (.int (((i0 / (100 : Int32)) / (100 : Int32)) / (100 : Int32))), .val (.int sz), .val (.ref v), .val (.int (((i0 / (100 : Int32)) / (100 : Int32)) / (100 : Int32))), .val (.int (((((i0 / (100 : Int32)) / (100 : Int32)) / (100 : Int32)) * (100 : Int32)) - ((i0 / (100 : Int32)) / (100 : Int32)))), .val (.int (((((sz + (-1 : Int32)) + (-1 : Int32)) + (-1 : Int32)) + (-1 : Int32)) + (-1 : Int32))), .val (.int (0 : Int32))] [(.int (((((i0 / (100 : Int32)) / (100 : Int32)) / (100 : Int32)) * (100 : Int32)) - ((i0 / (100 : Int32)) / (100 : Int32)))), (.ref do_), (.int (((((sz + (-1 : Int32)) + (-1 : Int32)) + (-1 : Int32)) + (-1 : Int32)) + (-1 : Int32))), (.ref v)])) rfl rfl (hb hby d27_54) _ kZ) ?_
        obtain ⟨cc33, Ar33, hc33, hl33⟩ := id V_v_w24
        have hin33 := OwnA.inb (j := (((((sz + (-1 : Int32)) + (-1 : Int32)) + (-1 : Int32)) + (-1 : Int32)) + (-1 : Int32))) hl33 (own_nneg ha2) (by simp only [List.length_set, hl]; rw [own_tnc ha2]; omega)
        obtain ⟨T33, h33, X33, e33, W33, st33⟩ := stB X31 hx hZ e31 Ar33 (j := (((((sz + (-1 : Int32)) + (-1 : Int32)) + (-1 : Int32)) + (-1 : Int32)) + (-1 : Int32))) hin33 (g := (mkF m 55 #[.val (.int (((i0 / (100 : Int32)) / (100 : Int32)) / (100 : Int32))), .val (.int sz), .val (.ref v), .val (.int (((i0 / (100 : Int32)) / (100 : Int32)) / (100 : Int32))), .val (.int (((((i0 / (100 : Int32)) / (100 : Int32)) / (100 : Int32)) * (100 : Int32)) - ((i0 / (100 : Int32)) / (100 : Int32)))), .val (.int (((((sz + (-1 : Int32)) + (-1 : Int32)) + (-1 : Int32)) + (-1 : Int32)) + (-1 : Int32))), .val (.int (0 : Int32))] [(.int dz32), (.int (((((sz + (-1 : Int32)) + (-1 : Int32)) + (-1 : Int32)) + (-1 : Int32)) + (-1 : Int32))), (.ref v)])) rfl rfl (hb hby d27_55)
        have N33 := Fr.snoc X33 N24 g_v
        have S_o_33 := S_o_24.wr W33
        have S_t_33 := S_t_24.wr W33
        have A_o_33 := A_o_24.other W33 nov
        have A_t_33 := A_t_24.other W33 ntv
        have Zs33 : n0 ≤ h33.size := Nat.le_trans Zs24 (Keep.of_wr W33).1
        have K33 := K24.wr W33 (Or.inl (List.mem_of_getElem? (i := 0) rfl))
        have V_v_w33 := V_v_w24.set W33
        refine own_by (S' := T33.setTop (mkF m 56 #[.val (.int (((i0 / (100 : Int32)) / (100 : Int32)) / (100 : Int32))), .val (.int sz), .val (.ref v), .val (.int (((i0 / (100 : Int32)) / (100 : Int32)) / (100 : Int32))), .val (.int (((((i0 / (100 : Int32)) / (100 : Int32)) / (100 : Int32)) * (100 : Int32)) - ((i0 / (100 : Int32)) / (100 : Int32)))), .val (.int (((((sz + (-1 : Int32)) + (-1 : Int32)) + (-1 : Int32)) + (-1 : Int32)) + (-1 : Int32))), .val (.int (0 : Int32))] [])) st33 ?_
        refine own_by (S' := T33.setTop (mkF m 57 #[.val (.int (((i0 / (100 : Int32)) / (100 : Int32)) / (100 : Int32))), .val (.int sz), .val (.ref v), .val (.int (((i0 / (100 : Int32)) / (100 : Int32)) / (100 : Int32))), .val (.int (((((i0 / (100 : Int32)) / (100 : Int32)) / (100 : Int32)) * (100 : Int32)) - ((i0 / (100 : Int32)) / (100 : Int32)))), .val (.int (((((sz + (-1 : Int32)) + (-1 : Int32)) + (-1 : Int32)) + (-1 : Int32)) + (-1 : Int32))), .val (.int (0 : Int32))] [(.ref v)])) (fun tZ kZ => XS.aloadN X33.here hx rfl (hb hby d27_56) rfl rfl kZ) ?_
        refine own_by (S' := T33.setTop (mkF m 60 #[.val (.int (((i0 / (100 : Int32)) / (100 : Int32)) / (100 : Int32))), .val (.int sz), .val (.ref v), .val (.int (((i0 / (100 : Int32)) / (100 : Int32)) / (100 : Int32))), .val (.int (((((i0 / (100 : Int32)) / (100 : Int32)) / (100 : Int32)) * (100 : Int32)) - ((i0 / (100 : Int32)) / (100 : Int32)))), .val (.int ((((((sz + (-1 : Int32)) + (-1 : Int32)) + (-1 : Int32)) + (-1 : Int32)) + (-1 : Int32)) + (-1 : Int32))), .val (.int (0 : Int32))] [(.ref v)])) (fun tZ kZ => XS.iinc X33.here hx rfl (hb hby d27_57) rfl (l' := #[.val (.int (((i0 / (100 : Int32)) / (100 : Int32)) / (100 : Int32))), .val (.int sz), .val (.ref v), .val (.int (((i0 / (100 : Int32)) / (100 : Int32)) / (100 : Int32))), .val (.int (((((i0 / (100 : Int32)) / (100 : Int32)) / (100 : Int32)) * (100 : Int32)) - ((i0 / (100 : Int32)) / (100 : Int32)))), .val (.int ((((((sz + (-1 : Int32)) + (-1 : Int32)) + (-1 : Int32)) + (-1 : Int32)) + (-1 : Int32)) + (-1 : Int32))), .val (.int (0 : Int32))]) rfl kZ) ?_
        refine own_by (S' := T33.setTop (mkF m 62 #[.val (.int (((i0 / (100 : Int32)) / (100 : Int32)) / (100 : Int32))), .val (.int sz), .val (.ref v), .val (.int (((i0 / (100 : Int32)) / (100 : Int32)) / (100 : Int32))), .val (.int (((((i0 / (100 : Int32)) / (100 : Int32)) / (100 : Int32)) * (100 : Int32)) - ((i0 / (100 : Int32)) / (100 : Int32)))), .val (.int ((((((sz + (-1 : Int32)) + (-1 : Int32)) + (-1 : Int32)) + (-1 : Int32)) + (-1 : Int32)) + (-1 : Int32))), .val (.int (0 : Int32))] [(.int ((((((sz + (-1 : Int32)) + (-1 : Int32)) + (-1 : Int32)) + (-1 : Int32)) + (-1 : Int32)) + (-1 : Int32))), (.ref v)])) (fun tZ kZ => XS.iload X33.here hx rfl (hb hby d27_60) rfl kZ) ?_
        obtain ⟨T34, X34, e34, st34⟩ := getS2 X33 hx hZ hown (host := "") (Or.inl (hw_ hw 271 rfl)) Via.refl e33 S_t_33 (g := (mkF m 62 #[.val (.int (((i0 / (100 : Int32)) / (100 : Int32)) / (100 : Int32))), .val (.int sz), .val (.ref v), .val (.int (((i0 / (100 : Int32)) / (100 : Int32)) / (100 : Int32))), .val (.int (((((i0 / (100 : Int32)) / (100 : Int32)) / (100 : Int32)) * (100 : Int32)) - ((i0 / (100 : Int32)) / (100 : Int32)))), .val (.int ((((((sz + (-1 : Int32)) + (-1 : Int32)) + (-1 : Int32)) + (-1 : Int32)) + (-1 : Int32)) + (-1 : Int32))), .val (.int (0 : Int32))] [(.int ((((((sz + (-1 : Int32)) + (-1 : Int32)) + (-1 : Int32)) + (-1 : Int32)) + (-1 : Int32)) + (-1 : Int32))), (.ref v)])) rfl (hb hby d27_62)
        refine own_by (S' := T34.setTop (mkF m 65 #[.val (.int (((i0 / (100 : Int32)) / (100 : Int32)) / (100 : Int32))), .val (.int sz), .val (.ref v), .val (.int (((i0 / (100 : Int32)) / (100 : Int32)) / (100 : Int32))), .val (.int (((((i0 / (100 : Int32)) / (100 : Int32)) / (100 : Int32)) * (100 : Int32)) - ((i0 / (100 : Int32)) / (100 : Int32)))), .val (.int ((((((sz + (-1 : Int32)) + (-1 : Int32)) + (-1 : Int32)) + (-1 : Int32)) + (-1 : Int32)) + (-1 : Int32))), .val (.int (0 : Int32))] [(.ref dt), (.int ((((((sz + (-1 : Int32)) + (-1 : Int32)) + (-1 : Int32)) + (-1 : Int32)) + (-1 : Int32)) + (-1 : Int32))), (.ref v)])) st34 ?_
        refine own_by (S' := T34.setTop (mkF m 67 #[.val (.int (((i0 / (100 : Int32)) / (100 : Int32)) / (100 : Int32))), .val (.int sz), .val (.ref v), .val (.int (((i0 / (100 : Int32)) / (100 : Int32)) / (100 : Int32))), .val (.int (((((i0 / (100 : Int32)) / (100 : Int32)) / (100 : Int32)) * (100 : Int32)) - ((i0 / (100 : Int32)) / (100 : Int32)))), .val (.int ((((((sz + (-1 : Int32)) + (-1 : Int32)) + (-1 : Int32)) + (-1 : Int32)) + (-1 : Int32)) + (-1 : Int32))), .val (.int (0 : Int32))] [(.int (((((i0 / (100 : Int32)) / (100 : Int32)) / (100 : Int32)) * (100 : Int32)) - ((i0 / (100 : Int32)) / (100 : Int32)))), (.ref dt), (.int ((((((sz + (-1 : Int32)) + (-1 : Int32)) + (-1 : Int32)) + (-1 : Int32)) + (-1 : Int32)) + (-1 : Int32))), (.ref v)])) (fun tZ kZ => XS.iload X34.here hx rfl (hb hby d27_65) rfl kZ) ?_
        obtain ⟨dz35, hdz35⟩ := e_t (X2_ % 100) (by omega)
        refine own_by (S' := T34.setTop (mkF m 68 #[.val (.int (((i0 / (100 : Int32)) / (100 : Int32)) / (100 : Int32))), .val (.int sz), .val (.ref v), .val (.int (((i0 / (100 : Int32)) / (100 : Int32)) / (100 : Int32))), .val (.int (((((i0 / (100 : Int32)) / (100 : Int32)) / (100 : Int32)) * (100 : Int32)) - ((i0 / (100 : Int32)) / (100 : Int32)))), .val (.int ((((((sz + (-1 : Int32)) + (-1 : Int32)) + (-1 : Int32)) + (-1 : Int32)) + (-1 : Int32)) + (-1 : Int32))), .val (.int (0 : Int32))] [(.int dz35), (.int ((((((sz + (-1 : Int32)) + (-1 : Int32)) + (-1 : Int32)) + (-1 : Int32)) + (-1 : Int32)) + (-1 : Int32))), (.ref v)])) (fun tZ kZ => X34.baloadBytes hx (j := (((((i0 / (100 : Int32)) / (100 : Int32)) / (100 : Int32)) * (100 : Int32)) - ((i0 / (100 : Int32)) / (100 : Int32)))) (v := (.int dz35)) (by rw [e34]; exact A_t_33.1) (State.isArrayOf_alike hZ.alike A_t_33.2.1) A_t_33.2.2 (by rintro (q | q); exact own_nneg hr2 q; rw [own_tnc hr2, z_t] at q; omega) (by rw [own_tnc hr2]; exact hdz35) (g := (mkF m 67 #[.val (.int (((i0 / (100 : Int32)) / (100 : Int32)) / (100 : Int32))), .val (.int sz), .val (.ref v), .val (.int (((i0 / (100 : Int32)) / (100 : Int32)) / (100 : Int32))), .val (.int (((((i0 / (100 : Int32)) / (100 : Int32)) / (100 : Int32)) * (100 : Int32)) - ((i0 / (100 : Int32)) / (100 : Int32)))), .val (.int ((((((sz + (-1 : Int32)) + (-1 : Int32)) + (-1 : Int32)) + (-1 : Int32)) + (-1 : Int32)) + (-1 : Int32))), .val (.int (0 : Int32))] [(.int (((((i0 / (100 : Int32)) / (100 : Int32)) / (100 : Int32)) * (100 : Int32)) - ((i0 / (100 : Int32)) / (100 : Int32)))), (.ref dt), (.int ((((((sz + (-1 : Int32)) + (-1 : Int32)) + (-1 : Int32)) + (-1 : Int32)) + (-1 : Int32)) + (-1 : Int32))), (.ref v)])) rfl rfl (hb hby d27_67) _ kZ) ?_
        obtain ⟨cc36, Ar36, hc36, hl36⟩ := id V_v_w33
        have hin36 := OwnA.inb (j := ((((((sz + (-1 : Int32)) + (-1 : Int32)) + (-1 : Int32)) + (-1 : Int32)) + (-1 : Int32)) + (-1 : Int32))) hl36 (own_nneg hb2) (by simp only [List.length_set, hl]; rw [own_tnc hb2]; omega)
        obtain ⟨T36, h36, X36, e36, W36, st36⟩ := stB X34 hx hZ e34 Ar36 (j := ((((((sz + (-1 : Int32)) + (-1 : Int32)) + (-1 : Int32)) + (-1 : Int32)) + (-1 : Int32)) + (-1 : Int32))) hin36 (g := (mkF m 68 #[.val (.int (((i0 / (100 : Int32)) / (100 : Int32)) / (100 : Int32))), .val (.int sz), .val (.ref v), .val (.int (((i0 / (100 : Int32)) / (100 : Int32)) / (100 : Int32))), .val (.int (((((i0 / (100 : Int32)) / (100 : Int32)) / (100 : Int32)) * (100 : Int32)) - ((i0 / (100 : Int32)) / (100 : Int32)))), .val (.int ((((((sz + (-1 : Int32)) + (-1 : Int32)) + (-1 : Int32)) + (-1 : Int32)) + (-1 : Int32)) + (-1 : Int32))), .val (.int (0 : Int32))] [(.int dz35), (.int ((((((sz + (-1 : Int32)) + (-1 : Int32)) + (-1 : Int32)) + (-1 : Int32)) + (-1 : Int32)) + (-1 : Int32))), (.ref v)])) rfl rfl (hb hby d27_68)
        have N36 := Fr.snoc X36 N33 g_v
        have S_o_36 := S_o_33.wr W36
        have S_t_36 := S_t_33.wr W36
        have A_o_36 := A_o_33.other W36 nov
        have A_t_36 := A_t_33.other W36 ntv
        have Zs36 : n0 ≤ h36.size := Nat.le_trans Zs33 (Keep.of_wr W36).1
        have K36 := K33.wr W36 (Or.inl (List.mem_of_getElem? (i := 0) rfl))
        have V_v_w36 := V_v_w33.set W36
        refine own_by (S' := T36.setTop (mkF m 69 #[.val (.int (((i0 / (100 : Int32)) / (100 : Int32)) / (100 : Int32))), .val (.int sz), .val (.ref v), .val (.int (((i0 / (100 : Int32)) / (100 : Int32)) / (100 : Int32))), .val (.int (((((i0 / (100 : Int32)) / (100 : Int32)) / (100 : Int32)) * (100 : Int32)) - ((i0 / (100 : Int32)) / (100 : Int32)))), .val (.int ((((((sz + (-1 : Int32)) + (-1 : Int32)) + (-1 : Int32)) + (-1 : Int32)) + (-1 : Int32)) + (-1 : Int32))), .val (.int (0 : Int32))] [])) st36 ?_
        refine own_by (S' := T36.setTop (mkF m 22 #[.val (.int (((i0 / (100 : Int32)) / (100 : Int32)) / (100 : Int32))), .val (.int sz), .val (.ref v), .val (.int (((i0 / (100 : Int32)) / (100 : Int32)) / (100 : Int32))), .val (.int (((((i0 / (100 : Int32)) / (100 : Int32)) / (100 : Int32)) * (100 : Int32)) - ((i0 / (100 : Int32)) / (100 : Int32)))), .val (.int ((((((sz + (-1 : Int32)) + (-1 : Int32)) + (-1 : Int32)) + (-1 : Int32)) + (-1 : Int32)) + (-1 : Int32))), .val (.int (0 : Int32))] [])) (fun tZ kZ => XS.goto X36.here hx rfl (pc0 := 69) (pc' := 22) rfl (hb hby d27_69) (by decide) (by decide) kZ) ?_
        obtain ⟨X3_, hXe2⟩ : ∃ z : Nat, z = X2_ / 100 := ⟨_, rfl⟩
        rw [← hXe2] at hp3 hx3_ hq2
        obtain ⟨k3_, hke2⟩ : ∃ z : Nat, z = k2_ - 1 - 1 := ⟨_, rfl⟩
        rw [← hke2] at hb2
        have hp3' : X3_ < 10 ^ k3_ := by rw [show k3_ = k2_ - 2 from by omega]; exact hp3
        have hkk3 : k3_ ≤ 4 := by omega
        refine own_by (S' := T36.setTop (mkF m 23 #[.val (.int (((i0 / (100 : Int32)) / (100 : Int32)) / (100 : Int32))), .val (.int sz), .val (.ref v), .val (.int (((i0 / (100 : Int32)) / (100 : Int32)) / (100 : Int32))), .val (.int (((((i0 / (100 : Int32)) / (100 : Int32)) / (100 : Int32)) * (100 : Int32)) - ((i0 / (100 : Int32)) / (100 : Int32)))), .val (.int ((((((sz + (-1 : Int32)) + (-1 : Int32)) + (-1 : Int32)) + (-1 : Int32)) + (-1 : Int32)) + (-1 : Int32))), .val (.int (0 : Int32))] [(.int (((i0 / (100 : Int32)) / (100 : Int32)) / (100 : Int32)))])) (fun tZ kZ => XS.iloadN X36.here hx rfl (hb hby d27_22) rfl kZ) ?_
        refine own_by (S' := T36.setTop (mkF m 25 #[.val (.int (((i0 / (100 : Int32)) / (100 : Int32)) / (100 : Int32))), .val (.int sz), .val (.ref v), .val (.int (((i0 / (100 : Int32)) / (100 : Int32)) / (100 : Int32))), .val (.int (((((i0 / (100 : Int32)) / (100 : Int32)) / (100 : Int32)) * (100 : Int32)) - ((i0 / (100 : Int32)) / (100 : Int32)))), .val (.int ((((((sz + (-1 : Int32)) + (-1 : Int32)) + (-1 : Int32)) + (-1 : Int32)) + (-1 : Int32)) + (-1 : Int32))), .val (.int (0 : Int32))] [(.int (-100 : Int32)), (.int (((i0 / (100 : Int32)) / (100 : Int32)) / (100 : Int32)))])) (fun tZ kZ => XS.bipush X36.here hx rfl (hb hby d27_23) kZ) ?_
        by_cases hc3 : (-100 : Int32) < (((i0 / (100 : Int32)) / (100 : Int32)) / (100 : Int32))
        · refine own_by (S' := T36.setTop (mkF m 72 #[.val (.int (((i0 / (100 : Int32)) / (100 : Int32)) / (100 : Int32))), .val (.int sz), .val (.ref v), .val (.int (((i0 / (100 : Int32)) / (100 : Int32)) / (100 : Int32))), .val (.int (((((i0 / (100 : Int32)) / (100 : Int32)) / (100 : Int32)) * (100 : Int32)) - ((i0 / (100 : Int32)) / (100 : Int32)))), .val (.int ((((((sz + (-1 : Int32)) + (-1 : Int32)) + (-1 : Int32)) + (-1 : Int32)) + (-1 : Int32)) + (-1 : Int32))), .val (.int (0 : Int32))] [])) (fun tZ kZ => XS.icmpYes X36.here hx rfl (pc0 := 25) (pc' := 72) rfl (hb hby d27_25) rfl (tlt hc3).2.2.1 (by decide) (by decide) kZ) ?_
          have hX100 : X3_ < 100 := by
            rw [own_ltI] at hc3
            have e : (-100 : Int32).toInt = -100 := rfl
            omega
          have hk1 := own_pw1 hp3' hx3_
          have hpa := own_dec1 hb2 hk1 (by omega)
          have hni : (-(((i0 / (100 : Int32)) / (100 : Int32)) / (100 : Int32))).toInt = ((X3_ : Nat) : Int) := by
            have a := c_ineg (((i0 / (100 : Int32)) / (100 : Int32)) / (100 : Int32))
            have b := rng32 (-(((i0 / (100 : Int32)) / (100 : Int32)) / (100 : Int32)))
            omega
          refine own_by (S' := T36.setTop (mkF m 73 #[.val (.int (((i0 / (100 : Int32)) / (100 : Int32)) / (100 : Int32))), .val (.int sz), .val (.ref v), .val (.int (((i0 / (100 : Int32)) / (100 : Int32)) / (100 : Int32))), .val (.int (((((i0 / (100 : Int32)) / (100 : Int32)) / (100 : Int32)) * (100 : Int32)) - ((i0 / (100 : Int32)) / (100 : Int32)))), .val (.int ((((((sz + (-1 : Int32)) + (-1 : Int32)) + (-1 : Int32)) + (-1 : Int32)) + (-1 : Int32)) + (-1 : Int32))), .val (.int (0 : Int32))] [(.ref v)])) (fun tZ kZ => XS.aloadN X36.here hx rfl (hb hby d27_72) rfl rfl kZ) ?_
          refine own_by (S' := T36.setTop (mkF m 76 #[.val (.int (((i0 / (100 : Int32)) / (100 : Int32)) / (100 : Int32))), .val (.int sz), .val (.ref v), .val (.int (((i0 / (100 : Int32)) / (100 : Int32)) / (100 : Int32))), .val (.int (((((i0 / (100 : Int32)) / (100 : Int32)) / (100 : Int32)) * (100 : Int32)) - ((i0 / (100 : Int32)) / (100 : Int32)))), .val (.int (((((((sz + (-1 : Int32)) + (-1 : Int32)) + (-1 : Int32)) + (-1 : Int32)) + (-1 : Int32)) + (-1 : Int32)) + (-1 : Int32))), .val (.int (0 : Int32))] [(.ref v)])) (fun tZ kZ => XS.iinc X36.here hx rfl (hb hby d27_73) rfl (l' := #[.val (.int (((i0 / (100 : Int32)) / (100 : Int32)) / (100 : Int32))), .val (.int sz), .val (.ref v), .val (.int (((i0 / (100 : Int32)) / (100 : Int32)) / (100 : Int32))), .val (.int (((((i0 / (100 : Int32)) / (100 : Int32)) / (100 : Int32)) * (100 : Int32)) - ((i0 / (100 : Int32)) / (100 : Int32)))), .val (.int (((((((sz + (-1 : Int32)) + (-1 : Int32)) + (-1 : Int32)) + (-1 : Int32)) + (-1 : Int32)) + (-1 : Int32)) + (-1 : Int32))), .val (.int (0 : Int32))]) rfl kZ) ?_
          refine own_by (S' := T36.setTop (mkF m 78 #[.val (.int (((i0 / (100 : Int32)) / (100 : Int32)) / (100 : Int32))), .val (.int sz), .val (.ref v), .val (.int (((i0 / (100 : Int32)) / (100 : Int32)) / (100 : Int32))), .val (.int (((((i0 / (100 : Int32)) / (100 : Int32)) / (100 : Int32)) * (100 : Int32)) - ((i0 / (100 : Int32)) / (100 : Int32)))), .val (.int (((((((sz + (-1 : Int32)) + (-1 : Int32)) + (-1 : Int32)) + (-1 : Int32)) + (-1 : Int32)) + (-1 : Int32)) + (-1 : Int32))), .val (.int (0 : Int32))] [(.int (((((((sz + (-1 : Int32)) + (-1 : Int32)) + (-1 : Int32)) + (-1 : Int32)) + (-1 : Int32)) + (-1 : Int32)) + (-1 : Int32))), (.ref v)])) (fun tZ kZ => XS.iload X36.here hx rfl (hb hby d27_76) rfl kZ) ?_
          obtain ⟨T37, X37, e37, st37⟩ := getS2 X36 hx hZ hown (host := "") (Or.inl (hw_ hw 153 rfl)) Via.refl e36 S_o_36 (g := (mkF m 78 #[.val (.int (((i0 / (100 : Int32)) / (100 : Int32)) / (100 : Int32))), .val (.int sz), .val (.ref v), .val (.int (((i0 / (100 : Int32)) / (100 : Int32)) / (100 : Int32))), .val (.int (((((i0 / (100 : Int32)) / (100 : Int32)) / (100 : Int32)) * (100 : Int32)) - ((i0 / (100 : Int32)) / (100 : Int32)))), .val (.int (((((((sz + (-1 : Int32)) + (-1 : Int32)) + (-1 : Int32)) + (-1 : Int32)) + (-1 : Int32)) + (-1 : Int32)) + (-1 : Int32))), .val (.int (0 : Int32))] [(.int (((((((sz + (-1 : Int32)) + (-1 : Int32)) + (-1 : Int32)) + (-1 : Int32)) + (-1 : Int32)) + (-1 : Int32)) + (-1 : Int32))), (.ref v)])) rfl (hb hby d27_78)
          refine own_by (S' := T37.setTop (mkF m 81 #[.val (.int (((i0 / (100 : Int32)) / (100 : Int32)) / (100 : Int32))), .val (.int sz), .val (.ref v), .val (.int (((i0 / (100 : Int32)) / (100 : Int32)) / (100 : Int32))), .val (.int (((((i0 / (100 : Int32)) / (100 : Int32)) / (100 : Int32)) * (100 : Int32)) - ((i0 / (100 : Int32)) / (100 : Int32)))), .val (.int (((((((sz + (-1 : Int32)) + (-1 : Int32)) + (-1 : Int32)) + (-1 : Int32)) + (-1 : Int32)) + (-1 : Int32)) + (-1 : Int32))), .val (.int (0 : Int32))] [(.ref do_), (.int (((((((sz + (-1 : Int32)) + (-1 : Int32)) + (-1 : Int32)) + (-1 : Int32)) + (-1 : Int32)) + (-1 : Int32)) + (-1 : Int32))), (.ref v)])) st37 ?_
          refine own_by (S' := T37.setTop (mkF m 82 #[.val (.int (((i0 / (100 : Int32)) / (100 : Int32)) / (100 : Int32))), .val (.int sz), .val (.ref v), .val (.int (((i0 / (100 : Int32)) / (100 : Int32)) / (100 : Int32))), .val (.int (((((i0 / (100 : Int32)) / (100 : Int32)) / (100 : Int32)) * (100 : Int32)) - ((i0 / (100 : Int32)) / (100 : Int32)))), .val (.int (((((((sz + (-1 : Int32)) + (-1 : Int32)) + (-1 : Int32)) + (-1 : Int32)) + (-1 : Int32)) + (-1 : Int32)) + (-1 : Int32))), .val (.int (0 : Int32))] [(.int (((i0 / (100 : Int32)) / (100 : Int32)) / (100 : Int32))), (.ref do_), (.int (((((((sz + (-1 : Int32)) + (-1 : Int32)) + (-1 : Int32)) + (-1 : Int32)) + (-1 : Int32)) + (-1 : Int32)) + (-1 : Int32))), (.ref v)])) (fun tZ kZ => XS.iloadN X37.here hx rfl (hb hby d27_81) rfl kZ) ?_
          refine own_by (S' := T37.setTop (mkF m 83 #[.val (.int (((i0 / (100 : Int32)) / (100 : Int32)) / (100 : Int32))), .val (.int sz), .val (.ref v), .val (.int (((i0 / (100 : Int32)) / (100 : Int32)) / (100 : Int32))), .val (.int (((((i0 / (100 : Int32)) / (100 : Int32)) / (100 : Int32)) * (100 : Int32)) - ((i0 / (100 : Int32)) / (100 : Int32)))), .val (.int (((((((sz + (-1 : Int32)) + (-1 : Int32)) + (-1 : Int32)) + (-1 : Int32)) + (-1 : Int32)) + (-1 : Int32)) + (-1 : Int32))), .val (.int (0 : Int32))] [(.int (-(((i0 / (100 : Int32)) / (100 : Int32)) / (100 : Int32)))), (.ref do_), (.int (((((((sz + (-1 : Int32)) + (-1 : Int32)) + (-1 : Int32)) + (-1 : Int32)) + (-1 : Int32)) + (-1 : Int32)) + (-1 : Int32))), (.ref v)])) (fun tZ kZ => XS.ineg X37.here hx rfl (hb hby d27_82) rfl kZ) ?_
          obtain ⟨dz38, hdz38⟩ := e_o (X3_) (by omega)
          refine own_by (S' := T37.setTop (mkF m 84 #[.val (.int (((i0 / (100 : Int32)) / (100 : Int32)) / (100 : Int32))), .val (.int sz), .val (.ref v), .val (.int (((i0 / (100 : Int32)) / (100 : Int32)) / (100 : Int32))), .val (.int (((((i0 / (100 : Int32)) / (100 : Int32)) / (100 : Int32)) * (100 : Int32)) - ((i0 / (100 : Int32)) / (100 : Int32)))), .val (.int (((((((sz + (-1 : Int32)) + (-1 : Int32)) + (-1 : Int32)) + (-1 : Int32)) + (-1 : Int32)) + (-1 : Int32)) + (-1 : Int32))), .val (.int (0 : Int32))] [(.int dz38), (.int (((((((sz + (-1 : Int32)) + (-1 : Int32)) + (-1 : Int32)) + (-1 : Int32)) + (-1 : Int32)) + (-1 : Int32)) + (-1 : Int32))), (.ref v)])) (fun tZ kZ => X37.baloadBytes hx (j := (-(((i0 / (100 : Int32)) / (100 : Int32)) / (100 : Int32)))) (v := (.int dz38)) (by rw [e37]; exact A_o_36.1) (State.isArrayOf_alike hZ.alike A_o_36.2.1) A_o_36.2.2 (by rintro (q | q); exact own_nneg hni q; rw [own_tnc hni, z_o] at q; omega) (by rw [own_tnc hni]; exact hdz38) (g := (mkF m 83 #[.val (.int (((i0 / (100 : Int32)) / (100 : Int32)) / (100 : Int32))), .val (.int sz), .val (.ref v), .val (.int (((i0 / (100 : Int32)) / (100 : Int32)) / (100 : Int32))), .val (.int (((((i0 / (100 : Int32)) / (100 : Int32)) / (100 : Int32)) * (100 : Int32)) - ((i0 / (100 : Int32)) / (100 : Int32)))), .val (.int (((((((sz + (-1 : Int32)) + (-1 : Int32)) + (-1 : Int32)) + (-1 : Int32)) + (-1 : Int32)) + (-1 : Int32)) + (-1 : Int32))), .val (.int (0 : Int32))] [(.int (-(((i0 / (100 : Int32)) / (100 : Int32)) / (100 : Int32)))), (.ref do_), (.int (((((((sz + (-1 : Int32)) + (-1 : Int32)) + (-1 : Int32)) + (-1 : Int32)) + (-1 : Int32)) + (-1 : Int32)) + (-1 : Int32))), (.ref v)])) rfl rfl (hb hby d27_83) _ kZ) ?_
          obtain ⟨cc39, Ar39, hc39, hl39⟩ := id V_v_w36
          have hin39 := OwnA.inb (j := (((((((sz + (-1 : Int32)) + (-1 : Int32)) + (-1 : Int32)) + (-1 : Int32)) + (-1 : Int32)) + (-1 : Int32)) + (-1 : Int32))) hl39 (own_nneg hpa) (by simp only [List.length_set, hl]; rw [own_tnc hpa]; omega)
          obtain ⟨T39, h39, X39, e39, W39, st39⟩ := stB X37 hx hZ e37 Ar39 (j := (((((((sz + (-1 : Int32)) + (-1 : Int32)) + (-1 : Int32)) + (-1 : Int32)) + (-1 : Int32)) + (-1 : Int32)) + (-1 : Int32))) hin39 (g := (mkF m 84 #[.val (.int (((i0 / (100 : Int32)) / (100 : Int32)) / (100 : Int32))), .val (.int sz), .val (.ref v), .val (.int (((i0 / (100 : Int32)) / (100 : Int32)) / (100 : Int32))), .val (.int (((((i0 / (100 : Int32)) / (100 : Int32)) / (100 : Int32)) * (100 : Int32)) - ((i0 / (100 : Int32)) / (100 : Int32)))), .val (.int (((((((sz + (-1 : Int32)) + (-1 : Int32)) + (-1 : Int32)) + (-1 : Int32)) + (-1 : Int32)) + (-1 : Int32)) + (-1 : Int32))), .val (.int (0 : Int32))] [(.int dz38), (.int (((((((sz + (-1 : Int32)) + (-1 : Int32)) + (-1 : Int32)) + (-1 : Int32)) + (-1 : Int32)) + (-1 : Int32)) + (-1 : Int32))), (.ref v)])) rfl rfl (hb hby d27_84)
          have N39 := Fr.snoc X39 N36 g_v
          have S_o_39 := S_o_36.wr W39
          have S_t_39 := S_t_36.wr W39
          have A_o_39 := A_o_36.other W39 nov
          have A_t_39 := A_t_36.other W39 ntv
          have Zs39 : n0 ≤ h39.size := Nat.le_trans Zs36 (Keep.of_wr W39).1
          have K39 := K36.wr W39 (Or.inl (List.mem_of_getElem? (i := 0) rfl))
          have V_v_w39 := V_v_w36.set W39
          refine own_by (S' := T39.setTop (mkF m 85 #[.val (.int (((i0 / (100 : Int32)) / (100 : Int32)) / (100 : Int32))), .val (.int sz), .val (.ref v), .val (.int (((i0 / (100 : Int32)) / (100 : Int32)) / (100 : Int32))), .val (.int (((((i0 / (100 : Int32)) / (100 : Int32)) / (100 : Int32)) * (100 : Int32)) - ((i0 / (100 : Int32)) / (100 : Int32)))), .val (.int (((((((sz + (-1 : Int32)) + (-1 : Int32)) + (-1 : Int32)) + (-1 : Int32)) + (-1 : Int32)) + (-1 : Int32)) + (-1 : Int32))), .val (.int (0 : Int32))] [])) st39 ?_
          refine own_by (S' := T39.setTop (mkF m 86 #[.val (.int (((i0 / (100 : Int32)) / (100 : Int32)) / (100 : Int32))), .val (.int sz), .val (.ref v), .val (.int (((i0 / (100 : Int32)) / (100 : Int32)) / (100 : Int32))), .val (.int (((((i0 / (100 : Int32)) / (100 : Int32)) / (100 : Int32)) * (100 : Int32)) - ((i0 / (100 : Int32)) / (100 : Int32)))), .val (.int (((((((sz + (-1 : Int32)) + (-1 : Int32)) + (-1 : Int32)) + (-1 : Int32)) + (-1 : Int32)) + (-1 : Int32)) + (-1 : Int32))), .val (.int (0 : Int32))] [(.int (((i0 / (100 : Int32)) / (100 : Int32)) / (100 : Int32)))])) (fun tZ kZ => XS.iloadN X39.here hx rfl (hb hby d27_85) rfl kZ) ?_
          refine own_by (S' := T39.setTop (mkF m 88 #[.val (.int (((i0 / (100 : Int32)) / (100 : Int32)) / (100 : Int32))), .val (.int sz), .val (.ref v), .val (.int (((i0 / (100 : Int32)) / (100 : Int32)) / (100 : Int32))), .val (.int (((((i0 / (100 : Int32)) / (100 : Int32)) / (100 : Int32)) * (100 : Int32)) - ((i0 / (100 : Int32)) / (100 : Int32)))), .val (.int (((((((sz + (-1 : Int32)) + (-1 : Int32)) + (-1 : Int32)) + (-1 : Int32)) + (-1 : Int32)) + (-1 : Int32)) + (-1 : Int32))), .val (.int (0 : Int32))] [(.int (-9 : Int32)), (.int (((i0 / (100 : Int32)) / (100 : Int32)) / (100 : Int32)))])) (fun tZ kZ => XS.bipush X39.here hx rfl (hb hby d27_86) kZ) ?_
          by_cases hnine : (((i0 / (100 : Int32)) / (100 : Int32)) / (100 : Int32)) < (-9 : Int32)
          · refine own_by (S' := T39.setTop (mkF m 91 #[.val (.int (((i0 / (100 : Int32)) / (100 : Int32)) / (100 : Int32))), .val (.int sz), .val (.ref v), .val (.int (((i0 / (100 : Int32)) / (100 : Int32)) / (100 : Int32))), .val (.int (((((i0 / (100 : Int32)) / (100 : Int32)) / (100 : Int32)) * (100 : Int32)) - ((i0 / (100 : Int32)) / (100 : Int32)))), .val (.int (((((((sz + (-1 : Int32)) + (-1 : Int32)) + (-1 : Int32)) + (-1 : Int32)) + (-1 : Int32)) + (-1 : Int32)) + (-1 : Int32))), .val (.int (0 : Int32))] [])) (fun tZ kZ => XS.icmpNo X39.here hx rfl (hb hby d27_88) rfl (tlt hnine).2.1 kZ) ?_
            have hX10 : 10 ≤ X3_ := by
              rw [own_ltI] at hnine
              have e : (-9 : Int32).toInt = -9 := rfl
              omega
            have hk2 := own_pw2 hp3' hX10
            have hpb := own_dec1 hpa (by omega) (by omega)
            refine own_by (S' := T39.setTop (mkF m 92 #[.val (.int (((i0 / (100 : Int32)) / (100 : Int32)) / (100 : Int32))), .val (.int sz), .val (.ref v), .val (.int (((i0 / (100 : Int32)) / (100 : Int32)) / (100 : Int32))), .val (.int (((((i0 / (100 : Int32)) / (100 : Int32)) / (100 : Int32)) * (100 : Int32)) - ((i0 / (100 : Int32)) / (100 : Int32)))), .val (.int (((((((sz + (-1 : Int32)) + (-1 : Int32)) + (-1 : Int32)) + (-1 : Int32)) + (-1 : Int32)) + (-1 : Int32)) + (-1 : Int32))), .val (.int (0 : Int32))] [(.ref v)])) (fun tZ kZ => XS.aloadN X39.here hx rfl (hb hby d27_91) rfl rfl kZ) ?_
            refine own_by (S' := T39.setTop (mkF m 95 #[.val (.int (((i0 / (100 : Int32)) / (100 : Int32)) / (100 : Int32))), .val (.int sz), .val (.ref v), .val (.int (((i0 / (100 : Int32)) / (100 : Int32)) / (100 : Int32))), .val (.int (((((i0 / (100 : Int32)) / (100 : Int32)) / (100 : Int32)) * (100 : Int32)) - ((i0 / (100 : Int32)) / (100 : Int32)))), .val (.int ((((((((sz + (-1 : Int32)) + (-1 : Int32)) + (-1 : Int32)) + (-1 : Int32)) + (-1 : Int32)) + (-1 : Int32)) + (-1 : Int32)) + (-1 : Int32))), .val (.int (0 : Int32))] [(.ref v)])) (fun tZ kZ => XS.iinc X39.here hx rfl (hb hby d27_92) rfl (l' := #[.val (.int (((i0 / (100 : Int32)) / (100 : Int32)) / (100 : Int32))), .val (.int sz), .val (.ref v), .val (.int (((i0 / (100 : Int32)) / (100 : Int32)) / (100 : Int32))), .val (.int (((((i0 / (100 : Int32)) / (100 : Int32)) / (100 : Int32)) * (100 : Int32)) - ((i0 / (100 : Int32)) / (100 : Int32)))), .val (.int ((((((((sz + (-1 : Int32)) + (-1 : Int32)) + (-1 : Int32)) + (-1 : Int32)) + (-1 : Int32)) + (-1 : Int32)) + (-1 : Int32)) + (-1 : Int32))), .val (.int (0 : Int32))]) rfl kZ) ?_
            refine own_by (S' := T39.setTop (mkF m 97 #[.val (.int (((i0 / (100 : Int32)) / (100 : Int32)) / (100 : Int32))), .val (.int sz), .val (.ref v), .val (.int (((i0 / (100 : Int32)) / (100 : Int32)) / (100 : Int32))), .val (.int (((((i0 / (100 : Int32)) / (100 : Int32)) / (100 : Int32)) * (100 : Int32)) - ((i0 / (100 : Int32)) / (100 : Int32)))), .val (.int ((((((((sz + (-1 : Int32)) + (-1 : Int32)) + (-1 : Int32)) + (-1 : Int32)) + (-1 : Int32)) + (-1 : Int32)) + (-1 : Int32)) + (-1 : Int32))), .val (.int (0 : Int32))] [(.int ((((((((sz + (-1 : Int32)) + (-1 : Int32)) + (-1 : Int32)) + (-1 : Int32)) + (-1 : Int32)) + (-1 : Int32)) + (-1 : Int32)) + (-1 : Int32))), (.ref v)])) (fun tZ kZ => XS.iload X39.here hx rfl (hb hby d27_95) rfl kZ) ?_
            obtain ⟨T40, X40, e40, st40⟩ := getS2 X39 hx hZ hown (host := "") (Or.inl (hw_ hw 271 rfl)) Via.refl e39 S_t_39 (g := (mkF m 97 #[.val (.int (((i0 / (100 : Int32)) / (100 : Int32)) / (100 : Int32))), .val (.int sz), .val (.ref v), .val (.int (((i0 / (100 : Int32)) / (100 : Int32)) / (100 : Int32))), .val (.int (((((i0 / (100 : Int32)) / (100 : Int32)) / (100 : Int32)) * (100 : Int32)) - ((i0 / (100 : Int32)) / (100 : Int32)))), .val (.int ((((((((sz + (-1 : Int32)) + (-1 : Int32)) + (-1 : Int32)) + (-1 : Int32)) + (-1 : Int32)) + (-1 : Int32)) + (-1 : Int32)) + (-1 : Int32))), .val (.int (0 : Int32))] [(.int ((((((((sz + (-1 : Int32)) + (-1 : Int32)) + (-1 : Int32)) + (-1 : Int32)) + (-1 : Int32)) + (-1 : Int32)) + (-1 : Int32)) + (-1 : Int32))), (.ref v)])) rfl (hb hby d27_97)
            refine own_by (S' := T40.setTop (mkF m 100 #[.val (.int (((i0 / (100 : Int32)) / (100 : Int32)) / (100 : Int32))), .val (.int sz), .val (.ref v), .val (.int (((i0 / (100 : Int32)) / (100 : Int32)) / (100 : Int32))), .val (.int (((((i0 / (100 : Int32)) / (100 : Int32)) / (100 : Int32)) * (100 : Int32)) - ((i0 / (100 : Int32)) / (100 : Int32)))), .val (.int ((((((((sz + (-1 : Int32)) + (-1 : Int32)) + (-1 : Int32)) + (-1 : Int32)) + (-1 : Int32)) + (-1 : Int32)) + (-1 : Int32)) + (-1 : Int32))), .val (.int (0 : Int32))] [(.ref dt), (.int ((((((((sz + (-1 : Int32)) + (-1 : Int32)) + (-1 : Int32)) + (-1 : Int32)) + (-1 : Int32)) + (-1 : Int32)) + (-1 : Int32)) + (-1 : Int32))), (.ref v)])) st40 ?_
            refine own_by (S' := T40.setTop (mkF m 101 #[.val (.int (((i0 / (100 : Int32)) / (100 : Int32)) / (100 : Int32))), .val (.int sz), .val (.ref v), .val (.int (((i0 / (100 : Int32)) / (100 : Int32)) / (100 : Int32))), .val (.int (((((i0 / (100 : Int32)) / (100 : Int32)) / (100 : Int32)) * (100 : Int32)) - ((i0 / (100 : Int32)) / (100 : Int32)))), .val (.int ((((((((sz + (-1 : Int32)) + (-1 : Int32)) + (-1 : Int32)) + (-1 : Int32)) + (-1 : Int32)) + (-1 : Int32)) + (-1 : Int32)) + (-1 : Int32))), .val (.int (0 : Int32))] [(.int (((i0 / (100 : Int32)) / (100 : Int32)) / (100 : Int32))), (.ref dt), (.int ((((((((sz + (-1 : Int32)) + (-1 : Int32)) + (-1 : Int32)) + (-1 : Int32)) + (-1 : Int32)) + (-1 : Int32)) + (-1 : Int32)) + (-1 : Int32))), (.ref v)])) (fun tZ kZ => XS.iloadN X40.here hx rfl (hb hby d27_100) rfl kZ) ?_
            refine own_by (S' := T40.setTop (mkF m 102 #[.val (.int (((i0 / (100 : Int32)) / (100 : Int32)) / (100 : Int32))), .val (.int sz), .val (.ref v), .val (.int (((i0 / (100 : Int32)) / (100 : Int32)) / (100 : Int32))), .val (.int (((((i0 / (100 : Int32)) / (100 : Int32)) / (100 : Int32)) * (100 : Int32)) - ((i0 / (100 : Int32)) / (100 : Int32)))), .val (.int ((((((((sz + (-1 : Int32)) + (-1 : Int32)) + (-1 : Int32)) + (-1 : Int32)) + (-1 : Int32)) + (-1 : Int32)) + (-1 : Int32)) + (-1 : Int32))), .val (.int (0 : Int32))] [(.int (-(((i0 / (100 : Int32)) / (100 : Int32)) / (100 : Int32)))), (.ref dt), (.int ((((((((sz + (-1 : Int32)) + (-1 : Int32)) + (-1 : Int32)) + (-1 : Int32)) + (-1 : Int32)) + (-1 : Int32)) + (-1 : Int32)) + (-1 : Int32))), (.ref v)])) (fun tZ kZ => XS.ineg X40.here hx rfl (hb hby d27_101) rfl kZ) ?_
            obtain ⟨dz41, hdz41⟩ := e_t (X3_) (by omega)
            refine own_by (S' := T40.setTop (mkF m 103 #[.val (.int (((i0 / (100 : Int32)) / (100 : Int32)) / (100 : Int32))), .val (.int sz), .val (.ref v), .val (.int (((i0 / (100 : Int32)) / (100 : Int32)) / (100 : Int32))), .val (.int (((((i0 / (100 : Int32)) / (100 : Int32)) / (100 : Int32)) * (100 : Int32)) - ((i0 / (100 : Int32)) / (100 : Int32)))), .val (.int ((((((((sz + (-1 : Int32)) + (-1 : Int32)) + (-1 : Int32)) + (-1 : Int32)) + (-1 : Int32)) + (-1 : Int32)) + (-1 : Int32)) + (-1 : Int32))), .val (.int (0 : Int32))] [(.int dz41), (.int ((((((((sz + (-1 : Int32)) + (-1 : Int32)) + (-1 : Int32)) + (-1 : Int32)) + (-1 : Int32)) + (-1 : Int32)) + (-1 : Int32)) + (-1 : Int32))), (.ref v)])) (fun tZ kZ => X40.baloadBytes hx (j := (-(((i0 / (100 : Int32)) / (100 : Int32)) / (100 : Int32)))) (v := (.int dz41)) (by rw [e40]; exact A_t_39.1) (State.isArrayOf_alike hZ.alike A_t_39.2.1) A_t_39.2.2 (by rintro (q | q); exact own_nneg hni q; rw [own_tnc hni, z_t] at q; omega) (by rw [own_tnc hni]; exact hdz41) (g := (mkF m 102 #[.val (.int (((i0 / (100 : Int32)) / (100 : Int32)) / (100 : Int32))), .val (.int sz), .val (.ref v), .val (.int (((i0 / (100 : Int32)) / (100 : Int32)) / (100 : Int32))), .val (.int (((((i0 / (100 : Int32)) / (100 : Int32)) / (100 : Int32)) * (100 : Int32)) - ((i0 / (100 : Int32)) / (100 : Int32)))), .val (.int ((((((((sz + (-1 : Int32)) + (-1 : Int32)) + (-1 : Int32)) + (-1 : Int32)) + (-1 : Int32)) + (-1 : Int32)) + (-1 : Int32)) + (-1 : Int32))), .val (.int (0 : Int32))] [(.int (-(((i0 / (100 : Int32)) / (100 : Int32)) / (100 : Int32)))), (.ref dt), (.int ((((((((sz + (-1 : Int32)) + (-1 : Int32)) + (-1 : Int32)) + (-1 : Int32)) + (-1 : Int32)) + (-1 : Int32)) + (-1 : Int32)) + (-1 : Int32))), (.ref v)])) rfl rfl (hb hby d27_102) _ kZ) ?_
            obtain ⟨cc42, Ar42, hc42, hl42⟩ := id V_v_w39
            have hin42 := OwnA.inb (j := ((((((((sz + (-1 : Int32)) + (-1 : Int32)) + (-1 : Int32)) + (-1 : Int32)) + (-1 : Int32)) + (-1 : Int32)) + (-1 : Int32)) + (-1 : Int32))) hl42 (own_nneg hpb) (by simp only [List.length_set, hl]; rw [own_tnc hpb]; omega)
            obtain ⟨T42, h42, X42, e42, W42, st42⟩ := stB X40 hx hZ e40 Ar42 (j := ((((((((sz + (-1 : Int32)) + (-1 : Int32)) + (-1 : Int32)) + (-1 : Int32)) + (-1 : Int32)) + (-1 : Int32)) + (-1 : Int32)) + (-1 : Int32))) hin42 (g := (mkF m 103 #[.val (.int (((i0 / (100 : Int32)) / (100 : Int32)) / (100 : Int32))), .val (.int sz), .val (.ref v), .val (.int (((i0 / (100 : Int32)) / (100 : Int32)) / (100 : Int32))), .val (.int (((((i0 / (100 : Int32)) / (100 : Int32)) / (100 : Int32)) * (100 : Int32)) - ((i0 / (100 : Int32)) / (100 : Int32)))), .val (.int ((((((((sz + (-1 : Int32)) + (-1 : Int32)) + (-1 : Int32)) + (-1 : Int32)) + (-1 : Int32)) + (-1 : Int32)) + (-1 : Int32)) + (-1 : Int32))), .val (.int (0 : Int32))] [(.int dz41), (.int ((((((((sz + (-1 : Int32)) + (-1 : Int32)) + (-1 : Int32)) + (-1 : Int32)) + (-1 : Int32)) + (-1 : Int32)) + (-1 : Int32)) + (-1 : Int32))), (.ref v)])) rfl rfl (hb hby d27_103)
            have N42 := Fr.snoc X42 N39 g_v
            have S_o_42 := S_o_39.wr W42
            have S_t_42 := S_t_39.wr W42
            have A_o_42 := A_o_39.other W42 nov
            have A_t_42 := A_t_39.other W42 ntv
            have Zs42 : n0 ≤ h42.size := Nat.le_trans Zs39 (Keep.of_wr W42).1
            have K42 := K39.wr W42 (Or.inl (List.mem_of_getElem? (i := 0) rfl))
            have V_v_w42 := V_v_w39.set W42
            refine own_by (S' := T42.setTop (mkF m 104 #[.val (.int (((i0 / (100 : Int32)) / (100 : Int32)) / (100 : Int32))), .val (.int sz), .val (.ref v), .val (.int (((i0 / (100 : Int32)) / (100 : Int32)) / (100 : Int32))), .val (.int (((((i0 / (100 : Int32)) / (100 : Int32)) / (100 : Int32)) * (100 : Int32)) - ((i0 / (100 : Int32)) / (100 : Int32)))), .val (.int ((((((((sz + (-1 : Int32)) + (-1 : Int32)) + (-1 : Int32)) + (-1 : Int32)) + (-1 : Int32)) + (-1 : Int32)) + (-1 : Int32)) + (-1 : Int32))), .val (.int (0 : Int32))] [])) st42 ?_
            refine own_by (S' := T42.setTop (mkF m 106 #[.val (.int (((i0 / (100 : Int32)) / (100 : Int32)) / (100 : Int32))), .val (.int sz), .val (.ref v), .val (.int (((i0 / (100 : Int32)) / (100 : Int32)) / (100 : Int32))), .val (.int (((((i0 / (100 : Int32)) / (100 : Int32)) / (100 : Int32)) * (100 : Int32)) - ((i0 / (100 : Int32)) / (100 : Int32)))), .val (.int ((((((((sz + (-1 : Int32)) + (-1 : Int32)) + (-1 : Int32)) + (-1 : Int32)) + (-1 : Int32)) + (-1 : Int32)) + (-1 : Int32)) + (-1 : Int32))), .val (.int (0 : Int32))] [(.int (0 : Int32))])) (fun tZ kZ => XS.iload X42.here hx rfl (hb hby d27_104) rfl kZ) ?_
            refine own_by (S' := T42.setTop (mkF m 118 #[.val (.int (((i0 / (100 : Int32)) / (100 : Int32)) / (100 : Int32))), .val (.int sz), .val (.ref v), .val (.int (((i0 / (100 : Int32)) / (100 : Int32)) / (100 : Int32))), .val (.int (((((i0 / (100 : Int32)) / (100 : Int32)) / (100 : Int32)) * (100 : Int32)) - ((i0 / (100 : Int32)) / (100 : Int32)))), .val (.int ((((((((sz + (-1 : Int32)) + (-1 : Int32)) + (-1 : Int32)) + (-1 : Int32)) + (-1 : Int32)) + (-1 : Int32)) + (-1 : Int32)) + (-1 : Int32))), .val (.int (0 : Int32))] [])) (fun tZ kZ => XS.ifYes X42.here hx rfl (pc0 := 106) (pc' := 118) rfl (hb hby d27_106) rfl ((if0 _ _).trans (teq rfl).1) (by decide) (by decide) kZ) ?_
            refine own_by (S' := T42.setTop (mkF m 120 #[.val (.int (((i0 / (100 : Int32)) / (100 : Int32)) / (100 : Int32))), .val (.int sz), .val (.ref v), .val (.int (((i0 / (100 : Int32)) / (100 : Int32)) / (100 : Int32))), .val (.int (((((i0 / (100 : Int32)) / (100 : Int32)) / (100 : Int32)) * (100 : Int32)) - ((i0 / (100 : Int32)) / (100 : Int32)))), .val (.int ((((((((sz + (-1 : Int32)) + (-1 : Int32)) + (-1 : Int32)) + (-1 : Int32)) + (-1 : Int32)) + (-1 : Int32)) + (-1 : Int32)) + (-1 : Int32))), .val (.int (0 : Int32))] [(.int ((((((((sz + (-1 : Int32)) + (-1 : Int32)) + (-1 : Int32)) + (-1 : Int32)) + (-1 : Int32)) + (-1 : Int32)) + (-1 : Int32)) + (-1 : Int32)))])) (fun tZ kZ => XS.iload X42.here hx rfl (hb hby d27_118) rfl kZ) ?_
            exact own_retI X42 hx (t := .int) Bd.returns (by simp) rfl (hb hby d27_120) Bd.notSynchronized (by decide) (by decide) (show QGc Z v kv h0 n0 _ T42.heap _ from by rw [e42]; exact ⟨_, rfl, N42, K42, _, V_v_w42, by simp only [List.length_set, hl], by repeat (first | exact hf | apply own_fitset)⟩)
          · refine own_by (S' := T39.setTop (mkF m 104 #[.val (.int (((i0 / (100 : Int32)) / (100 : Int32)) / (100 : Int32))), .val (.int sz), .val (.ref v), .val (.int (((i0 / (100 : Int32)) / (100 : Int32)) / (100 : Int32))), .val (.int (((((i0 / (100 : Int32)) / (100 : Int32)) / (100 : Int32)) * (100 : Int32)) - ((i0 / (100 : Int32)) / (100 : Int32)))), .val (.int (((((((sz + (-1 : Int32)) + (-1 : Int32)) + (-1 : Int32)) + (-1 : Int32)) + (-1 : Int32)) + (-1 : Int32)) + (-1 : Int32))), .val (.int (0 : Int32))] [])) (fun tZ kZ => XS.icmpYes X39.here hx rfl (pc0 := 88) (pc' := 104) rfl (hb hby d27_88) rfl (flt hnine).2.1 (by decide) (by decide) kZ) ?_
            refine own_by (S' := T39.setTop (mkF m 106 #[.val (.int (((i0 / (100 : Int32)) / (100 : Int32)) / (100 : Int32))), .val (.int sz), .val (.ref v), .val (.int (((i0 / (100 : Int32)) / (100 : Int32)) / (100 : Int32))), .val (.int (((((i0 / (100 : Int32)) / (100 : Int32)) / (100 : Int32)) * (100 : Int32)) - ((i0 / (100 : Int32)) / (100 : Int32)))), .val (.int (((((((sz + (-1 : Int32)) + (-1 : Int32)) + (-1 : Int32)) + (-1 : Int32)) + (-1 : Int32)) + (-1 : Int32)) + (-1 : Int32))), .val (.int (0 : Int32))] [(.int (0 : Int32))])) (fun tZ kZ => XS.iload X39.here hx rfl (hb hby d27_104) rfl kZ) ?_
            refine own_by (S' := T39.setTop (mkF m 118 #[.val (.int (((i0 / (100 : Int32)) / (100 : Int32)) / (100 : Int32))), .val (.int sz), .val (.ref v), .val (.int (((i0 / (100 : Int32)) / (100 : Int32)) / (100 : Int32))), .val (.int (((((i0 / (100 : Int32)) / (100 : Int32)) / (100 : Int32)) * (100 : Int32)) - ((i0 / (100 : Int32)) / (100 : Int32)))), .val (.int (((((((sz + (-1 : Int32)) + (-1 : Int32)) + (-1 : Int32)) + (-1 : Int32)) + (-1 : Int32)) + (-1 : Int32)) + (-1 : Int32))), .val (.int (0 : Int32))] [])) (fun tZ kZ => XS.ifYes X39.here hx rfl (pc0 := 106) (pc' := 118) rfl (hb hby d27_106) rfl ((if0 _ _).trans (teq rfl).1) (by decide) (by decide) kZ) ?_
            refine own_by (S' := T39.setTop (mkF m 120 #[.val (.int (((i0 / (100 : Int32)) / (100 : Int32)) / (100 : Int32))), .val (.int sz), .val (.ref v), .val (.int (((i0 / (100 : Int32)) / (100 : Int32)) / (100 : Int32))), .val (.int (((((i0 / (100 : Int32)) / (100 : Int32)) / (100 : Int32)) * (100 : Int32)) - ((i0 / (100 : Int32)) / (100 : Int32)))), .val (.int (((((((sz + (-1 : Int32)) + (-1 : Int32)) + (-1 : Int32)) + (-1 : Int32)) + (-1 : Int32)) + (-1 : Int32)) + (-1 : Int32))), .val (.int (0 : Int32))] [(.int (((((((sz + (-1 : Int32)) + (-1 : Int32)) + (-1 : Int32)) + (-1 : Int32)) + (-1 : Int32)) + (-1 : Int32)) + (-1 : Int32)))])) (fun tZ kZ => XS.iload X39.here hx rfl (hb hby d27_118) rfl kZ) ?_
            exact own_retI X39 hx (t := .int) Bd.returns (by simp) rfl (hb hby d27_120) Bd.notSynchronized (by decide) (by decide) (show QGc Z v kv h0 n0 _ T39.heap _ from by rw [e39]; exact ⟨_, rfl, N39, K39, _, V_v_w39, by simp only [List.length_set, hl], by repeat (first | exact hf | apply own_fitset)⟩)
        · refine own_by (S' := T36.setTop (mkF m 28 #[.val (.int (((i0 / (100 : Int32)) / (100 : Int32)) / (100 : Int32))), .val (.int sz), .val (.ref v), .val (.int (((i0 / (100 : Int32)) / (100 : Int32)) / (100 : Int32))), .val (.int (((((i0 / (100 : Int32)) / (100 : Int32)) / (100 : Int32)) * (100 : Int32)) - ((i0 / (100 : Int32)) / (100 : Int32)))), .val (.int ((((((sz + (-1 : Int32)) + (-1 : Int32)) + (-1 : Int32)) + (-1 : Int32)) + (-1 : Int32)) + (-1 : Int32))), .val (.int (0 : Int32))] [])) (fun tZ kZ => XS.icmpNo X36.here hx rfl (hb hby d27_25) rfl (flt hc3).2.2.1 kZ) ?_
          have hX_3 : 100 ≤ X3_ := by
            rw [own_ltI] at hc3
            have e : (-100 : Int32).toInt = -100 := rfl
            omega
          obtain ⟨hk3_3, hp4, hx4_⟩ := own_pw hp3' (by omega) hX_3
          obtain ⟨hq3, hr3⟩ := own_g1 hq2
          have ha3 := own_dec1 hb2 (by omega) (by omega)
          have hb3 := own_dec1 ha3 (by omega) (by omega)
          refine own_by (S' := T36.setTop (mkF m 29 #[.val (.int (((i0 / (100 : Int32)) / (100 : Int32)) / (100 : Int32))), .val (.int sz), .val (.ref v), .val (.int (((i0 / (100 : Int32)) / (100 : Int32)) / (100 : Int32))), .val (.int (((((i0 / (100 : Int32)) / (100 : Int32)) / (100 : Int32)) * (100 : Int32)) - ((i0 / (100 : Int32)) / (100 : Int32)))), .val (.int ((((((sz + (-1 : Int32)) + (-1 : Int32)) + (-1 : Int32)) + (-1 : Int32)) + (-1 : Int32)) + (-1 : Int32))), .val (.int (0 : Int32))] [(.int (((i0 / (100 : Int32)) / (100 : Int32)) / (100 : Int32)))])) (fun tZ kZ => XS.iloadN X36.here hx rfl (hb hby d27_28) rfl kZ) ?_
          refine own_by (S' := T36.setTop (mkF m 31 #[.val (.int (((i0 / (100 : Int32)) / (100 : Int32)) / (100 : Int32))), .val (.int sz), .val (.ref v), .val (.int (((i0 / (100 : Int32)) / (100 : Int32)) / (100 : Int32))), .val (.int (((((i0 / (100 : Int32)) / (100 : Int32)) / (100 : Int32)) * (100 : Int32)) - ((i0 / (100 : Int32)) / (100 : Int32)))), .val (.int ((((((sz + (-1 : Int32)) + (-1 : Int32)) + (-1 : Int32)) + (-1 : Int32)) + (-1 : Int32)) + (-1 : Int32))), .val (.int (0 : Int32))] [(.int (100 : Int32)), (.int (((i0 / (100 : Int32)) / (100 : Int32)) / (100 : Int32)))])) (fun tZ kZ => XS.bipush X36.here hx rfl (hb hby d27_29) kZ) ?_
          refine own_by (S' := T36.setTop (mkF m 32 #[.val (.int (((i0 / (100 : Int32)) / (100 : Int32)) / (100 : Int32))), .val (.int sz), .val (.ref v), .val (.int (((i0 / (100 : Int32)) / (100 : Int32)) / (100 : Int32))), .val (.int (((((i0 / (100 : Int32)) / (100 : Int32)) / (100 : Int32)) * (100 : Int32)) - ((i0 / (100 : Int32)) / (100 : Int32)))), .val (.int ((((((sz + (-1 : Int32)) + (-1 : Int32)) + (-1 : Int32)) + (-1 : Int32)) + (-1 : Int32)) + (-1 : Int32))), .val (.int (0 : Int32))] [(.int ((((i0 / (100 : Int32)) / (100 : Int32)) / (100 : Int32)) / (100 : Int32)))])) (fun tZ kZ => XS.idiv X36.here hx rfl (hb hby d27_31) rfl (by decide) kZ) ?_
          refine own_by (S' := T36.setTop (mkF m 33 #[.val (.int (((i0 / (100 : Int32)) / (100 : Int32)) / (100 : Int32))), .val (.int sz), .val (.ref v), .val (.int ((((i0 / (100 : Int32)) / (100 : Int32)) / (100 : Int32)) / (100 : Int32))), .val (.int (((((i0 / (100 : Int32)) / (100 : Int32)) / (100 : Int32)) * (100 : Int32)) - ((i0 / (100 : Int32)) / (100 : Int32)))), .val (.int ((((((sz + (-1 : Int32)) + (-1 : Int32)) + (-1 : Int32)) + (-1 : Int32)) + (-1 : Int32)) + (-1 : Int32))), .val (.int (0 : Int32))] [])) (fun tZ kZ => XS.istoreN X36.here hx rfl (hb hby d27_32) rfl (l' := #[.val (.int (((i0 / (100 : Int32)) / (100 : Int32)) / (100 : Int32))), .val (.int sz), .val (.ref v), .val (.int ((((i0 / (100 : Int32)) / (100 : Int32)) / (100 : Int32)) / (100 : Int32))), .val (.int (((((i0 / (100 : Int32)) / (100 : Int32)) / (100 : Int32)) * (100 : Int32)) - ((i0 / (100 : Int32)) / (100 : Int32)))), .val (.int ((((((sz + (-1 : Int32)) + (-1 : Int32)) + (-1 : Int32)) + (-1 : Int32)) + (-1 : Int32)) + (-1 : Int32))), .val (.int (0 : Int32))]) rfl kZ) ?_
          refine own_by (S' := T36.setTop (mkF m 34 #[.val (.int (((i0 / (100 : Int32)) / (100 : Int32)) / (100 : Int32))), .val (.int sz), .val (.ref v), .val (.int ((((i0 / (100 : Int32)) / (100 : Int32)) / (100 : Int32)) / (100 : Int32))), .val (.int (((((i0 / (100 : Int32)) / (100 : Int32)) / (100 : Int32)) * (100 : Int32)) - ((i0 / (100 : Int32)) / (100 : Int32)))), .val (.int ((((((sz + (-1 : Int32)) + (-1 : Int32)) + (-1 : Int32)) + (-1 : Int32)) + (-1 : Int32)) + (-1 : Int32))), .val (.int (0 : Int32))] [(.int ((((i0 / (100 : Int32)) / (100 : Int32)) / (100 : Int32)) / (100 : Int32)))])) (fun tZ kZ => XS.iloadN X36.here hx rfl (hb hby d27_33) rfl kZ) ?_
          refine own_by (S' := T36.setTop (mkF m 36 #[.val (.int (((i0 / (100 : Int32)) / (100 : Int32)) / (100 : Int32))), .val (.int sz), .val (.ref v), .val (.int ((((i0 / (100 : Int32)) / (100 : Int32)) / (100 : Int32)) / (100 : Int32))), .val (.int (((((i0 / (100 : Int32)) / (100 : Int32)) / (100 : Int32)) * (100 : Int32)) - ((i0 / (100 : Int32)) / (100 : Int32)))), .val (.int ((((((sz + (-1 : Int32)) + (-1 : Int32)) + (-1 : Int32)) + (-1 : Int32)) + (-1 : Int32)) + (-1 : Int32))), .val (.int (0 : Int32))] [(.int (100 : Int32)), (.int ((((i0 / (100 : Int32)) / (100 : Int32)) / (100 : Int32)) / (100 : Int32)))])) (fun tZ kZ => XS.bipush X36.here hx rfl (hb hby d27_34) kZ) ?_
          refine own_by (S' := T36.setTop (mkF m 37 #[.val (.int (((i0 / (100 : Int32)) / (100 : Int32)) / (100 : Int32))), .val (.int sz), .val (.ref v), .val (.int ((((i0 / (100 : Int32)) / (100 : Int32)) / (100 : Int32)) / (100 : Int32))), .val (.int (((((i0 / (100 : Int32)) / (100 : Int32)) / (100 : Int32)) * (100 : Int32)) - ((i0 / (100 : Int32)) / (100 : Int32)))), .val (.int ((((((sz + (-1 : Int32)) + (-1 : Int32)) + (-1 : Int32)) + (-1 : Int32)) + (-1 : Int32)) + (-1 : Int32))), .val (.int (0 : Int32))] [(.int (((((i0 / (100 : Int32)) / (100 : Int32)) / (100 : Int32)) / (100 : Int32)) * (100 : Int32)))])) (fun tZ kZ => XS.imul X36.here hx rfl (hb hby d27_36) rfl kZ) ?_
          refine own_by (S' := T36.setTop (mkF m 38 #[.val (.int (((i0 / (100 : Int32)) / (100 : Int32)) / (100 : Int32))), .val (.int sz), .val (.ref v), .val (.int ((((i0 / (100 : Int32)) / (100 : Int32)) / (100 : Int32)) / (100 : Int32))), .val (.int (((((i0 / (100 : Int32)) / (100 : Int32)) / (100 : Int32)) * (100 : Int32)) - ((i0 / (100 : Int32)) / (100 : Int32)))), .val (.int ((((((sz + (-1 : Int32)) + (-1 : Int32)) + (-1 : Int32)) + (-1 : Int32)) + (-1 : Int32)) + (-1 : Int32))), .val (.int (0 : Int32))] [(.int (((i0 / (100 : Int32)) / (100 : Int32)) / (100 : Int32))), (.int (((((i0 / (100 : Int32)) / (100 : Int32)) / (100 : Int32)) / (100 : Int32)) * (100 : Int32)))])) (fun tZ kZ => XS.iloadN X36.here hx rfl (hb hby d27_37) rfl kZ) ?_
          refine own_by (S' := T36.setTop (mkF m 39 #[.val (.int (((i0 / (100 : Int32)) / (100 : Int32)) / (100 : Int32))), .val (.int sz), .val (.ref v), .val (.int ((((i0 / (100 : Int32)) / (100 : Int32)) / (100 : Int32)) / (100 : Int32))), .val (.int (((((i0 / (100 : Int32)) / (100 : Int32)) / (100 : Int32)) * (100 : Int32)) - ((i0 / (100 : Int32)) / (100 : Int32)))), .val (.int ((((((sz + (-1 : Int32)) + (-1 : Int32)) + (-1 : Int32)) + (-1 : Int32)) + (-1 : Int32)) + (-1 : Int32))), .val (.int (0 : Int32))] [(.int ((((((i0 / (100 : Int32)) / (100 : Int32)) / (100 : Int32)) / (100 : Int32)) * (100 : Int32)) - (((i0 / (100 : Int32)) / (100 : Int32)) / (100 : Int32))))])) (fun tZ kZ => XS.isub X36.here hx rfl (hb hby d27_38) rfl kZ) ?_
          refine own_by (S' := T36.setTop (mkF m 41 #[.val (.int (((i0 / (100 : Int32)) / (100 : Int32)) / (100 : Int32))), .val (.int sz), .val (.ref v), .val (.int ((((i0 / (100 : Int32)) / (100 : Int32)) / (100 : Int32)) / (100 : Int32))), .val (.int ((((((i0 / (100 : Int32)) / (100 : Int32)) / (100 : Int32)) / (100 : Int32)) * (100 : Int32)) - (((i0 / (100 : Int32)) / (100 : Int32)) / (100 : Int32)))), .val (.int ((((((sz + (-1 : Int32)) + (-1 : Int32)) + (-1 : Int32)) + (-1 : Int32)) + (-1 : Int32)) + (-1 : Int32))), .val (.int (0 : Int32))] [])) (fun tZ kZ => XS.istore X36.here hx rfl (hb hby d27_39) rfl (l' := #[.val (.int (((i0 / (100 : Int32)) / (100 : Int32)) / (100 : Int32))), .val (.int sz), .val (.ref v), .val (.int ((((i0 / (100 : Int32)) / (100 : Int32)) / (100 : Int32)) / (100 : Int32))), .val (.int ((((((i0 / (100 : Int32)) / (100 : Int32)) / (100 : Int32)) / (100 : Int32)) * (100 : Int32)) - (((i0 / (100 : Int32)) / (100 : Int32)) / (100 : Int32)))), .val (.int ((((((sz + (-1 : Int32)) + (-1 : Int32)) + (-1 : Int32)) + (-1 : Int32)) + (-1 : Int32)) + (-1 : Int32))), .val (.int (0 : Int32))]) rfl kZ) ?_
          refine own_by (S' := T36.setTop (mkF m 42 #[.val (.int (((i0 / (100 : Int32)) / (100 : Int32)) / (100 : Int32))), .val (.int sz), .val (.ref v), .val (.int ((((i0 / (100 : Int32)) / (100 : Int32)) / (100 : Int32)) / (100 : Int32))), .val (.int ((((((i0 / (100 : Int32)) / (100 : Int32)) / (100 : Int32)) / (100 : Int32)) * (100 : Int32)) - (((i0 / (100 : Int32)) / (100 : Int32)) / (100 : Int32)))), .val (.int ((((((sz + (-1 : Int32)) + (-1 : Int32)) + (-1 : Int32)) + (-1 : Int32)) + (-1 : Int32)) + (-1 : Int32))), .val (.int (0 : Int32))] [(.int ((((i0 / (100 : Int32)) / (100 : Int32)) / (100 : Int32)) / (100 : Int32)))])) (fun tZ kZ => XS.iloadN X36.here hx rfl (hb hby d27_41) rfl kZ) ?_
          refine own_by (S' := T36.setTop (mkF m 43 #[.val (.int ((((i0 / (100 : Int32)) / (100 : Int32)) / (100 : Int32)) / (100 : Int32))), .val (.int sz), .val (.ref v), .val (.int ((((i0 / (100 : Int32)) / (100 : Int32)) / (100 : Int32)) / (100 : Int32))), .val (.int ((((((i0 / (100 : Int32)) / (100 : Int32)) / (100 : Int32)) / (100 : Int32)) * (100 : Int32)) - (((i0 / (100 : Int32)) / (100 : Int32)) / (100 : Int32)))), .val (.int ((((((sz + (-1 : Int32)) + (-1 : Int32)) + (-1 : Int32)) + (-1 : Int32)) + (-1 : Int32)) + (-1 : Int32))), .val (.int (0 : Int32))] [])) (fun tZ kZ => XS.istoreN X36.here hx rfl (hb hby d27_42) rfl (l' := #[.val (.int ((((i0 / (100 : Int32)) / (100 : Int32)) / (100 : Int32)) / (100 : Int32))), .val (.int sz), .val (.ref v), .val (.int ((((i0 / (100 : Int32)) / (100 : Int32)) / (100 : Int32)) / (100 : Int32))), .val (.int ((((((i0 / (100 : Int32)) / (100 : Int32)) / (100 : Int32)) / (100 : Int32)) * (100 : Int32)) - (((i0 / (100 : Int32)) / (100 : Int32)) / (100 : Int32)))), .val (.int ((((((sz + (-1 : Int32)) + (-1 : Int32)) + (-1 : Int32)) + (-1 : Int32)) + (-1 : Int32)) + (-1 : Int32))), .val (.int (0 : Int32))]) rfl kZ) ?_
          refine own_by (S' := T36.setTop (mkF m 44 #[.val (.int ((((i0 / (100 : Int32)) / (100 : Int32)) / (100 : Int32)) / (100 : Int32))), .val (.int sz), .val (.ref v), .val (.int ((((i0 / (100 : Int32)) / (100 : Int32)) / (100 : Int32)) / (100 : Int32))), .val (.int ((((((i0 / (100 : Int32)) / (100 : Int32)) / (100 : Int32)) / (100 : Int32)) * (100 : Int32)) - (((i0 / (100 : Int32)) / (100 : Int32)) / (100 : Int32)))), .val (.int ((((((sz + (-1 : Int32)) + (-1 : Int32)) + (-1 : Int32)) + (-1 : Int32)) + (-1 : Int32)) + (-1 : Int32))), .val (.int (0 : Int32))] [(.ref v)])) (fun tZ kZ => XS.aloadN X36.here hx rfl (hb hby d27_43) rfl rfl kZ) ?_
          refine own_by (S' := T36.setTop (mkF m 47 #[.val (.int ((((i0 / (100 : Int32)) / (100 : Int32)) / (100 : Int32)) / (100 : Int32))), .val (.int sz), .val (.ref v), .val (.int ((((i0 / (100 : Int32)) / (100 : Int32)) / (100 : Int32)) / (100 : Int32))), .val (.int ((((((i0 / (100 : Int32)) / (100 : Int32)) / (100 : Int32)) / (100 : Int32)) * (100 : Int32)) - (((i0 / (100 : Int32)) / (100 : Int32)) / (100 : Int32)))), .val (.int (((((((sz + (-1 : Int32)) + (-1 : Int32)) + (-1 : Int32)) + (-1 : Int32)) + (-1 : Int32)) + (-1 : Int32)) + (-1 : Int32))), .val (.int (0 : Int32))] [(.ref v)])) (fun tZ kZ => XS.iinc X36.here hx rfl (hb hby d27_44) rfl (l' := #[.val (.int ((((i0 / (100 : Int32)) / (100 : Int32)) / (100 : Int32)) / (100 : Int32))), .val (.int sz), .val (.ref v), .val (.int ((((i0 / (100 : Int32)) / (100 : Int32)) / (100 : Int32)) / (100 : Int32))), .val (.int ((((((i0 / (100 : Int32)) / (100 : Int32)) / (100 : Int32)) / (100 : Int32)) * (100 : Int32)) - (((i0 / (100 : Int32)) / (100 : Int32)) / (100 : Int32)))), .val (.int (((((((sz + (-1 : Int32)) + (-1 : Int32)) + (-1 : Int32)) + (-1 : Int32)) + (-1 : Int32)) + (-1 : Int32)) + (-1 : Int32))), .val (.int (0 : Int32))]) rfl kZ) ?_
          refine own_by (S' := T36.setTop (mkF m 49 #[.val (.int ((((i0 / (100 : Int32)) / (100 : Int32)) / (100 : Int32)) / (100 : Int32))), .val (.int sz), .val (.ref v), .val (.int ((((i0 / (100 : Int32)) / (100 : Int32)) / (100 : Int32)) / (100 : Int32))), .val (.int ((((((i0 / (100 : Int32)) / (100 : Int32)) / (100 : Int32)) / (100 : Int32)) * (100 : Int32)) - (((i0 / (100 : Int32)) / (100 : Int32)) / (100 : Int32)))), .val (.int (((((((sz + (-1 : Int32)) + (-1 : Int32)) + (-1 : Int32)) + (-1 : Int32)) + (-1 : Int32)) + (-1 : Int32)) + (-1 : Int32))), .val (.int (0 : Int32))] [(.int (((((((sz + (-1 : Int32)) + (-1 : Int32)) + (-1 : Int32)) + (-1 : Int32)) + (-1 : Int32)) + (-1 : Int32)) + (-1 : Int32))), (.ref v)])) (fun tZ kZ => XS.iload X36.here hx rfl (hb hby d27_47) rfl kZ) ?_
          obtain ⟨T43, X43, e43, st43⟩ := getS2 X36 hx hZ hown (host := "") (Or.inl (hw_ hw 153 rfl)) Via.refl e36 S_o_36 (g := (mkF m 49 #[.val (.int ((((i0 / (100 : Int32)) / (100 : Int32)) / (100 : Int32)) / (100 : Int32))), .val (.int sz), .val (.ref v), .val (.int ((((i0 / (100 : Int32)) / (100 : Int32)) / (100 : Int32)) / (100 : Int32))), .val (.int ((((((i0 / (100 : Int32)) / (100 : Int32)) / (100 : Int32)) / (100 : Int32)) * (100 : Int32)) - (((i0 / (100 : Int32)) / (100 : Int32)) / (100 : Int32)))), .val (.int (((((((sz + (-1 : Int32)) + (-1 : Int32)) + (-1 : Int32)) + (-1 : Int32)) + (-1 : Int32)) + (-1 : Int32)) + (-1 : Int32))), .val (.int (0 : Int32))] [(.int (((((((sz + (-1 : Int32)) + (-1 : Int32)) + (-1 : Int32)) + (-1 : Int32)) + (-1 : Int32)) + (-1 : Int32)) + (-1 : Int32))), (.ref v)])) rfl (hb hby d27_49)
          refine own_by (S' := T43.setTop (mkF m 52 #[.val (.int ((((i0 / (100 : Int32)) / (100 : Int32)) / (100 : Int32)) / (100 : Int32))), .val (.int sz), .val (.ref v), .val (.int ((((i0 / (100 : Int32)) / (100 : Int32)) / (100 : Int32)) / (100 : Int32))), .val (.int ((((((i0 / (100 : Int32)) / (100 : Int32)) / (100 : Int32)) / (100 : Int32)) * (100 : Int32)) - (((i0 / (100 : Int32)) / (100 : Int32)) / (100 : Int32)))), .val (.int (((((((sz + (-1 : Int32)) + (-1 : Int32)) + (-1 : Int32)) + (-1 : Int32)) + (-1 : Int32)) + (-1 : Int32)) + (-1 : Int32))), .val (.int (0 : Int32))] [(.ref do_), (.int (((((((sz + (-1 : Int32)) + (-1 : Int32)) + (-1 : Int32)) + (-1 : Int32)) + (-1 : Int32)) + (-1 : Int32)) + (-1 : Int32))), (.ref v)])) st43 ?_
          refine own_by (S' := T43.setTop (mkF m 54 #[.val (.int ((((i0 / (100 : Int32)) / (100 : Int32)) / (100 : Int32)) / (100 : Int32))), .val (.int sz), .val (.ref v), .val (.int ((((i0 / (100 : Int32)) / (100 : Int32)) / (100 : Int32)) / (100 : Int32))), .val (.int ((((((i0 / (100 : Int32)) / (100 : Int32)) / (100 : Int32)) / (100 : Int32)) * (100 : Int32)) - (((i0 / (100 : Int32)) / (100 : Int32)) / (100 : Int32)))), .val (.int (((((((sz + (-1 : Int32)) + (-1 : Int32)) + (-1 : Int32)) + (-1 : Int32)) + (-1 : Int32)) + (-1 : Int32)) + (-1 : Int32))), .val (.int (0 : Int32))] [(.int ((((((i0 / (100 : Int32)) / (100 : Int32)) / (100 : Int32)) / (100 : Int32)) * (100 : Int32)) - (((i0 / (100 : Int32)) / (100 : Int32)) / (100 : Int32)))), (.ref do_), (.int (((((((sz + (-1 : Int32)) + (-1 : Int32)) + (-1 : Int32)) + (-1 : Int32)) + (-1 : Int32)) + (-1 : Int32)) + (-1 : Int32))), (.ref v)])) (fun tZ kZ => XS.iload X43.here hx rfl (hb hby d27_52) rfl kZ) ?_
          obtain ⟨dz44, hdz44⟩ := e_o (X3_ % 100) (by omega)
          refine own_by (S' := T43.setTop (mkF m 55 #[.val (.int ((((i0 / (100 : Int32)) / (100 : Int32)) / (100 : Int32)) / (100 : Int32))), .val (.int sz), .val (.ref v), .val (.int ((((i0 / (100 : Int32)) / (100 : Int32)) / (100 : Int32)) / (100 : Int32))), .val (.int ((((((i0 / (100 : Int32)) / (100 : Int32)) / (100 : Int32)) / (100 : Int32)) * (100 : Int32)) - (((i0 / (100 : Int32)) / (100 : Int32)) / (100 : Int32)))), .val (.int (((((((sz + (-1 : Int32)) + (-1 : Int32)) + (-1 : Int32)) + (-1 : Int32)) + (-1 : Int32)) + (-1 : Int32)) + (-1 : Int32))), .val (.int (0 : Int32))] [(.int dz44), (.int (((((((sz + (-1 : Int32)) + (-1 : Int32)) + (-1 : Int32)) + (-1 : Int32)) + (-1 : Int32)) + (-1 : Int32)) + (-1 : Int32))), (.ref v)])) (fun tZ kZ => X43.baloadBytes hx (j := ((((((i0 / (100 : Int32)) / (100 : Int32)) / (100 : Int32)) / (100 : Int32)) * (100 : Int32)) - (((i0 / (100 : Int32)) / (100 : Int32)) / (100 : Int32)))) (v := (.int dz44)) (by rw [e43]; exact A_o_36.1) (State.isArrayOf_alike hZ.alike A_o_36.2.1) A_o_36.2.2 (by rintro (q | q); exact own_nneg hr3 q; rw [own_tnc hr3, z_o] at q; omega) (by rw [own_tnc hr3]; exact hdz44) (g := (mkF m 54 #[.val (.int ((((i0 / (100 : Int32)) / (100 : Int32)) / (100 : Int32)) / (100 : Int32))), .val (.int sz), .val (.ref v), .val (.int ((((i0 / (100 : Int32)) / (100 : Int32)) / (100 : Int32)) / (100 : Int32))), .val (.int ((((((i0 / (100 : Int32)) / (100 : Int32)) / (100 : Int32)) / (100 : Int32)) * (100 : Int32)) - (((i0 / (100 : Int32)) / (100 : Int32)) / (100 : Int32)))), .val (.int (((((((sz + (-1 : Int32)) + (-1 : Int32)) + (-1 : Int32)) + (-1 : Int32)) + (-1 : Int32)) + (-1 : Int32)) + (-1 : Int32))), .val (.int (0 : Int32))] [(.int ((((((i0 / (100 : Int32)) / (100 : Int32)) / (100 : Int32)) / (100 : Int32)) * (100 : Int32)) - (((i0 / (100 : Int32)) / (100 : Int32)) / (100 : Int32)))), (.ref do_), (.int (((((((sz + (-1 : Int32)) + (-1 : Int32)) + (-1 : Int32)) + (-1 : Int32)) + (-1 : Int32)) + (-1 : Int32)) + (-1 : Int32))), (.ref v)])) rfl rfl (hb hby d27_54) _ kZ) ?_
          obtain ⟨cc45, Ar45, hc45, hl45⟩ := id V_v_w36
          have hin45 := OwnA.inb (j := (((((((sz + (-1 : Int32)) + (-1 : Int32)) + (-1 : Int32)) + (-1 : Int32)) + (-1 : Int32)) + (-1 : Int32)) + (-1 : Int32))) hl45 (own_nneg ha3) (by simp only [List.length_set, hl]; rw [own_tnc ha3]; omega)
          obtain ⟨T45, h45, X45, e45, W45, st45⟩ := stB X43 hx hZ e43 Ar45 (j := (((((((sz + (-1 : Int32)) + (-1 : Int32)) + (-1 : Int32)) + (-1 : Int32)) + (-1 : Int32)) + (-1 : Int32)) + (-1 : Int32))) hin45 (g := (mkF m 55 #[.val (.int ((((i0 / (100 : Int32)) / (100 : Int32)) / (100 : Int32)) / (100 : Int32))), .val (.int sz), .val (.ref v), .val (.int ((((i0 / (100 : Int32)) / (100 : Int32)) / (100 : Int32)) / (100 : Int32))), .val (.int ((((((i0 / (100 : Int32)) / (100 : Int32)) / (100 : Int32)) / (100 : Int32)) * (100 : Int32)) - (((i0 / (100 : Int32)) / (100 : Int32)) / (100 : Int32)))), .val (.int (((((((sz + (-1 : Int32)) + (-1 : Int32)) + (-1 : Int32)) + (-1 : Int32)) + (-1 : Int32)) + (-1 : Int32)) + (-1 : Int32))), .val (.int (0 : Int32))] [(.int dz44), (.int (((((((sz + (-1 : Int32)) + (-1 : Int32)) + (-1 : Int32)) + (-1 : Int32)) + (-1 : Int32)) + (-1 : Int32)) + (-1 : Int32))), (.ref v)])) rfl rfl (hb hby d27_55)
          have N45 := Fr.snoc X45 N36 g_v
          have S_o_45 := S_o_36.wr W45
          have S_t_45 := S_t_36.wr W45
          have A_o_45 := A_o_36.other W45 nov
          have A_t_45 := A_t_36.other W45 ntv
          have Zs45 : n0 ≤ h45.size := Nat.le_trans Zs36 (Keep.of_wr W45).1
          have K45 := K36.wr W45 (Or.inl (List.mem_of_getElem? (i := 0) rfl))
          have V_v_w45 := V_v_w36.set W45
          refine own_by (S' := T45.setTop (mkF m 56 #[.val (.int ((((i0 / (100 : Int32)) / (100 : Int32)) / (100 : Int32)) / (100 : Int32))), .val (.int sz), .val (.ref v), .val (.int ((((i0 / (100 : Int32)) / (100 : Int32)) / (100 : Int32)) / (100 : Int32))), .val (.int ((((((i0 / (100 : Int32)) / (100 : Int32)) / (100 : Int32)) / (100 : Int32)) * (100 : Int32)) - (((i0 / (100 : Int32)) / (100 : Int32)) / (100 : Int32)))), .val (.int (((((((sz + (-1 : Int32)) + (-1 : Int32)) + (-1 : Int32)) + (-1 : Int32)) + (-1 : Int32)) + (-1 : Int32)) + (-1 : Int32))), .val (.int (0 : Int32))] [])) st45 ?_
          refine own_by (S' := T45.setTop (mkF m 57 #[.val (.int ((((i0 / (100 : Int32)) / (100 : Int32)) / (100 : Int32)) / (100 : Int32))), .val (.int sz), .val (.ref v), .val (.int ((((i0 / (100 : Int32)) / (100 : Int32)) / (100 : Int32)) / (100 : Int32))), .val (.int ((((((i0 / (100 : Int32)) / (100 : Int32)) / (100 : Int32)) / (100 : Int32)) * (100 : Int32)) - (((i0 / (100 : Int32)) / (100 : Int32)) / (100 : Int32)))), .val (.int (((((((sz + (-1 : Int32)) + (-1 : Int32)) + (-1 : Int32)) + (-1 : Int32)) + (-1 : Int32)) + (-1 : Int32)) + (-1 : Int32))), .val (.int (0 : Int32))] [(.ref v)])) (fun tZ kZ => XS.aloadN X45.here hx rfl (hb hby d27_56) rfl rfl kZ) ?_
          refine own_by (S' := T45.setTop (mkF m 60 #[.val (.int ((((i0 / (100 : Int32)) / (100 : Int32)) / (100 : Int32)) / (100 : Int32))), .val (.int sz), .val (.ref v), .val (.int ((((i0 / (100 : Int32)) / (100 : Int32)) / (100 : Int32)) / (100 : Int32))), .val (.int ((((((i0 / (100 : Int32)) / (100 : Int32)) / (100 : Int32)) / (100 : Int32)) * (100 : Int32)) - (((i0 / (100 : Int32)) / (100 : Int32)) / (100 : Int32)))), .val (.int ((((((((sz + (-1 : Int32)) + (-1 : Int32)) + (-1 : Int32)) + (-1 : Int32)) + (-1 : Int32)) + (-1 : Int32)) + (-1 : Int32)) + (-1 : Int32))), .val (.int (0 : Int32))] [(.ref v)])) (fun tZ kZ => XS.iinc X45.here hx rfl (hb hby d27_57) rfl (l' := #[.val (.int ((((i0 / (100 : Int32)) / (100 : Int32)) / (100 : Int32)) / (100 : Int32))), .val (.int sz), .val (.ref v), .val (.int ((((i0 / (100 : Int32)) / (100 : Int32)) / (100 : Int32)) / (100 : Int32))), .val (.int ((((((i0 / (100 : Int32)) / (100 : Int32)) / (100 : Int32)) / (100 : Int32)) * (100 : Int32)) - (((i0 / (100 : Int32)) / (100 : Int32)) / (100 : Int32)))), .val (.int ((((((((sz + (-1 : Int32)) + (-1 : Int32)) + (-1 : Int32)) + (-1 : Int32)) + (-1 : Int32)) + (-1 : Int32)) + (-1 : Int32)) + (-1 : Int32))), .val (.int (0 : Int32))]) rfl kZ) ?_
          refine own_by (S' := T45.setTop (mkF m 62 #[.val (.int ((((i0 / (100 : Int32)) / (100 : Int32)) / (100 : Int32)) / (100 : Int32))), .val (.int sz), .val (.ref v), .val (.int ((((i0 / (100 : Int32)) / (100 : Int32)) / (100 : Int32)) / (100 : Int32))), .val (.int ((((((i0 / (100 : Int32)) / (100 : Int32)) / (100 : Int32)) / (100 : Int32)) * (100 : Int32)) - (((i0 / (100 : Int32)) / (100 : Int32)) / (100 : Int32)))), .val (.int ((((((((sz + (-1 : Int32)) + (-1 : Int32)) + (-1 : Int32)) + (-1 : Int32)) + (-1 : Int32)) + (-1 : Int32)) + (-1 : Int32)) + (-1 : Int32))), .val (.int (0 : Int32))] [(.int ((((((((sz + (-1 : Int32)) + (-1 : Int32)) + (-1 : Int32)) + (-1 : Int32)) + (-1 : Int32)) + (-1 : Int32)) + (-1 : Int32)) + (-1 : Int32))), (.ref v)])) (fun tZ kZ => XS.iload X45.here hx rfl (hb hby d27_60) rfl kZ) ?_
          obtain ⟨T46, X46, e46, st46⟩ := getS2 X45 hx hZ hown (host := "") (Or.inl (hw_ hw 271 rfl)) Via.refl e45 S_t_45 (g := (mkF m 62 #[.val (.int ((((i0 / (100 : Int32)) / (100 : Int32)) / (100 : Int32)) / (100 : Int32))), .val (.int sz), .val (.ref v), .val (.int ((((i0 / (100 : Int32)) / (100 : Int32)) / (100 : Int32)) / (100 : Int32))), .val (.int ((((((i0 / (100 : Int32)) / (100 : Int32)) / (100 : Int32)) / (100 : Int32)) * (100 : Int32)) - (((i0 / (100 : Int32)) / (100 : Int32)) / (100 : Int32)))), .val (.int ((((((((sz + (-1 : Int32)) + (-1 : Int32)) + (-1 : Int32)) + (-1 : Int32)) + (-1 : Int32)) + (-1 : Int32)) + (-1 : Int32)) + (-1 : Int32))), .val (.int (0 : Int32))] [(.int ((((((((sz + (-1 : Int32)) + (-1 : Int32)) + (-1 : Int32)) + (-1 : Int32)) + (-1 : Int32)) + (-1 : Int32)) + (-1 : Int32)) + (-1 : Int32))), (.ref v)])) rfl (hb hby d27_62)
          refine own_by (S' := T46.setTop (mkF m 65 #[.val (.int ((((i0 / (100 : Int32)) / (100 : Int32)) / (100 : Int32)) / (100 : Int32))), .val (.int sz), .val (.ref v), .val (.int ((((i0 / (100 : Int32)) / (100 : Int32)) / (100 : Int32)) / (100 : Int32))), .val (.int ((((((i0 / (100 : Int32)) / (100 : Int32)) / (100 : Int32)) / (100 : Int32)) * (100 : Int32)) - (((i0 / (100 : Int32)) / (100 : Int32)) / (100 : Int32)))), .val (.int ((((((((sz + (-1 : Int32)) + (-1 : Int32)) + (-1 : Int32)) + (-1 : Int32)) + (-1 : Int32)) + (-1 : Int32)) + (-1 : Int32)) + (-1 : Int32))), .val (.int (0 : Int32))] [(.ref dt), (.int ((((((((sz + (-1 : Int32)) + (-1 : Int32)) + (-1 : Int32)) + (-1 : Int32)) + (-1 : Int32)) + (-1 : Int32)) + (-1 : Int32)) + (-1 : Int32))), (.ref v)])) st46 ?_
          refine own_by (S' := T46.setTop (mkF m 67 #[.val (.int ((((i0 / (100 : Int32)) / (100 : Int32)) / (100 : Int32)) / (100 : Int32))), .val (.int sz), .val (.ref v), .val (.int ((((i0 / (100 : Int32)) / (100 : Int32)) / (100 : Int32)) / (100 : Int32))), .val (.int ((((((i0 / (100 : Int32)) / (100 : Int32)) / (100 : Int32)) / (100 : Int32)) * (100 : Int32)) - (((i0 / (100 : Int32)) / (100 : Int32)) / (100 : Int32)))), .val (.int ((((((((sz + (-1 : Int32)) + (-1 : Int32)) + (-1 : Int32)) + (-1 : Int32)) + (-1 : Int32)) + (-1 : Int32)) + (-1 : Int32)) + (-1 : Int32))), .val (.int (0 : Int32))] [(.int ((((((i0 / (100 : Int32)) / (100 : Int32)) / (100 : Int32)) / (100 : Int32)) * (100 : Int32)) - (((i0 / (100 : Int32)) / (100 : Int32)) / (100 : Int32)))), (.ref dt), (.int ((((((((sz + (-1 : Int32)) + (-1 : Int32)) + (-1 : Int32)) + (-1 : Int32)) + (-1 : Int32)) + (-1 : Int32)) + (-1 : Int32)) + (-1 : Int32))), (.ref v)])) (fun tZ kZ => XS.iload X46.here hx rfl (hb hby d27_65) rfl kZ) ?_
          obtain ⟨dz47, hdz47⟩ := e_t (X3_ % 100) (by omega)
          refine own_by (S' := T46.setTop (mkF m 68 #[.val (.int ((((i0 / (100 : Int32)) / (100 : Int32)) / (100 : Int32)) / (100 : Int32))), .val (.int sz), .val (.ref v), .val (.int ((((i0 / (100 : Int32)) / (100 : Int32)) / (100 : Int32)) / (100 : Int32))), .val (.int ((((((i0 / (100 : Int32)) / (100 : Int32)) / (100 : Int32)) / (100 : Int32)) * (100 : Int32)) - (((i0 / (100 : Int32)) / (100 : Int32)) / (100 : Int32)))), .val (.int ((((((((sz + (-1 : Int32)) + (-1 : Int32)) + (-1 : Int32)) + (-1 : Int32)) + (-1 : Int32)) + (-1 : Int32)) + (-1 : Int32)) + (-1 : Int32))), .val (.int (0 : Int32))] [(.int dz47), (.int ((((((((sz + (-1 : Int32)) + (-1 : Int32)) + (-1 : Int32)) + (-1 : Int32)) + (-1 : Int32)) + (-1 : Int32)) + (-1 : Int32)) + (-1 : Int32))), (.ref v)])) (fun tZ kZ => X46.baloadBytes hx (j := ((((((i0 / (100 : Int32)) / (100 : Int32)) / (100 : Int32)) / (100 : Int32)) * (100 : Int32)) - (((i0 / (100 : Int32)) / (100 : Int32)) / (100 : Int32)))) (v := (.int dz47)) (by rw [e46]; exact A_t_45.1) (State.isArrayOf_alike hZ.alike A_t_45.2.1) A_t_45.2.2 (by rintro (q | q); exact own_nneg hr3 q; rw [own_tnc hr3, z_t] at q; omega) (by rw [own_tnc hr3]; exact hdz47) (g := (mkF m 67 #[.val (.int ((((i0 / (100 : Int32)) / (100 : Int32)) / (100 : Int32)) / (100 : Int32))), .val (.int sz), .val (.ref v), .val (.int ((((i0 / (100 : Int32)) / (100 : Int32)) / (100 : Int32)) / (100 : Int32))), .val (.int ((((((i0 / (100 : Int32)) / (100 : Int32)) / (100 : Int32)) / (100 : Int32)) * (100 : Int32)) - (((i0 / (100 : Int32)) / (100 : Int32)) / (100 : Int32)))), .val (.int ((((((((sz + (-1 : Int32)) + (-1 : Int32)) + (-1 : Int32)) + (-1 : Int32)) + (-1 : Int32)) + (-1 : Int32)) + (-1 : Int32)) + (-1 : Int32))), .val (.int (0 : Int32))] [(.int ((((((i0 / (100 : Int32)) / (100 : Int32)) / (100 : Int32)) / (100 : Int32)) * (100 : Int32)) - (((i0 / (100 : Int32)) / (100 : Int32)) / (100 : Int32)))), (.ref dt), (.int ((((((((sz + (-1 : Int32)) + (-1 : Int32)) + (-1 : Int32)) + (-1 : Int32)) + (-1 : Int32)) + (-1 : Int32)) + (-1 : Int32)) + (-1 : Int32))), (.ref v)])) rfl rfl (hb hby d27_67) _ kZ) ?_
          obtain ⟨cc48, Ar48, hc48, hl48⟩ := id V_v_w45
          have hin48 := OwnA.inb (j := ((((((((sz + (-1 : Int32)) + (-1 : Int32)) + (-1 : Int32)) + (-1 : Int32)) + (-1 : Int32)) + (-1 : Int32)) + (-1 : Int32)) + (-1 : Int32))) hl48 (own_nneg hb3) (by simp only [List.length_set, hl]; rw [own_tnc hb3]; omega)
          obtain ⟨T48, h48, X48, e48, W48, st48⟩ := stB X46 hx hZ e46 Ar48 (j := ((((((((sz + (-1 : Int32)) + (-1 : Int32)) + (-1 : Int32)) + (-1 : Int32)) + (-1 : Int32)) + (-1 : Int32)) + (-1 : Int32)) + (-1 : Int32))) hin48 (g := (mkF m 68 #[.val (.int ((((i0 / (100 : Int32)) / (100 : Int32)) / (100 : Int32)) / (100 : Int32))), .val (.int sz), .val (.ref v), .val (.int ((((i0 / (100 : Int32)) / (100 : Int32)) / (100 : Int32)) / (100 : Int32))), .val (.int ((((((i0 / (100 : Int32)) / (100 : Int32)) / (100 : Int32)) / (100 : Int32)) * (100 : Int32)) - (((i0 / (100 : Int32)) / (100 : Int32)) / (100 : Int32)))), .val (.int ((((((((sz + (-1 : Int32)) + (-1 : Int32)) + (-1 : Int32)) + (-1 : Int32)) + (-1 : Int32)) + (-1 : Int32)) + (-1 : Int32)) + (-1 : Int32))), .val (.int (0 : Int32))] [(.int dz47), (.int ((((((((sz + (-1 : Int32)) + (-1 : Int32)) + (-1 : Int32)) + (-1 : Int32)) + (-1 : Int32)) + (-1 : Int32)) + (-1 : Int32)) + (-1 : Int32))), (.ref v)])) rfl rfl (hb hby d27_68)
          have N48 := Fr.snoc X48 N45 g_v
          have S_o_48 := S_o_45.wr W48
          have S_t_48 := S_t_45.wr W48
          have A_o_48 := A_o_45.other W48 nov
          have A_t_48 := A_t_45.other W48 ntv
          have Zs48 : n0 ≤ h48.size := Nat.le_trans Zs45 (Keep.of_wr W48).1
          have K48 := K45.wr W48 (Or.inl (List.mem_of_getElem? (i := 0) rfl))
          have V_v_w48 := V_v_w45.set W48
          refine own_by (S' := T48.setTop (mkF m 69 #[.val (.int ((((i0 / (100 : Int32)) / (100 : Int32)) / (100 : Int32)) / (100 : Int32))), .val (.int sz), .val (.ref v), .val (.int ((((i0 / (100 : Int32)) / (100 : Int32)) / (100 : Int32)) / (100 : Int32))), .val (.int ((((((i0 / (100 : Int32)) / (100 : Int32)) / (100 : Int32)) / (100 : Int32)) * (100 : Int32)) - (((i0 / (100 : Int32)) / (100 : Int32)) / (100 : Int32)))), .val (.int ((((((((sz + (-1 : Int32)) + (-1 : Int32)) + (-1 : Int32)) + (-1 : Int32)) + (-1 : Int32)) + (-1 : Int32)) + (-1 : Int32)) + (-1 : Int32))), .val (.int (0 : Int32))] [])) st48 ?_
          refine own_by (S' := T48.setTop (mkF m 22 #[.val (.int ((((i0 / (100 : Int32)) / (100 : Int32)) / (100 : Int32)) / (100 : Int32))), .val (.int sz), .val (.ref v), .val (.int ((((i0 / (100 : Int32)) / (100 : Int32)) / (100 : Int32)) / (100 : Int32))), .val (.int ((((((i0 / (100 : Int32)) / (100 : Int32)) / (100 : Int32)) / (100 : Int32)) * (100 : Int32)) - (((i0 / (100 : Int32)) / (100 : Int32)) / (100 : Int32)))), .val (.int ((((((((sz + (-1 : Int32)) + (-1 : Int32)) + (-1 : Int32)) + (-1 : Int32)) + (-1 : Int32)) + (-1 : Int32)) + (-1 : Int32)) + (-1 : Int32))), .val (.int (0 : Int32))] [])) (fun tZ kZ => XS.goto X48.here hx rfl (pc0 := 69) (pc' := 22) rfl (hb hby d27_69) (by decide) (by decide) kZ) ?_
          obtain ⟨X4_, hXe3⟩ : ∃ z : Nat, z = X3_ / 100 := ⟨_, rfl⟩
          rw [← hXe3] at hp4 hx4_ hq3
          obtain ⟨k4_, hke3⟩ : ∃ z : Nat, z = k3_ - 1 - 1 := ⟨_, rfl⟩
          rw [← hke3] at hb3
          have hp4' : X4_ < 10 ^ k4_ := by rw [show k4_ = k3_ - 2 from by omega]; exact hp4
          have hkk4 : k4_ ≤ 2 := by omega
          refine own_by (S' := T48.setTop (mkF m 23 #[.val (.int ((((i0 / (100 : Int32)) / (100 : Int32)) / (100 : Int32)) / (100 : Int32))), .val (.int sz), .val (.ref v), .val (.int ((((i0 / (100 : Int32)) / (100 : Int32)) / (100 : Int32)) / (100 : Int32))), .val (.int ((((((i0 / (100 : Int32)) / (100 : Int32)) / (100 : Int32)) / (100 : Int32)) * (100 : Int32)) - (((i0 / (100 : Int32)) / (100 : Int32)) / (100 : Int32)))), .val (.int ((((((((sz + (-1 : Int32)) + (-1 : Int32)) + (-1 : Int32)) + (-1 : Int32)) + (-1 : Int32)) + (-1 : Int32)) + (-1 : Int32)) + (-1 : Int32))), .val (.int (0 : Int32))] [(.int ((((i0 / (100 : Int32)) / (100 : Int32)) / (100 : Int32)) / (100 : Int32)))])) (fun tZ kZ => XS.iloadN X48.here hx rfl (hb hby d27_22) rfl kZ) ?_
          refine own_by (S' := T48.setTop (mkF m 25 #[.val (.int ((((i0 / (100 : Int32)) / (100 : Int32)) / (100 : Int32)) / (100 : Int32))), .val (.int sz), .val (.ref v), .val (.int ((((i0 / (100 : Int32)) / (100 : Int32)) / (100 : Int32)) / (100 : Int32))), .val (.int ((((((i0 / (100 : Int32)) / (100 : Int32)) / (100 : Int32)) / (100 : Int32)) * (100 : Int32)) - (((i0 / (100 : Int32)) / (100 : Int32)) / (100 : Int32)))), .val (.int ((((((((sz + (-1 : Int32)) + (-1 : Int32)) + (-1 : Int32)) + (-1 : Int32)) + (-1 : Int32)) + (-1 : Int32)) + (-1 : Int32)) + (-1 : Int32))), .val (.int (0 : Int32))] [(.int (-100 : Int32)), (.int ((((i0 / (100 : Int32)) / (100 : Int32)) / (100 : Int32)) / (100 : Int32)))])) (fun tZ kZ => XS.bipush X48.here hx rfl (hb hby d27_23) kZ) ?_
          have hX100 : X4_ < 100 := own_pw3 hp4' (by omega)
          refine own_by (S' := T48.setTop (mkF m 72 #[.val (.int ((((i0 / (100 : Int32)) / (100 : Int32)) / (100 : Int32)) / (100 : Int32))), .val (.int sz), .val (.ref v), .val (.int ((((i0 / (100 : Int32)) / (100 : Int32)) / (100 : Int32)) / (100 : Int32))), .val (.int ((((((i0 / (100 : Int32)) / (100 : Int32)) / (100 : Int32)) / (100 : Int32)) * (100 : Int32)) - (((i0 / (100 : Int32)) / (100 : Int32)) / (100 : Int32)))), .val (.int ((((((((sz + (-1 : Int32)) + (-1 : Int32)) + (-1 : Int32)) + (-1 : Int32)) + (-1 : Int32)) + (-1 : Int32)) + (-1 : Int32)) + (-1 : Int32))), .val (.int (0 : Int32))] [])) (fun tZ kZ => XS.icmpYes X48.here hx rfl (pc0 := 25) (pc' := 72) rfl (hb hby d27_25) rfl (tlt (by rw [own_ltI]; have e : (-100 : Int32).toInt = -100 := rfl; omega)).2.2.1 (by decide) (by decide) kZ) ?_
          have hk1 := own_pw1 hp4' hx4_
          have hpa := own_dec1 hb3 hk1 (by omega)
          have hni : (-((((i0 / (100 : Int32)) / (100 : Int32)) / (100 : Int32)) / (100 : Int32))).toInt = ((X4_ : Nat) : Int) := by
            have a := c_ineg ((((i0 / (100 : Int32)) / (100 : Int32)) / (100 : Int32)) / (100 : Int32))
            have b := rng32 (-((((i0 / (100 : Int32)) / (100 : Int32)) / (100 : Int32)) / (100 : Int32)))
            omega
          refine own_by (S' := T48.setTop (mkF m 73 #[.val (.int ((((i0 / (100 : Int32)) / (100 : Int32)) / (100 : Int32)) / (100 : Int32))), .val (.int sz), .val (.ref v), .val (.int ((((i0 / (100 : Int32)) / (100 : Int32)) / (100 : Int32)) / (100 : Int32))), .val (.int ((((((i0 / (100 : Int32)) / (100 : Int32)) / (100 : Int32)) / (100 : Int32)) * (100 : Int32)) - (((i0 / (100 : Int32)) / (100 : Int32)) / (100 : Int32)))), .val (.int ((((((((sz + (-1 : Int32)) + (-1 : Int32)) + (-1 : Int32)) + (-1 : Int32)) + (-1 : Int32)) + (-1 : Int32)) + (-1 : Int32)) + (-1 : Int32))), .val (.int (0 : Int32))] [(.ref v)])) (fun tZ kZ => XS.aloadN X48.here hx rfl (hb hby d27_72) rfl rfl kZ) ?_
          refine own_by (S' := T48.setTop (mkF m 76 #[.val (.int ((((i0 / (100 : Int32)) / (100 : Int32)) / (100 : Int32)) / (100 : Int32))), .val (.int sz), .val (.ref v), .val (.int ((((i0 / (100 : Int32)) / (100 : Int32)) / (100 : Int32)) / (100 : Int32))), .val (.int ((((((i0 / (100 : Int32)) / (100 : Int32)) / (100 : Int32)) / (100 : Int32)) * (100 : Int32)) - (((i0 / (100 : Int32)) / (100 : Int32)) / (100 : Int32)))), .val (.int (((((((((sz + (-1 : Int32)) + (-1 : Int32)) + (-1 : Int32)) + (-1 : Int32)) + (-1 : Int32)) + (-1 : Int32)) + (-1 : Int32)) + (-1 : Int32)) + (-1 : Int32))), .val (.int (0 : Int32))] [(.ref v)])) (fun tZ kZ => XS.iinc X48.here hx rfl (hb hby d27_73) rfl (l' := #[.val (.int ((((i0 / (100 : Int32)) / (100 : Int32)) / (100 : Int32)) / (100 : Int32))), .val (.int sz), .val (.ref v), .val (.int ((((i0 / (100 : Int32)) / (100 : Int32)) / (100 : Int32)) / (100 : Int32))), .val (.int ((((((i0 / (100 : Int32)) / (100 : Int32)) / (100 : Int32)) / (100 : Int32)) * (100 : Int32)) - (((i0 / (100 : Int32)) / (100 : Int32)) / (100 : Int32)))), .val (.int (((((((((sz + (-1 : Int32)) + (-1 : Int32)) + (-1 : Int32)) + (-1 : Int32)) + (-1 : Int32)) + (-1 : Int32)) + (-1 : Int32)) + (-1 : Int32)) + (-1 : Int32))), .val (.int (0 : Int32))]) rfl kZ) ?_
          refine own_by (S' := T48.setTop (mkF m 78 #[.val (.int ((((i0 / (100 : Int32)) / (100 : Int32)) / (100 : Int32)) / (100 : Int32))), .val (.int sz), .val (.ref v), .val (.int ((((i0 / (100 : Int32)) / (100 : Int32)) / (100 : Int32)) / (100 : Int32))), .val (.int ((((((i0 / (100 : Int32)) / (100 : Int32)) / (100 : Int32)) / (100 : Int32)) * (100 : Int32)) - (((i0 / (100 : Int32)) / (100 : Int32)) / (100 : Int32)))), .val (.int (((((((((sz + (-1 : Int32)) + (-1 : Int32)) + (-1 : Int32)) + (-1 : Int32)) + (-1 : Int32)) + (-1 : Int32)) + (-1 : Int32)) + (-1 : Int32)) + (-1 : Int32))), .val (.int (0 : Int32))] [(.int (((((((((sz + (-1 : Int32)) + (-1 : Int32)) + (-1 : Int32)) + (-1 : Int32)) + (-1 : Int32)) + (-1 : Int32)) + (-1 : Int32)) + (-1 : Int32)) + (-1 : Int32))), (.ref v)])) (fun tZ kZ => XS.iload X48.here hx rfl (hb hby d27_76) rfl kZ) ?_
          obtain ⟨T49, X49, e49, st49⟩ := getS2 X48 hx hZ hown (host := "") (Or.inl (hw_ hw 153 rfl)) Via.refl e48 S_o_48 (g := (mkF m 78 #[.val (.int ((((i0 / (100 : Int32)) / (100 : Int32)) / (100 : Int32)) / (100 : Int32))), .val (.int sz), .val (.ref v), .val (.int ((((i0 / (100 : Int32)) / (100 : Int32)) / (100 : Int32)) / (100 : Int32))), .val (.int ((((((i0 / (100 : Int32)) / (100 : Int32)) / (100 : Int32)) / (100 : Int32)) * (100 : Int32)) - (((i0 / (100 : Int32)) / (100 : Int32)) / (100 : Int32)))), .val (.int (((((((((sz + (-1 : Int32)) + (-1 : Int32)) + (-1 : Int32)) + (-1 : Int32)) + (-1 : Int32)) + (-1 : Int32)) + (-1 : Int32)) + (-1 : Int32)) + (-1 : Int32))), .val (.int (0 : Int32))] [(.int (((((((((sz + (-1 : Int32)) + (-1 : Int32)) + (-1 : Int32)) + (-1 : Int32)) + (-1 : Int32)) + (-1 : Int32)) + (-1 : Int32)) + (-1 : Int32)) + (-1 : Int32))), (.ref v)])) rfl (hb hby d27_78)
          refine own_by (S' := T49.setTop (mkF m 81 #[.val (.int ((((i0 / (100 : Int32)) / (100 : Int32)) / (100 : Int32)) / (100 : Int32))), .val (.int sz), .val (.ref v), .val (.int ((((i0 / (100 : Int32)) / (100 : Int32)) / (100 : Int32)) / (100 : Int32))), .val (.int ((((((i0 / (100 : Int32)) / (100 : Int32)) / (100 : Int32)) / (100 : Int32)) * (100 : Int32)) - (((i0 / (100 : Int32)) / (100 : Int32)) / (100 : Int32)))), .val (.int (((((((((sz + (-1 : Int32)) + (-1 : Int32)) + (-1 : Int32)) + (-1 : Int32)) + (-1 : Int32)) + (-1 : Int32)) + (-1 : Int32)) + (-1 : Int32)) + (-1 : Int32))), .val (.int (0 : Int32))] [(.ref do_), (.int (((((((((sz + (-1 : Int32)) + (-1 : Int32)) + (-1 : Int32)) + (-1 : Int32)) + (-1 : Int32)) + (-1 : Int32)) + (-1 : Int32)) + (-1 : Int32)) + (-1 : Int32))), (.ref v)])) st49 ?_
          refine own_by (S' := T49.setTop (mkF m 82 #[.val (.int ((((i0 / (100 : Int32)) / (100 : Int32)) / (100 : Int32)) / (100 : Int32))), .val (.int sz), .val (.ref v), .val (.int ((((i0 / (100 : Int32)) / (100 : Int32)) / (100 : Int32)) / (100 : Int32))), .val (.int ((((((i0 / (100 : Int32)) / (100 : Int32)) / (100 : Int32)) / (100 : Int32)) * (100 : Int32)) - (((i0 / (100 : Int32)) / (100 : Int32)) / (100 : Int32)))), .val (.int (((((((((sz + (-1 : Int32)) + (-1 : Int32)) + (-1 : Int32)) + (-1 : Int32)) + (-1 : Int32)) + (-1 : Int32)) + (-1 : Int32)) + (-1 : Int32)) + (-1 : Int32))), .val (.int (0 : Int32))] [(.int ((((i0 / (100 : Int32)) / (100 : Int32)) / (100 : Int32)) / (100 : Int32))), (.ref do_), (.int (((((((((sz + (-1 : Int32)) + (-1 : Int32)) + (-1 : Int32)) + (-1 : Int32)) + (-1 : Int32)) + (-1 : Int32)) + (-1 : Int32)) + (-1 : Int32)) + (-1 : Int32))), (.ref v)])) (fun tZ kZ => XS.iloadN X49.here hx rfl (hb hby d27_81) rfl kZ) ?_
          refine own_by (S' := T49.setTop (mkF m 83 #[.val (.int ((((i0 / (100 : Int32)) / (100 : Int32)) / (100 : Int32)) / (100 : Int32))), .val (.int sz), .val (.ref v), .val (.int ((((i0 / (100 : Int32)) / (100 : Int32)) / (100 : Int32)) / (100 : Int32))), .val (.int ((((((i0 / (100 : Int32)) / (100 : Int32)) / (100 : Int32)) / (100 : Int32)) * (100 : Int32)) - (((i0 / (100 : Int32)) / (100 : Int32)) / (100 : Int32)))), .val (.int (((((((((sz + (-1 : Int32)) + (-1 : Int32)) + (-1 : Int32)) + (-1 : Int32)) + (-1 : Int32)) + (-1 : Int32)) + (-1 : Int32)) + (-1 : Int32)) + (-1 : Int32))), .val (.int (0 : Int32))] [(.int (-((((i0 / (100 : Int32)) / (100 : Int32)) / (100 : Int32)) / (100 : Int32)))), (.ref do_), (.int (((((((((sz + (-1 : Int32)) + (-1 : Int32)) + (-1 : Int32)) + (-1 : Int32)) + (-1 : Int32)) + (-1 : Int32)) + (-1 : Int32)) + (-1 : Int32)) + (-1 : Int32))), (.ref v)])) (fun tZ kZ => XS.ineg X49.here hx rfl (hb hby d27_82) rfl kZ) ?_
          obtain ⟨dz50, hdz50⟩ := e_o (X4_) (by omega)
          refine own_by (S' := T49.setTop (mkF m 84 #[.val (.int ((((i0 / (100 : Int32)) / (100 : Int32)) / (100 : Int32)) / (100 : Int32))), .val (.int sz), .val (.ref v), .val (.int ((((i0 / (100 : Int32)) / (100 : Int32)) / (100 : Int32)) / (100 : Int32))), .val (.int ((((((i0 / (100 : Int32)) / (100 : Int32)) / (100 : Int32)) / (100 : Int32)) * (100 : Int32)) - (((i0 / (100 : Int32)) / (100 : Int32)) / (100 : Int32)))), .val (.int (((((((((sz + (-1 : Int32)) + (-1 : Int32)) + (-1 : Int32)) + (-1 : Int32)) + (-1 : Int32)) + (-1 : Int32)) + (-1 : Int32)) + (-1 : Int32)) + (-1 : Int32))), .val (.int (0 : Int32))] [(.int dz50), (.int (((((((((sz + (-1 : Int32)) + (-1 : Int32)) + (-1 : Int32)) + (-1 : Int32)) + (-1 : Int32)) + (-1 : Int32)) + (-1 : Int32)) + (-1 : Int32)) + (-1 : Int32))), (.ref v)])) (fun tZ kZ => X49.baloadBytes hx (j := (-((((i0 / (100 : Int32)) / (100 : Int32)) / (100 : Int32)) / (100 : Int32)))) (v := (.int dz50)) (by rw [e49]; exact A_o_48.1) (State.isArrayOf_alike hZ.alike A_o_48.2.1) A_o_48.2.2 (by rintro (q | q); exact own_nneg hni q; rw [own_tnc hni, z_o] at q; omega) (by rw [own_tnc hni]; exact hdz50) (g := (mkF m 83 #[.val (.int ((((i0 / (100 : Int32)) / (100 : Int32)) / (100 : Int32)) / (100 : Int32))), .val (.int sz), .val (.ref v), .val (.int ((((i0 / (100 : Int32)) / (100 : Int32)) / (100 : Int32)) / (100 : Int32))), .val (.int ((((((i0 / (100 : Int32)) / (100 : Int32)) / (100 : Int32)) / (100 : Int32)) * (100 : Int32)) - (((i0 / (100 : Int32)) / (100 : Int32)) / (100 : Int32)))), .val (.int (((((((((sz + (-1 : Int32)) + (-1 : Int32)) + (-1 : Int32)) + (-1 : Int32)) + (-1 : Int32)) + (-1 : Int32)) + (-1 : Int32)) + (-1 : Int32)) + (-1 : Int32))), .val (.int (0 : Int32))] [(.int (-((((i0 / (100 : Int32)) / (100 : Int32)) / (100 : Int32)) / (100 : Int32)))), (.ref do_), (.int (((((((((sz + (-1 : Int32)) + (-1 : Int32)) + (-1 : Int32)) + (-1 : Int32)) + (-1 : Int32)) + (-1 : Int32)) + (-1 : Int32)) + (-1 : Int32)) + (-1 : Int32))), (.ref v)])) rfl rfl (hb hby d27_83) _ kZ) ?_
          obtain ⟨cc51, Ar51, hc51, hl51⟩ := id V_v_w48
          have hin51 := OwnA.inb (j := (((((((((sz + (-1 : Int32)) + (-1 : Int32)) + (-1 : Int32)) + (-1 : Int32)) + (-1 : Int32)) + (-1 : Int32)) + (-1 : Int32)) + (-1 : Int32)) + (-1 : Int32))) hl51 (own_nneg hpa) (by simp only [List.length_set, hl]; rw [own_tnc hpa]; omega)
          obtain ⟨T51, h51, X51, e51, W51, st51⟩ := stB X49 hx hZ e49 Ar51 (j := (((((((((sz + (-1 : Int32)) + (-1 : Int32)) + (-1 : Int32)) + (-1 : Int32)) + (-1 : Int32)) + (-1 : Int32)) + (-1 : Int32)) + (-1 : Int32)) + (-1 : Int32))) hin51 (g := (mkF m 84 #[.val (.int ((((i0 / (100 : Int32)) / (100 : Int32)) / (100 : Int32)) / (100 : Int32))), .val (.int sz), .val (.ref v), .val (.int ((((i0 / (100 : Int32)) / (100 : Int32)) / (100 : Int32)) / (100 : Int32))), .val (.int ((((((i0 / (100 : Int32)) / (100 : Int32)) / (100 : Int32)) / (100 : Int32)) * (100 : Int32)) - (((i0 / (100 : Int32)) / (100 : Int32)) / (100 : Int32)))), .val (.int (((((((((sz + (-1 : Int32)) + (-1 : Int32)) + (-1 : Int32)) + (-1 : Int32)) + (-1 : Int32)) + (-1 : Int32)) + (-1 : Int32)) + (-1 : Int32)) + (-1 : Int32))), .val (.int (0 : Int32))] [(.int dz50), (.int (((((((((sz + (-1 : Int32)) + (-1 : Int32)) + (-1 : Int32)) + (-1 : Int32)) + (-1 : Int32)) + (-1 : Int32)) + (-1 : Int32)) + (-1 : Int32)) + (-1 : Int32))), (.ref v)])) rfl rfl (hb hby d27_84)
          have N51 := Fr.snoc X51 N48 g_v
          have S_o_51 := S_o_48.wr W51
          have S_t_51 := S_t_48.wr W51
          have A_o_51 := A_o_48.other W51 nov
          have A_t_51 := A_t_48.other W51 ntv
          have Zs51 : n0 ≤ h51.size := Nat.le_trans Zs48 (Keep.of_wr W51).1
          have K51 := K48.wr W51 (Or.inl (List.mem_of_getElem? (i := 0) rfl))
          have V_v_w51 := V_v_w48.set W51
          refine own_by (S' := T51.setTop (mkF m 85 #[.val (.int ((((i0 / (100 : Int32)) / (100 : Int32)) / (100 : Int32)) / (100 : Int32))), .val (.int sz), .val (.ref v), .val (.int ((((i0 / (100 : Int32)) / (100 : Int32)) / (100 : Int32)) / (100 : Int32))), .val (.int ((((((i0 / (100 : Int32)) / (100 : Int32)) / (100 : Int32)) / (100 : Int32)) * (100 : Int32)) - (((i0 / (100 : Int32)) / (100 : Int32)) / (100 : Int32)))), .val (.int (((((((((sz + (-1 : Int32)) + (-1 : Int32)) + (-1 : Int32)) + (-1 : Int32)) + (-1 : Int32)) + (-1 : Int32)) + (-1 : Int32)) + (-1 : Int32)) + (-1 : Int32))), .val (.int (0 : Int32))] [])) st51 ?_
          refine own_by (S' := T51.setTop (mkF m 86 #[.val (.int ((((i0 / (100 : Int32)) / (100 : Int32)) / (100 : Int32)) / (100 : Int32))), .val (.int sz), .val (.ref v), .val (.int ((((i0 / (100 : Int32)) / (100 : Int32)) / (100 : Int32)) / (100 : Int32))), .val (.int ((((((i0 / (100 : Int32)) / (100 : Int32)) / (100 : Int32)) / (100 : Int32)) * (100 : Int32)) - (((i0 / (100 : Int32)) / (100 : Int32)) / (100 : Int32)))), .val (.int (((((((((sz + (-1 : Int32)) + (-1 : Int32)) + (-1 : Int32)) + (-1 : Int32)) + (-1 : Int32)) + (-1 : Int32)) + (-1 : Int32)) + (-1 : Int32)) + (-1 : Int32))), .val (.int (0 : Int32))] [(.int ((((i0 / (100 : Int32)) / (100 : Int32)) / (100 : Int32)) / (100 : Int32)))])) (fun tZ kZ => XS.iloadN X51.here hx rfl (hb hby d27_85) rfl kZ) ?_
          refine own_by (S' := T51.setTop (mkF m 88 #[.val (.int ((((i0 / (100 : Int32)) / (100 : Int32)) / (100 : Int32)) / (100 : Int32))), .val (.int sz), .val (.ref v), .val (.int ((((i0 / (100 : Int32)) / (100 : Int32)) / (100 : Int32)) / (100 : Int32))), .val (.int ((((((i0 / (100 : Int32)) / (100 : Int32)) / (100 : Int32)) / (100 : Int32)) * (100 : Int32)) - (((i0 / (100 : Int32)) / (100 : Int32)) / (100 : Int32)))), .val (.int (((((((((sz + (-1 : Int32)) + (-1 : Int32)) + (-1 : Int32)) + (-1 : Int32)) + (-1 : Int32)) + (-1 : Int32)) + (-1 : Int32)) + (-1 : Int32)) + (-1 : Int32))), .val (.int (0 : Int32))] [(.int (-9 : Int32)), (.int ((((i0 / (100 : Int32)) / (100 : Int32)) / (100 : Int32)) / (100 : Int32)))])) (fun tZ kZ => XS.bipush X51.here hx rfl (hb hby d27_86) kZ) ?_
          by_cases hnine : ((((i0 / (100 : Int32)) / (100 : Int32)) / (100 : Int32)) / (100 : Int32)) < (-9 : Int32)
          · refine own_by (S' := T51.setTop (mkF m 91 #[.val (.int ((((i0 / (100 : Int32)) / (100 : Int32)) / (100 : Int32)) / (100 : Int32))), .val (.int sz), .val (.ref v), .val (.int ((((i0 / (100 : Int32)) / (100 : Int32)) / (100 : Int32)) / (100 : Int32))), .val (.int ((((((i0 / (100 : Int32)) / (100 : Int32)) / (100 : Int32)) / (100 : Int32)) * (100 : Int32)) - (((i0 / (100 : Int32)) / (100 : Int32)) / (100 : Int32)))), .val (.int (((((((((sz + (-1 : Int32)) + (-1 : Int32)) + (-1 : Int32)) + (-1 : Int32)) + (-1 : Int32)) + (-1 : Int32)) + (-1 : Int32)) + (-1 : Int32)) + (-1 : Int32))), .val (.int (0 : Int32))] [])) (fun tZ kZ => XS.icmpNo X51.here hx rfl (hb hby d27_88) rfl (tlt hnine).2.1 kZ) ?_
            have hX10 : 10 ≤ X4_ := by
              rw [own_ltI] at hnine
              have e : (-9 : Int32).toInt = -9 := rfl
              omega
            have hk2 := own_pw2 hp4' hX10
            have hpb := own_dec1 hpa (by omega) (by omega)
            refine own_by (S' := T51.setTop (mkF m 92 #[.val (.int ((((i0 / (100 : Int32)) / (100 : Int32)) / (100 : Int32)) / (100 : Int32))), .val (.int sz), .val (.ref v), .val (.int ((((i0 / (100 : Int32)) / (100 : Int32)) / (100 : Int32)) / (100 : Int32))), .val (.int ((((((i0 / (100 : Int32)) / (100 : Int32)) / (100 : Int32)) / (100 : Int32)) * (100 : Int32)) - (((i0 / (100 : Int32)) / (100 : Int32)) / (100 : Int32)))), .val (.int (((((((((sz + (-1 : Int32)) + (-1 : Int32)) + (-1 : Int32)) + (-1 : Int32)) + (-1 : Int32)) + (-1 : Int32)) + (-1 : Int32)) + (-1 : Int32)) + (-1 : Int32))), .val (.int (0 : Int32))] [(.ref v)])) (fun tZ kZ => XS.aloadN X51.here hx rfl (hb hby d27_91) rfl rfl kZ) ?_
            refine own_by (S' := T51.setTop (mkF m 95 #[.val (.int ((((i0 / (100 : Int32)) / (100 : Int32)) / (100 : Int32)) / (100 : Int32))), .val (.int sz), .val (.ref v), .val (.int ((((i0 / (100 : Int32)) / (100 : Int32)) / (100 : Int32)) / (100 : Int32))), .val (.int ((((((i0 / (100 : Int32)) / (100 : Int32)) / (100 : Int32)) / (100 : Int32)) * (100 : Int32)) - (((i0 / (100 : Int32)) / (100 : Int32)) / (100 : Int32)))), .val (.int ((((((((((sz + (-1 : Int32)) + (-1 : Int32)) + (-1 : Int32)) + (-1 : Int32)) + (-1 : Int32)) + (-1 : Int32)) + (-1 : Int32)) + (-1 : Int32)) + (-1 : Int32)) + (-1 : Int32))), .val (.int (0 : Int32))] [(.ref v)])) (fun tZ kZ => XS.iinc X51.here hx rfl (hb hby d27_92) rfl (l' := #[.val (.int ((((i0 / (100 : Int32)) / (100 : Int32)) / (100 : Int32)) / (100 : Int32))), .val (.int sz), .val (.ref v), .val (.int ((((i0 / (100 : Int32)) / (100 : Int32)) / (100 : Int32)) / (100 : Int32))), .val (.int ((((((i0 / (100 : Int32)) / (100 : Int32)) / (100 : Int32)) / (100 : Int32)) * (100 : Int32)) - (((i0 / (100 : Int32)) / (100 : Int32)) / (100 : Int32)))), .val (.int ((((((((((sz + (-1 : Int32)) + (-1 : Int32)) + (-1 : Int32)) + (-1 : Int32)) + (-1 : Int32)) + (-1 : Int32)) + (-1 : Int32)) + (-1 : Int32)) + (-1 : Int32)) + (-1 : Int32))), .val (.int (0 : Int32))]) rfl kZ) ?_
            refine own_by (S' := T51.setTop (mkF m 97 #[.val (.int ((((i0 / (100 : Int32)) / (100 : Int32)) / (100 : Int32)) / (100 : Int32))), .val (.int sz), .val (.ref v), .val (.int ((((i0 / (100 : Int32)) / (100 : Int32)) / (100 : Int32)) / (100 : Int32))), .val (.int ((((((i0 / (100 : Int32)) / (100 : Int32)) / (100 : Int32)) / (100 : Int32)) * (100 : Int32)) - (((i0 / (100 : Int32)) / (100 : Int32)) / (100 : Int32)))), .val (.int ((((((((((sz + (-1 : Int32)) + (-1 : Int32)) + (-1 : Int32)) + (-1 : Int32)) + (-1 : Int32)) + (-1 : Int32)) + (-1 : Int32)) + (-1 : Int32)) + (-1 : Int32)) + (-1 : Int32))), .val (.int (0 : Int32))] [(.int ((((((((((sz + (-1 : Int32)) + (-1 : Int32)) + (-1 : Int32)) + (-1 : Int32)) + (-1 : Int32)) + (-1 : Int32)) + (-1 : Int32)) + (-1 : Int32)) + (-1 : Int32)) + (-1 : Int32))), (.ref v)])) (fun tZ kZ => XS.iload X51.here hx rfl (hb hby d27_95) rfl kZ) ?_
            obtain ⟨T52, X52, e52, st52⟩ := getS2 X51 hx hZ hown (host := "") (Or.inl (hw_ hw 271 rfl)) Via.refl e51 S_t_51 (g := (mkF m 97 #[.val (.int ((((i0 / (100 : Int32)) / (100 : Int32)) / (100 : Int32)) / (100 : Int32))), .val (.int sz), .val (.ref v), .val (.int ((((i0 / (100 : Int32)) / (100 : Int32)) / (100 : Int32)) / (100 : Int32))), .val (.int ((((((i0 / (100 : Int32)) / (100 : Int32)) / (100 : Int32)) / (100 : Int32)) * (100 : Int32)) - (((i0 / (100 : Int32)) / (100 : Int32)) / (100 : Int32)))), .val (.int ((((((((((sz + (-1 : Int32)) + (-1 : Int32)) + (-1 : Int32)) + (-1 : Int32)) + (-1 : Int32)) + (-1 : Int32)) + (-1 : Int32)) + (-1 : Int32)) + (-1 : Int32)) + (-1 : Int32))), .val (.int (0 : Int32))] [(.int ((((((((((sz + (-1 : Int32)) + (-1 : Int32)) + (-1 : Int32)) + (-1 : Int32)) + (-1 : Int32)) + (-1 : Int32)) + (-1 : Int32)) + (-1 : Int32)) + (-1 : Int32)) + (-1 : Int32))), (.ref v)])) rfl (hb hby d27_97)
            refine own_by (S' := T52.setTop (mkF m 100 #[.val (.int ((((i0 / (100 : Int32)) / (100 : Int32)) / (100 : Int32)) / (100 : Int32))), .val (.int sz), .val (.ref v), .val (.int ((((i0 / (100 : Int32)) / (100 : Int32)) / (100 : Int32)) / (100 : Int32))), .val (.int ((((((i0 / (100 : Int32)) / (100 : Int32)) / (100 : Int32)) / (100 : Int32)) * (100 : Int32)) - (((i0 / (100 : Int32)) / (100 : Int32)) / (100 : Int32)))), .val (.int ((((((((((sz + (-1 : Int32)) + (-1 : Int32)) + (-1 : Int32)) + (-1 : Int32)) + (-1 : Int32)) + (-1 : Int32)) + (-1 : Int32)) + (-1 : Int32)) + (-1 : Int32)) + (-1 : Int32))), .val (.int (0 : Int32))] [(.ref dt), (.int ((((((((((sz + (-1 : Int32)) + (-1 : Int32)) + (-1 : Int32)) + (-1 : Int32)) + (-1 : Int32)) + (-1 : Int32)) + (-1 : Int32)) + (-1 : Int32)) + (-1 : Int32)) + (-1 : Int32))), (.ref v)])) st52 ?_
            refine own_by (S' := T52.setTop (mkF m 101 #[.val (.int ((((i0 / (100 : Int32)) / (100 : Int32)) / (100 : Int32)) / (100 : Int32))), .val (.int sz), .val (.ref v), .val (.int ((((i0 / (100 : Int32)) / (100 : Int32)) / (100 : Int32)) / (100 : Int32))), .val (.int ((((((i0 / (100 : Int32)) / (100 : Int32)) / (100 : Int32)) / (100 : Int32)) * (100 : Int32)) - (((i0 / (100 : Int32)) / (100 : Int32)) / (100 : Int32)))), .val (.int ((((((((((sz + (-1 : Int32)) + (-1 : Int32)) + (-1 : Int32)) + (-1 : Int32)) + (-1 : Int32)) + (-1 : Int32)) + (-1 : Int32)) + (-1 : Int32)) + (-1 : Int32)) + (-1 : Int32))), .val (.int (0 : Int32))] [(.int ((((i0 / (100 : Int32)) / (100 : Int32)) / (100 : Int32)) / (100 : Int32))), (.ref dt), (.int ((((((((((sz + (-1 : Int32)) + (-1 : Int32)) + (-1 : Int32)) + (-1 : Int32)) + (-1 : Int32)) + (-1 : Int32)) + (-1 : Int32)) + (-1 : Int32)) + (-1 : Int32)) + (-1 : Int32))), (.ref v)])) (fun tZ kZ => XS.iloadN X52.here hx rfl (hb hby d27_100) rfl kZ) ?_
            refine own_by (S' := T52.setTop (mkF m 102 #[.val (.int ((((i0 / (100 : Int32)) / (100 : Int32)) / (100 : Int32)) / (100 : Int32))), .val (.int sz), .val (.ref v), .val (.int ((((i0 / (100 : Int32)) / (100 : Int32)) / (100 : Int32)) / (100 : Int32))), .val (.int ((((((i0 / (100 : Int32)) / (100 : Int32)) / (100 : Int32)) / (100 : Int32)) * (100 : Int32)) - (((i0 / (100 : Int32)) / (100 : Int32)) / (100 : Int32)))), .val (.int ((((((((((sz + (-1 : Int32)) + (-1 : Int32)) + (-1 : Int32)) + (-1 : Int32)) + (-1 : Int32)) + (-1 : Int32)) + (-1 : Int32)) + (-1 : Int32)) + (-1 : Int32)) + (-1 : Int32))), .val (.int (0 : Int32))] [(.int (-((((i0 / (100 : Int32)) / (100 : Int32)) / (100 : Int32)) / (100 : Int32)))), (.ref dt), (.int ((((((((((sz + (-1 : Int32)) + (-1 : Int32)) + (-1 : Int32)) + (-1 : Int32)) + (-1 : Int32)) + (-1 : Int32)) + (-1 : Int32)) + (-1 : Int32)) + (-1 : Int32)) + (-1 : Int32))), (.ref v)])) (fun tZ kZ => XS.ineg X52.here hx rfl (hb hby d27_101) rfl kZ) ?_
            obtain ⟨dz53, hdz53⟩ := e_t (X4_) (by omega)
            refine own_by (S' := T52.setTop (mkF m 103 #[.val (.int ((((i0 / (100 : Int32)) / (100 : Int32)) / (100 : Int32)) / (100 : Int32))), .val (.int sz), .val (.ref v), .val (.int ((((i0 / (100 : Int32)) / (100 : Int32)) / (100 : Int32)) / (100 : Int32))), .val (.int ((((((i0 / (100 : Int32)) / (100 : Int32)) / (100 : Int32)) / (100 : Int32)) * (100 : Int32)) - (((i0 / (100 : Int32)) / (100 : Int32)) / (100 : Int32)))), .val (.int ((((((((((sz + (-1 : Int32)) + (-1 : Int32)) + (-1 : Int32)) + (-1 : Int32)) + (-1 : Int32)) + (-1 : Int32)) + (-1 : Int32)) + (-1 : Int32)) + (-1 : Int32)) + (-1 : Int32))), .val (.int (0 : Int32))] [(.int dz53), (.int ((((((((((sz + (-1 : Int32)) + (-1 : Int32)) + (-1 : Int32)) + (-1 : Int32)) + (-1 : Int32)) + (-1 : Int32)) + (-1 : Int32)) + (-1 : Int32)) + (-1 : Int32)) + (-1 : Int32))), (.ref v)])) (fun tZ kZ => X52.baloadBytes hx (j := (-((((i0 / (100 : Int32)) / (100 : Int32)) / (100 : Int32)) / (100 : Int32)))) (v := (.int dz53)) (by rw [e52]; exact A_t_51.1) (State.isArrayOf_alike hZ.alike A_t_51.2.1) A_t_51.2.2 (by rintro (q | q); exact own_nneg hni q; rw [own_tnc hni, z_t] at q; omega) (by rw [own_tnc hni]; exact hdz53) (g := (mkF m 102 #[.val (.int ((((i0 / (100 : Int32)) / (100 : Int32)) / (100 : Int32)) / (100 : Int32))), .val (.int sz), .val (.ref v), .val (.int ((((i0 / (100 : Int32)) / (100 : Int32)) / (100 : Int32)) / (100 : Int32))), .val (.int ((((((i0 / (100 : Int32)) / (100 : Int32)) / (100 : Int32)) / (100 : Int32)) * (100 : Int32)) - (((i0 / (100 : Int32)) / (100 : Int32)) / (100 : Int32)))), .val (.int ((((((((((sz + (-1 : Int32)) + (-1 : Int32)) + (-1 : Int32)) + (-1 : Int32)) + (-1 : Int32)) + (-1 : Int32)) + (-1 : Int32)) + (-1 : Int32)) + (-1 : Int32)) + (-1 : Int32))), .val (.int (0 : Int32))] [(.int (-((((i0 / (100 : Int32)) / (100 : Int32)) / (100 : Int32)) / (100 : Int32)))), (.ref dt), (.int ((((((((((sz + (-1 : Int32)) + (-1 : Int32)) + (-1 : Int32)) + (-1 : Int32)) + (-1 : Int32)) + (-1 : Int32)) + (-1 : Int32)) + (-1 : Int32)) + (-1 : Int32)) + (-1 : Int32))), (.ref v)])) rfl rfl (hb hby d27_102) _ kZ) ?_
            obtain ⟨cc54, Ar54, hc54, hl54⟩ := id V_v_w51
            have hin54 := OwnA.inb (j := ((((((((((sz + (-1 : Int32)) + (-1 : Int32)) + (-1 : Int32)) + (-1 : Int32)) + (-1 : Int32)) + (-1 : Int32)) + (-1 : Int32)) + (-1 : Int32)) + (-1 : Int32)) + (-1 : Int32))) hl54 (own_nneg hpb) (by simp only [List.length_set, hl]; rw [own_tnc hpb]; omega)
            obtain ⟨T54, h54, X54, e54, W54, st54⟩ := stB X52 hx hZ e52 Ar54 (j := ((((((((((sz + (-1 : Int32)) + (-1 : Int32)) + (-1 : Int32)) + (-1 : Int32)) + (-1 : Int32)) + (-1 : Int32)) + (-1 : Int32)) + (-1 : Int32)) + (-1 : Int32)) + (-1 : Int32))) hin54 (g := (mkF m 103 #[.val (.int ((((i0 / (100 : Int32)) / (100 : Int32)) / (100 : Int32)) / (100 : Int32))), .val (.int sz), .val (.ref v), .val (.int ((((i0 / (100 : Int32)) / (100 : Int32)) / (100 : Int32)) / (100 : Int32))), .val (.int ((((((i0 / (100 : Int32)) / (100 : Int32)) / (100 : Int32)) / (100 : Int32)) * (100 : Int32)) - (((i0 / (100 : Int32)) / (100 : Int32)) / (100 : Int32)))), .val (.int ((((((((((sz + (-1 : Int32)) + (-1 : Int32)) + (-1 : Int32)) + (-1 : Int32)) + (-1 : Int32)) + (-1 : Int32)) + (-1 : Int32)) + (-1 : Int32)) + (-1 : Int32)) + (-1 : Int32))), .val (.int (0 : Int32))] [(.int dz53), (.int ((((((((((sz + (-1 : Int32)) + (-1 : Int32)) + (-1 : Int32)) + (-1 : Int32)) + (-1 : Int32)) + (-1 : Int32)) + (-1 : Int32)) + (-1 : Int32)) + (-1 : Int32)) + (-1 : Int32))), (.ref v)])) rfl rfl (hb hby d27_103)
            have N54 := Fr.snoc X54 N51 g_v
            have S_o_54 := S_o_51.wr W54
            have S_t_54 := S_t_51.wr W54
            have A_o_54 := A_o_51.other W54 nov
            have A_t_54 := A_t_51.other W54 ntv
            have Zs54 : n0 ≤ h54.size := Nat.le_trans Zs51 (Keep.of_wr W54).1
            have K54 := K51.wr W54 (Or.inl (List.mem_of_getElem? (i := 0) rfl))
            have V_v_w54 := V_v_w51.set W54
            refine own_by (S' := T54.setTop (mkF m 104 #[.val (.int ((((i0 / (100 : Int32)) / (100 : Int32)) / (100 : Int32)) / (100 : Int32))), .val (.int sz), .val (.ref v), .val (.int ((((i0 / (100 : Int32)) / (100 : Int32)) / (100 : Int32)) / (100 : Int32))), .val (.int ((((((i0 / (100 : Int32)) / (100 : Int32)) / (100 : Int32)) / (100 : Int32)) * (100 : Int32)) - (((i0 / (100 : Int32)) / (100 : Int32)) / (100 : Int32)))), .val (.int ((((((((((sz + (-1 : Int32)) + (-1 : Int32)) + (-1 : Int32)) + (-1 : Int32)) + (-1 : Int32)) + (-1 : Int32)) + (-1 : Int32)) + (-1 : Int32)) + (-1 : Int32)) + (-1 : Int32))), .val (.int (0 : Int32))] [])) st54 ?_
            refine own_by (S' := T54.setTop (mkF m 106 #[.val (.int ((((i0 / (100 : Int32)) / (100 : Int32)) / (100 : Int32)) / (100 : Int32))), .val (.int sz), .val (.ref v), .val (.int ((((i0 / (100 : Int32)) / (100 : Int32)) / (100 : Int32)) / (100 : Int32))), .val (.int ((((((i0 / (100 : Int32)) / (100 : Int32)) / (100 : Int32)) / (100 : Int32)) * (100 : Int32)) - (((i0 / (100 : Int32)) / (100 : Int32)) / (100 : Int32)))), .val (.int ((((((((((sz + (-1 : Int32)) + (-1 : Int32)) + (-1 : Int32)) + (-1 : Int32)) + (-1 : Int32)) + (-1 : Int32)) + (-1 : Int32)) + (-1 : Int32)) + (-1 : Int32)) + (-1 : Int32))), .val (.int (0 : Int32))] [(.int (0 : Int32))])) (fun tZ kZ => XS.iload X54.here hx rfl (hb hby d27_104) rfl kZ) ?_
            refine own_by (S' := T54.setTop (mkF m 118 #[.val (.int ((((i0 / (100 : Int32)) / (100 : Int32)) / (100 : Int32)) / (100 : Int32))), .val (.int sz), .val (.ref v), .val (.int ((((i0 / (100 : Int32)) / (100 : Int32)) / (100 : Int32)) / (100 : Int32))), .val (.int ((((((i0 / (100 : Int32)) / (100 : Int32)) / (100 : Int32)) / (100 : Int32)) * (100 : Int32)) - (((i0 / (100 : Int32)) / (100 : Int32)) / (100 : Int32)))), .val (.int ((((((((((sz + (-1 : Int32)) + (-1 : Int32)) + (-1 : Int32)) + (-1 : Int32)) + (-1 : Int32)) + (-1 : Int32)) + (-1 : Int32)) + (-1 : Int32)) + (-1 : Int32)) + (-1 : Int32))), .val (.int (0 : Int32))] [])) (fun tZ kZ => XS.ifYes X54.here hx rfl (pc0 := 106) (pc' := 118) rfl (hb hby d27_106) rfl ((if0 _ _).trans (teq rfl).1) (by decide) (by decide) kZ) ?_
            refine own_by (S' := T54.setTop (mkF m 120 #[.val (.int ((((i0 / (100 : Int32)) / (100 : Int32)) / (100 : Int32)) / (100 : Int32))), .val (.int sz), .val (.ref v), .val (.int ((((i0 / (100 : Int32)) / (100 : Int32)) / (100 : Int32)) / (100 : Int32))), .val (.int ((((((i0 / (100 : Int32)) / (100 : Int32)) / (100 : Int32)) / (100 : Int32)) * (100 : Int32)) - (((i0 / (100 : Int32)) / (100 : Int32)) / (100 : Int32)))), .val (.int ((((((((((sz + (-1 : Int32)) + (-1 : Int32)) + (-1 : Int32)) + (-1 : Int32)) + (-1 : Int32)) + (-1 : Int32)) + (-1 : Int32)) + (-1 : Int32)) + (-1 : Int32)) + (-1 : Int32))), .val (.int (0 : Int32))] [(.int ((((((((((sz + (-1 : Int32)) + (-1 : Int32)) + (-1 : Int32)) + (-1 : Int32)) + (-1 : Int32)) + (-1 : Int32)) + (-1 : Int32)) + (-1 : Int32)) + (-1 : Int32)) + (-1 : Int32)))])) (fun tZ kZ => XS.iload X54.here hx rfl (hb hby d27_118) rfl kZ) ?_
            exact own_retI X54 hx (t := .int) Bd.returns (by simp) rfl (hb hby d27_120) Bd.notSynchronized (by decide) (by decide) (show QGc Z v kv h0 n0 _ T54.heap _ from by rw [e54]; exact ⟨_, rfl, N54, K54, _, V_v_w54, by simp only [List.length_set, hl], by repeat (first | exact hf | apply own_fitset)⟩)
          · refine own_by (S' := T51.setTop (mkF m 104 #[.val (.int ((((i0 / (100 : Int32)) / (100 : Int32)) / (100 : Int32)) / (100 : Int32))), .val (.int sz), .val (.ref v), .val (.int ((((i0 / (100 : Int32)) / (100 : Int32)) / (100 : Int32)) / (100 : Int32))), .val (.int ((((((i0 / (100 : Int32)) / (100 : Int32)) / (100 : Int32)) / (100 : Int32)) * (100 : Int32)) - (((i0 / (100 : Int32)) / (100 : Int32)) / (100 : Int32)))), .val (.int (((((((((sz + (-1 : Int32)) + (-1 : Int32)) + (-1 : Int32)) + (-1 : Int32)) + (-1 : Int32)) + (-1 : Int32)) + (-1 : Int32)) + (-1 : Int32)) + (-1 : Int32))), .val (.int (0 : Int32))] [])) (fun tZ kZ => XS.icmpYes X51.here hx rfl (pc0 := 88) (pc' := 104) rfl (hb hby d27_88) rfl (flt hnine).2.1 (by decide) (by decide) kZ) ?_
            refine own_by (S' := T51.setTop (mkF m 106 #[.val (.int ((((i0 / (100 : Int32)) / (100 : Int32)) / (100 : Int32)) / (100 : Int32))), .val (.int sz), .val (.ref v), .val (.int ((((i0 / (100 : Int32)) / (100 : Int32)) / (100 : Int32)) / (100 : Int32))), .val (.int ((((((i0 / (100 : Int32)) / (100 : Int32)) / (100 : Int32)) / (100 : Int32)) * (100 : Int32)) - (((i0 / (100 : Int32)) / (100 : Int32)) / (100 : Int32)))), .val (.int (((((((((sz + (-1 : Int32)) + (-1 : Int32)) + (-1 : Int32)) + (-1 : Int32)) + (-1 : Int32)) + (-1 : Int32)) + (-1 : Int32)) + (-1 : Int32)) + (-1 : Int32))), .val (.int (0 : Int32))] [(.int (0 : Int32))])) (fun tZ kZ => XS.iload X51.here hx rfl (hb hby d27_104) rfl kZ) ?_
            refine own_by (S' := T51.setTop (mkF m 118 #[.val (.int ((((i0 / (100 : Int32)) / (100 : Int32)) / (100 : Int32)) / (100 : Int32))), .val (.int sz), .val (.ref v), .val (.int ((((i0 / (100 : Int32)) / (100 : Int32)) / (100 : Int32)) / (100 : Int32))), .val (.int ((((((i0 / (100 : Int32)) / (100 : Int32)) / (100 : Int32)) / (100 : Int32)) * (100 : Int32)) - (((i0 / (100 : Int32)) / (100 : Int32)) / (100 : Int32)))), .val (.int (((((((((sz + (-1 : Int32)) + (-1 : Int32)) + (-1 : Int32)) + (-1 : Int32)) + (-1 : Int32)) + (-1 : Int32)) + (-1 : Int32)) + (-1 : Int32)) + (-1 : Int32))), .val (.int (0 : Int32))] [])) (fun tZ kZ => XS.ifYes X51.here hx rfl (pc0 := 106) (pc' := 118) rfl (hb hby d27_106) rfl ((if0 _ _).trans (teq rfl).1) (by decide) (by decide) kZ) ?_
            refine own_by (S' := T51.setTop (mkF m 120 #[.val (.int ((((i0 / (100 : Int32)) / (100 : Int32)) / (100 : Int32)) / (100 : Int32))), .val (.int sz), .val (.ref v), .val (.int ((((i0 / (100 : Int32)) / (100 : Int32)) / (100 : Int32)) / (100 : Int32))), .val (.int ((((((i0 / (100 : Int32)) / (100 : Int32)) / (100 : Int32)) / (100 : Int32)) * (100 : Int32)) - (((i0 / (100 : Int32)) / (100 : Int32)) / (100 : Int32)))), .val (.int (((((((((sz + (-1 : Int32)) + (-1 : Int32)) + (-1 : Int32)) + (-1 : Int32)) + (-1 : Int32)) + (-1 : Int32)) + (-1 : Int32)) + (-1 : Int32)) + (-1 : Int32))), .val (.int (0 : Int32))] [(.int (((((((((sz + (-1 : Int32)) + (-1 : Int32)) + (-1 : Int32)) + (-1 : Int32)) + (-1 : Int32)) + (-1 : Int32)) + (-1 : Int32)) + (-1 : Int32)) + (-1 : Int32)))])) (fun tZ kZ => XS.iload X51.here hx rfl (hb hby d27_118) rfl kZ) ?_
            exact own_retI X51 hx (t := .int) Bd.returns (by simp) rfl (hb hby d27_120) Bd.notSynchronized (by decide) (by decide) (show QGc Z v kv h0 n0 _ T51.heap _ from by rw [e51]; exact ⟨_, rfl, N51, K51, _, V_v_w51, by simp only [List.length_set, hl], by repeat (first | exact hf | apply own_fitset)⟩)
/-- a StringBuilder at a: its byte[] v holds vs, of which n are in use -/
def OwnSB (Z : State) (h : Heap) (a v : Addr) (kv : ClassId) (vs : List Value) (n : Int32) : Prop := Exa Z h a "java/lang/StringBuilder" ∧ Fld Z h a "java/lang/AbstractStringBuilder" "value" "[B" (.ref v) ∧ Fld Z h a "java/lang/AbstractStringBuilder" "coder" "B" (.int 0) ∧ Fld Z h a "java/lang/AbstractStringBuilder" "count" "I" (.int n) ∧ OwnA Z h v kv .byte vs ∧ Exa Z h v "[B"
theorem OwnSB.ext {Z : State} {h h' : Heap} {a v : Addr} {kv : ClassId} {vs : List Value} {n : Int32} (F : OwnSB Z h a v kv vs n) (E : Ext h h') : OwnSB Z h' a v kv vs n := ⟨F.1.ext E, F.2.1.ext E, F.2.2.1.ext E, F.2.2.2.1.ext E, F.2.2.2.2.1.ext E, F.2.2.2.2.2.ext E⟩
theorem OwnSB.ne {Z : State} {h : Heap} {a v : Addr} {kv : ClassId} {vs : List Value} {n : Int32} {a0 : Array Value} {k : Nat} (F : OwnSB Z h a v kv vs n) (w : (Jvm.Cond.instantiable "java/lang/StringBuilder" k).before a0 Z = true) : a ≠ v := by
  obtain ⟨c, A, -⟩ := F.2.2.2.2.1
  exact ne_arr F.1 w A
def QSB0 (Z : State) (a : Addr) (z : Int32) (h0 : Heap) (n0 : Nat) (v : Option Value) (h : Heap) (L : List Loc) : Prop := v = none ∧ Fr n0 L ∧ Keep h0 h [a] ∧ ∃ b kb, n0 ≤ b ∧ h0.size ≤ b ∧ OwnSB Z h a b kb (List.replicate z.toNatClampNeg (.int 0)) 0
def QSBA (Z : State) (a v : Addr) (kv : ClassId) (vs : List Value) (n : Int32) (r : Option Value) (h0 : Heap) (n0 : Nat) (w : Option Value) (h : Heap) (L : List Loc) : Prop := w = r ∧ Fr n0 L ∧ Keep h0 h [a, v] ∧ OwnSB Z h a v kv vs n
theorem own_b2b (x : Int32) : nar .byte (x.toInt8.toInt32) = x.toInt8.toInt32 := by
  show x.toInt8.toInt32.toInt8.toInt32 = x.toInt8.toInt32
  apply Int32.toInt_inj.mp
  have h1 := c_i2b x
  have h2 := c_i2b x.toInt8.toInt32
  omega
theorem own_same {Z : State} {a0 : Array Value} {y y2 z2 : MethodName} {C : String} (hd : (Jvm.Cond.declares y).before a0 Z = true) (hs : (Jvm.Cond.selects C y2 z2).before a0 Z = true) (hz : z2.cls = y.cls) (hm : y.cls ≠ "java/lang/invoke/MethodHandle" ∧ y.cls ≠ "java/lang/invoke/VarHandle") : (Jvm.Cond.sameMethod y.cls y.cls y.name y.desc).before a0 Z = true := by
  obtain ⟨m, meth, h1, h2, h3, h4⟩ := Cond.declares_spec hd
  obtain ⟨c2, r2, m2, q1, q2, q3, q4, kP, hkP, hkPi⟩ := Cond.selects_spec hs
  have f1 := findClass_of_methodNamed h1
  have f2 := findClass_of_methodNamed q3
  rw [hz] at f2
  have f3 : m.cls = m2.cls := Option.some.inj (f1.symm.trans f2)
  have f4 := State.methodFound?_of_named h1 hm
  simp [Cond.before, Cond.holds, Cond.value, f1, f4, h1, f3, hkP, hkPi]
theorem own_nf {Z : State} {a0 : Array Value} {y y2 z2 : MethodName} {C : String} (hs : (Jvm.Cond.selects C y2 z2).before a0 Z = true) (hz : z2.cls = y.cls) : NotFace Z y := fun r0 h0 => by
  obtain ⟨c2, r2, m2, q1, q2, q3, q4, kP, hkP, hkPi⟩ := Cond.selects_spec hs
  have f1 := findClass_of_methodNamed h0
  have f2 := findClass_of_methodNamed q3
  rw [hz] at f2
  have f3 : r0.cls = m2.cls := Option.some.inj (f1.symm.trans f2)
  exact ⟨kP, by rw [f3]; exact hkP, hkPi⟩
theorem d26_0 : decode jdk_68_method_68_code 0 = .ok (.getstatic 18, 3) := by decide +kernel
theorem d26_3 : decode jdk_68_method_68_code 3 = .ok (.ifCond .eq 14, 3) := by decide +kernel
theorem d26_6 : decode jdk_68_method_68_code 6 = .ok (.aload_n 0, 1) := by decide +kernel
theorem d26_7 : decode jdk_68_method_68_code 7 = .ok (.getfield 22, 3) := by decide +kernel
theorem d26_10 : decode jdk_68_method_68_code 10 = .ok (.ifCond .ne 7, 3) := by decide +kernel
theorem d26_13 : decode jdk_68_method_68_code 13 = .ok (.iconst 1, 1) := by decide +kernel
theorem d26_14 : decode jdk_68_method_68_code 14 = .ok (.goto 4, 3) := by decide +kernel
theorem d26_17 : decode jdk_68_method_68_code 17 = .ok (.iconst 0, 1) := by decide +kernel
theorem d26_18 : decode jdk_68_method_68_code 18 = .ok (.ireturn, 1) := by decide +kernel
theorem pn_6 : plainName "java/lang/AbstractStringBuilder" = true := by first | (simp [plainName, overriddenIn]; done) | decide +kernel
theorem ef_rmAL (m : MethodId) (a : Addr) : entryFrame m #[(.ref a)] 1 = mkF m 0 #[.val (.ref a)] [] := by first | (simp [entryFrame, mkF, argsToLocals, Value.category, maxLocals]; done) | rfl
set_option maxRecDepth 65536 in
set_option maxHeartbeats 40000000 in
theorem rmAL (l : Launch) (Z : State) (a0 : Array Value) (hw : ∀ d ∈ tables_1, d.before a0 Z = true) (ws : List Jvm.Cond) (a : Addr) (cz : Int32) (h0 : Heap) (n0 : Nat) (Z0 : n0 ≤ h0.size) (Fc : Fld Z h0 a "java/lang/AbstractStringBuilder" "coder" "B" (.int 0)) (Sc : Sta Z h0 "java/lang/String" "COMPACT_STRINGS" "Z" (.int cz)) (hcz : ¬ cz = 0) :
    MetFree l (⟨"java/lang/AbstractStringBuilder", "isLatin1", "()Z"⟩ : MethodName) (head1 (Jvm.Cond.code (⟨"java/lang/AbstractStringBuilder", "isLatin1", "()Z"⟩ : MethodName) jdk_68_method_68_code (1 : Nat) (Option.some Jvm.ClassFile.FieldType.boolean) :: ws) ({ frames := 0, cells := 0, slots := 0, locals := 0 } : Room)) (fun aZ UZ => aZ = #[(.ref a)] ∧ Z.Warmed39 UZ.vm ∧ UZ.heap = h0) (fun _ _ _ _ _ => True) (fun _ UZ oZ VZ => ∃ vZ LZ, oZ = .returned vZ ∧ (QSame (some (.int 1)) h0 n0) vZ VZ.heap LZ ∧ FrameEnd UZ oZ VZ LZ ({ frames := 0, cells := 0, slots := 0, locals := 0 } : Room).cells ({ frames := 0, cells := 0, slots := 0, locals := 0 } : Room).slots) := by
  refine MetFree.of_bodySF (plainFor_of_name pn_6) hisR ?_
  intro p e s m args below meth c s₁ Bd hml0 hP hK
  obtain ⟨rfl, hZ, hh⟩ := hP
  have hx := Bd.exec
  have hby := Bd.bytes
  have hml : c.maxLocals = 1 := hml0
  have hown : s.vm.findClass "java/lang/AbstractStringBuilder" = some m.cls := findClass_of_methodNamed Bd.named
  have hnm := (name_of_methodNamed Bd.named Bd.method).1
  have X0 : Stand p l e ({ frames := 0, cells := 0, slots := 0, locals := 0 } : Room) s m #[(.ref a)] below meth c s₁ [] 0 0 := Stand.of_body Bd
  have e0 : s₁.heap = h0 := by rw [← hh, Bd.state]; rfl
  have N0 := Fr.nil n0
  show OwnG p e below (OwnE s (QSame (some (.int 1)) h0 n0) ({ frames := 0, cells := 0, slots := 0, locals := 0 } : Room).cells ({ frames := 0, cells := 0, slots := 0, locals := 0 } : Room).slots) _
  refine own_by (S' := s₁.setTop (mkF m 0 #[.val (.ref a)] [])) (fun tZ kZ => castTop (ef_rmAL m a) kZ) ?_
  obtain ⟨T1, X1, e1, st1⟩ := getS2 X0 hx hZ hown (host := "") (Or.inl (hw_ hw 119 rfl)) Via.refl e0 Sc (g := (mkF m 0 #[.val (.ref a)] [])) rfl (hb hby d26_0)
  refine own_by (S' := T1.setTop (mkF m 3 #[.val (.ref a)] [(.int cz)])) st1 ?_
  refine own_by (S' := T1.setTop (mkF m 6 #[.val (.ref a)] [])) (fun tZ kZ => XS.ifNo X1.here hx rfl (hb hby d26_3) rfl ((if0 _ _).trans (feq hcz).1) kZ) ?_
  refine own_by (S' := T1.setTop (mkF m 7 #[.val (.ref a)] [(.ref a)])) (fun tZ kZ => XS.aloadN X1.here hx rfl (hb hby d26_6) rfl rfl kZ) ?_
  obtain ⟨T2, X2, e2, st2⟩ := getF X1 hx hZ hown (host := "") (Or.inl (hw_ hw 122 rfl)) Via.refl e1 Fc (g := (mkF m 7 #[.val (.ref a)] [(.ref a)])) rfl rfl (hb hby d26_7)
  refine own_by (S' := T2.setTop (mkF m 10 #[.val (.ref a)] [(.int (0 : Int32))])) st2 ?_
  refine own_by (S' := T2.setTop (mkF m 13 #[.val (.ref a)] [])) (fun tZ kZ => XS.ifNo X2.here hx rfl (hb hby d26_10) rfl ((if0 _ _).trans (teq rfl).2) kZ) ?_
  refine own_by (S' := T2.setTop (mkF m 14 #[.val (.ref a)] [(.int (1 : Int32))])) (fun tZ kZ => XS.iconst X2.here hx rfl (hb hby d26_13) kZ) ?_
  refine own_by (S' := T2.setTop (mkF m 18 #[.val (.ref a)] [(.int (1 : Int32))])) (fun tZ kZ => XS.goto X2.here hx rfl (pc0 := 14) (pc' := 18) rfl (hb hby d26_14) (by decide) (by decide) kZ) ?_
  exact own_retI X2 hx (t := .boolean) Bd.returns (by simp) rfl (hb hby d26_18) Bd.notSynchronized (by decide) (by decide) ⟨rfl, N0, e2⟩
theorem own_shr0 (z : Int32) : z >>> ((0 : Int32) &&& 31) = z := by
  have h : ((0 : Int32) &&& 31) = 0 := by decide
  rw [h]; exact Int32.shiftRight_zero
theorem d25_0 : decode jdk_68_method_9_code 0 = .ok (.aload_n 0, 1) := by decide +kernel
theorem d25_1 : decode jdk_68_method_9_code 1 = .ok (.getfield 15, 3) := by decide +kernel
theorem d25_4 : decode jdk_68_method_9_code 4 = .ok (.arraylength, 1) := by decide +kernel
theorem d25_5 : decode jdk_68_method_9_code 5 = .ok (.aload_n 0, 1) := by decide +kernel
theorem d25_6 : decode jdk_68_method_9_code 6 = .ok (.getfield 22, 3) := by decide +kernel
theorem d25_9 : decode jdk_68_method_9_code 9 = .ok (.ishr, 1) := by decide +kernel
theorem d25_10 : decode jdk_68_method_9_code 10 = .ok (.istore_n 2, 1) := by decide +kernel
theorem d25_11 : decode jdk_68_method_9_code 11 = .ok (.iload_n 1, 1) := by decide +kernel
theorem d25_12 : decode jdk_68_method_9_code 12 = .ok (.iload_n 2, 1) := by decide +kernel
theorem d25_13 : decode jdk_68_method_9_code 13 = .ok (.isub, 1) := by decide +kernel
theorem d25_14 : decode jdk_68_method_9_code 14 = .ok (.ifCond .le 24, 3) := by decide +kernel
theorem d25_17 : decode jdk_68_method_9_code 17 = .ok (.aload_n 0, 1) := by decide +kernel
theorem d25_18 : decode jdk_68_method_9_code 18 = .ok (.aload_n 0, 1) := by decide +kernel
theorem d25_19 : decode jdk_68_method_9_code 19 = .ok (.getfield 15, 3) := by decide +kernel
theorem d25_22 : decode jdk_68_method_9_code 22 = .ok (.aload_n 0, 1) := by decide +kernel
theorem d25_23 : decode jdk_68_method_9_code 23 = .ok (.iload_n 1, 1) := by decide +kernel
theorem d25_24 : decode jdk_68_method_9_code 24 = .ok (.invokevirtual 104, 3) := by decide +kernel
theorem d25_27 : decode jdk_68_method_9_code 27 = .ok (.aload_n 0, 1) := by decide +kernel
theorem d25_28 : decode jdk_68_method_9_code 28 = .ok (.getfield 22, 3) := by decide +kernel
theorem d25_31 : decode jdk_68_method_9_code 31 = .ok (.ishl, 1) := by decide +kernel
theorem d25_32 : decode jdk_68_method_9_code 32 = .ok (.invokestatic 108, 3) := by decide +kernel
theorem d25_35 : decode jdk_68_method_9_code 35 = .ok (.putfield 15, 3) := by decide +kernel
theorem d25_38 : decode jdk_68_method_9_code 38 = .ok (.return_, 1) := by decide +kernel
theorem ef_rmEC (m : MethodId) (a : Addr) (q : Int32) : entryFrame m #[(.ref a), (.int q)] 3 = mkF m 0 #[.val (.ref a), .val (.int q), .unset] [] := by first | (simp [entryFrame, mkF, argsToLocals, Value.category, maxLocals]; done) | rfl
set_option maxRecDepth 65536 in
set_option maxHeartbeats 40000000 in
theorem rmEC (l : Launch) (Z : State) (a0 : Array Value) (hw : ∀ d ∈ tables_1, d.before a0 Z = true) (ws : List Jvm.Cond) (a v : Addr) (kv : ClassId) (vs : List Value) (n q z : Int32) (h0 : Heap) (n0 : Nat) (Z0 : n0 ≤ h0.size) (B : OwnSB Z h0 a v kv vs n) (hl : vs.length = z.toNatClampNeg) (hz : ¬ z < 0) (hq : ¬ (0 : Int32) < q - z) :
    MetFree l (⟨"java/lang/AbstractStringBuilder", "ensureCapacityInternal", "(I)V"⟩ : MethodName) (head1 (Jvm.Cond.code (⟨"java/lang/AbstractStringBuilder", "ensureCapacityInternal", "(I)V"⟩ : MethodName) jdk_68_method_9_code (3 : Nat) (Option.none : Option Jvm.ClassFile.FieldType) :: ws) ({ frames := 0, cells := 0, slots := 0, locals := 0 } : Room)) (fun aZ UZ => aZ = #[(.ref a), (.int q)] ∧ Z.Warmed39 UZ.vm ∧ UZ.heap = h0) (fun _ _ _ _ _ => True) (fun _ UZ oZ VZ => ∃ vZ LZ, oZ = .returned vZ ∧ (QSame none h0 n0) vZ VZ.heap LZ ∧ FrameEnd UZ oZ VZ LZ ({ frames := 0, cells := 0, slots := 0, locals := 0 } : Room).cells ({ frames := 0, cells := 0, slots := 0, locals := 0 } : Room).slots) := by
  refine MetFree.of_bodySF (plainFor_of_name pn_6) hisR ?_
  intro p e s m args below meth c s₁ Bd hml0 hP hK
  obtain ⟨rfl, hZ, hh⟩ := hP
  have hx := Bd.exec
  have hby := Bd.bytes
  have hml : c.maxLocals = 3 := hml0
  have hown : s.vm.findClass "java/lang/AbstractStringBuilder" = some m.cls := findClass_of_methodNamed Bd.named
  have hnm := (name_of_methodNamed Bd.named Bd.method).1
  have X0 : Stand p l e ({ frames := 0, cells := 0, slots := 0, locals := 0 } : Room) s m #[(.ref a), (.int q)] below meth c s₁ [] 0 0 := Stand.of_body Bd
  have e0 : s₁.heap = h0 := by rw [← hh, Bd.state]; rfl
  have N0 := Fr.nil n0
  show OwnG p e below (OwnE s (QSame none h0 n0) ({ frames := 0, cells := 0, slots := 0, locals := 0 } : Room).cells ({ frames := 0, cells := 0, slots := 0, locals := 0 } : Room).slots) _
  refine own_by (S' := s₁.setTop (mkF m 0 #[.val (.ref a), .val (.int q), .unset] [])) (fun tZ kZ => castTop (ef_rmEC m a q) kZ) ?_
  refine own_by (S' := s₁.setTop (mkF m 1 #[.val (.ref a), .val (.int q), .unset] [(.ref a)])) (fun tZ kZ => XS.aloadN X0.here hx rfl (hb hby d25_0) rfl rfl kZ) ?_
  obtain ⟨T1, X1, e1, st1⟩ := getF X0 hx hZ hown (host := "") (Or.inl (hw_ hw 120 rfl)) Via.refl e0 B.2.1 (g := (mkF m 1 #[.val (.ref a), .val (.int q), .unset] [(.ref a)])) rfl rfl (hb hby d25_1)
  refine own_by (S' := T1.setTop (mkF m 4 #[.val (.ref a), .val (.int q), .unset] [(.ref v)])) st1 ?_
  obtain ⟨cc2, Ar2, hc2, hl2⟩ := id B.2.2.2.2.1
  refine own_by (S' := T1.setTop (mkF m 5 #[.val (.ref a), .val (.int q), .unset] [(.int z)])) (fun tZ kZ => X1.arraylength hx (by rw [e1]; exact Ar2.1) (State.isArrayOf_alike hZ.alike Ar2.2.1) (g := (mkF m 4 #[.val (.ref a), .val (.int q), .unset] [(.ref v)])) rfl rfl (hb hby d25_4) _ (by rw [len_of (OwnA.size (z := z) hl2 hl) hz]; exact kZ)) ?_
  refine own_by (S' := T1.setTop (mkF m 6 #[.val (.ref a), .val (.int q), .unset] [(.ref a), (.int z)])) (fun tZ kZ => XS.aloadN X1.here hx rfl (hb hby d25_5) rfl rfl kZ) ?_
  obtain ⟨T3, X3, e3, st3⟩ := getF X1 hx hZ hown (host := "") (Or.inl (hw_ hw 122 rfl)) Via.refl e1 B.2.2.1 (g := (mkF m 6 #[.val (.ref a), .val (.int q), .unset] [(.ref a), (.int z)])) rfl rfl (hb hby d25_6)
  refine own_by (S' := T3.setTop (mkF m 9 #[.val (.ref a), .val (.int q), .unset] [(.int (0 : Int32)), (.int z)])) st3 ?_
  refine own_by (S' := T3.setTop (mkF m 10 #[.val (.ref a), .val (.int q), .unset] [(.int (z >>> ((0 : Int32) &&& 31)))])) (fun tZ kZ => XS.ishr X3.here hx rfl (hb hby d25_9) rfl kZ) ?_
  rw [own_shr0]
  refine own_by (S' := T3.setTop (mkF m 11 #[.val (.ref a), .val (.int q), .val (.int z)] [])) (fun tZ kZ => XS.istoreN X3.here hx rfl (hb hby d25_10) rfl (l' := #[.val (.ref a), .val (.int q), .val (.int z)]) rfl kZ) ?_
  refine own_by (S' := T3.setTop (mkF m 12 #[.val (.ref a), .val (.int q), .val (.int z)] [(.int q)])) (fun tZ kZ => XS.iloadN X3.here hx rfl (hb hby d25_11) rfl kZ) ?_
  refine own_by (S' := T3.setTop (mkF m 13 #[.val (.ref a), .val (.int q), .val (.int z)] [(.int z), (.int q)])) (fun tZ kZ => XS.iloadN X3.here hx rfl (hb hby d25_12) rfl kZ) ?_
  refine own_by (S' := T3.setTop (mkF m 14 #[.val (.ref a), .val (.int q), .val (.int z)] [(.int (q - z))])) (fun tZ kZ => XS.isub X3.here hx rfl (hb hby d25_13) rfl kZ) ?_
  refine own_by (S' := T3.setTop (mkF m 38 #[.val (.ref a), .val (.int q), .val (.int z)] [])) (fun tZ kZ => XS.ifYes X3.here hx rfl (pc0 := 14) (pc' := 38) rfl (hb hby d25_14) rfl ((if0 _ _).trans (flt hq).2.2.2) (by decide) (by decide) kZ) ?_
  exact own_ret0 X3 hx Bd.returns (hb hby d25_38) Bd.notSynchronized (by decide) (by decide) ⟨rfl, N0, e3⟩
theorem d31_0 : decode jdk_42_method_152_code 0 = .ok (.getstatic 38, 3) := by decide +kernel
theorem d31_3 : decode jdk_42_method_152_code 3 = .ok (.ifCond .eq 10, 3) := by decide +kernel
theorem d31_6 : decode jdk_42_method_152_code 6 = .ok (.aload_n 0, 1) := by decide +kernel
theorem d31_7 : decode jdk_42_method_152_code 7 = .ok (.getfield 15, 3) := by decide +kernel
theorem d31_10 : decode jdk_42_method_152_code 10 = .ok (.goto 4, 3) := by decide +kernel
theorem d31_13 : decode jdk_42_method_152_code 13 = .ok (.iconst 1, 1) := by decide +kernel
theorem d31_14 : decode jdk_42_method_152_code 14 = .ok (.ireturn, 1) := by decide +kernel
theorem pn_7 : plainName "java/lang/String" = true := by first | (simp [plainName, overriddenIn]; done) | decide +kernel
theorem ef_rmCoder (m : MethodId) (a : Addr) : entryFrame m #[(.ref a)] 1 = mkF m 0 #[.val (.ref a)] [] := by first | (simp [entryFrame, mkF, argsToLocals, Value.category, maxLocals]; done) | rfl
set_option maxRecDepth 65536 in
set_option maxHeartbeats 40000000 in
theorem rmCoder (l : Launch) (Z : State) (a0 : Array Value) (hw : ∀ d ∈ tables_1, d.before a0 Z = true) (ws : List Jvm.Cond) (a : Addr) (cz : Int32) (h0 : Heap) (n0 : Nat) (Z0 : n0 ≤ h0.size) (Cc : Fld Z h0 a "java/lang/String" "coder" "B" (.int 0)) (Sc : Sta Z h0 "java/lang/String" "COMPACT_STRINGS" "Z" (.int cz)) (hcz : ¬ cz = 0) :
    MetFree l (⟨"java/lang/String", "coder", "()B"⟩ : MethodName) (head1 (Jvm.Cond.code (⟨"java/lang/String", "coder", "()B"⟩ : MethodName) jdk_42_method_152_code (1 : Nat) (Option.some Jvm.ClassFile.FieldType.byte) :: ws) ({ frames := 0, cells := 0, slots := 0, locals := 0 } : Room)) (fun aZ UZ => aZ = #[(.ref a)] ∧ Z.Warmed39 UZ.vm ∧ UZ.heap = h0) (fun _ _ _ _ _ => True) (fun _ UZ oZ VZ => ∃ vZ LZ, oZ = .returned vZ ∧ (QSame (some (.int 0)) h0 n0) vZ VZ.heap LZ ∧ FrameEnd UZ oZ VZ LZ ({ frames := 0, cells := 0, slots := 0, locals := 0 } : Room).cells ({ frames := 0, cells := 0, slots := 0, locals := 0 } : Room).slots) := by
  refine MetFree.of_bodySF (plainFor_of_name pn_7) hisR ?_
  intro p e s m args below meth c s₁ Bd hml0 hP hK
  obtain ⟨rfl, hZ, hh⟩ := hP
  have hx := Bd.exec
  have hby := Bd.bytes
  have hml : c.maxLocals = 1 := hml0
  have hown : s.vm.findClass "java/lang/String" = some m.cls := findClass_of_methodNamed Bd.named
  have hnm := (name_of_methodNamed Bd.named Bd.method).1
  have X0 : Stand p l e ({ frames := 0, cells := 0, slots := 0, locals := 0 } : Room) s m #[(.ref a)] below meth c s₁ [] 0 0 := Stand.of_body Bd
  have e0 : s₁.heap = h0 := by rw [← hh, Bd.state]; rfl
  have N0 := Fr.nil n0
  show OwnG p e below (OwnE s (QSame (some (.int 0)) h0 n0) ({ frames := 0, cells := 0, slots := 0, locals := 0 } : Room).cells ({ frames := 0, cells := 0, slots := 0, locals := 0 } : Room).slots) _
  refine own_by (S' := s₁.setTop (mkF m 0 #[.val (.ref a)] [])) (fun tZ kZ => castTop (ef_rmCoder m a) kZ) ?_
  obtain ⟨T1, X1, e1, st1⟩ := getS2 X0 hx hZ hown (host := "") (Or.inl (hw_ hw 175 rfl)) Via.refl e0 Sc (g := (mkF m 0 #[.val (.ref a)] [])) rfl (hb hby d31_0)
  refine own_by (S' := T1.setTop (mkF m 3 #[.val (.ref a)] [(.int cz)])) st1 ?_
  refine own_by (S' := T1.setTop (mkF m 6 #[.val (.ref a)] [])) (fun tZ kZ => XS.ifNo X1.here hx rfl (hb hby d31_3) rfl ((if0 _ _).trans (feq hcz).1) kZ) ?_
  refine own_by (S' := T1.setTop (mkF m 7 #[.val (.ref a)] [(.ref a)])) (fun tZ kZ => XS.aloadN X1.here hx rfl (hb hby d31_6) rfl rfl kZ) ?_
  obtain ⟨T2, X2, e2, st2⟩ := getF X1 hx hZ hown (host := "") (Or.inl (hw_ hw 176 rfl)) Via.refl e1 Cc (g := (mkF m 7 #[.val (.ref a)] [(.ref a)])) rfl rfl (hb hby d31_7)
  refine own_by (S' := T2.setTop (mkF m 10 #[.val (.ref a)] [(.int (0 : Int32))])) st2 ?_
  refine own_by (S' := T2.setTop (mkF m 14 #[.val (.ref a)] [(.int (0 : Int32))])) (fun tZ kZ => XS.goto X2.here hx rfl (pc0 := 10) (pc' := 14) rfl (hb hby d31_10) (by decide) (by decide) kZ) ?_
  exact own_retI X2 hx (t := .byte) Bd.returns (by simp) rfl (hb hby d31_14) Bd.notSynchronized (by decide) (by decide) ⟨rfl, N0, e2⟩
theorem d30_0 : decode jdk_42_method_54_code 0 = .ok (.aload_n 0, 1) := by decide +kernel
theorem d30_1 : decode jdk_42_method_54_code 1 = .ok (.getfield 9, 3) := by decide +kernel
theorem d30_4 : decode jdk_42_method_54_code 4 = .ok (.arraylength, 1) := by decide +kernel
theorem d30_5 : decode jdk_42_method_54_code 5 = .ok (.aload_n 0, 1) := by decide +kernel
theorem d30_6 : decode jdk_42_method_54_code 6 = .ok (.invokevirtual 335, 3) := by decide +kernel
theorem d30_9 : decode jdk_42_method_54_code 9 = .ok (.ishr, 1) := by decide +kernel
theorem d30_10 : decode jdk_42_method_54_code 10 = .ok (.ireturn, 1) := by decide +kernel
theorem ef_rmLen (m : MethodId) (a : Addr) : entryFrame m #[(.ref a)] 1 = mkF m 0 #[.val (.ref a)] [] := by first | (simp [entryFrame, mkF, argsToLocals, Value.category, maxLocals]; done) | rfl
set_option maxRecDepth 65536 in
set_option maxHeartbeats 40000000 in
theorem rmLen (l : Launch) (Z : State) (a0 : Array Value) (hw : ∀ d ∈ tables_1, d.before a0 Z = true) (ws : List Jvm.Cond) (a t : Addr) (z cz : Int32) (cl : Cell) (h0 : Heap) (n0 : Nat) (Z0 : n0 ≤ h0.size) (Ex : Exa Z h0 a "java/lang/String") (Vv : Fld Z h0 a "java/lang/String" "value" "[B" (.ref t)) (Cc : Fld Z h0 a "java/lang/String" "coder" "B" (.int 0)) (Ar : Arr Z h0 t cl .byte) (Sz : cl.slots.size = z.toNatClampNeg) (Nz : ¬ z < 0) (Sc : Sta Z h0 "java/lang/String" "COMPACT_STRINGS" "Z" (.int cz)) (hcz : ¬ cz = 0) :
    MetFree l (⟨"java/lang/String", "length", "()I"⟩ : MethodName) (head1 (Jvm.Cond.code (⟨"java/lang/String", "length", "()I"⟩ : MethodName) jdk_42_method_54_code (1 : Nat) (Option.some Jvm.ClassFile.FieldType.int) :: ws) ({ frames := 1, cells := 0, slots := 0, locals := 13 } : Room)) (fun aZ UZ => aZ = #[(.ref a)] ∧ Z.Warmed39 UZ.vm ∧ UZ.heap = h0) (fun _ _ _ _ _ => True) (fun _ UZ oZ VZ => ∃ vZ LZ, oZ = .returned vZ ∧ (QSame (some (.int z)) h0 n0) vZ VZ.heap LZ ∧ FrameEnd UZ oZ VZ LZ ({ frames := 1, cells := 0, slots := 0, locals := 13 } : Room).cells ({ frames := 1, cells := 0, slots := 0, locals := 13 } : Room).slots) := by
  refine MetFree.of_bodySF (plainFor_of_name pn_7) hisR ?_
  intro p e s m args below meth c s₁ Bd hml0 hP hK
  obtain ⟨rfl, hZ, hh⟩ := hP
  have hx := Bd.exec
  have hby := Bd.bytes
  have hml : c.maxLocals = 1 := hml0
  have hown : s.vm.findClass "java/lang/String" = some m.cls := findClass_of_methodNamed Bd.named
  have hnm := (name_of_methodNamed Bd.named Bd.method).1
  have X0 : Stand p l e ({ frames := 1, cells := 0, slots := 0, locals := 13 } : Room) s m #[(.ref a)] below meth c s₁ [] 0 0 := Stand.of_body Bd
  have e0 : s₁.heap = h0 := by rw [← hh, Bd.state]; rfl
  have N0 := Fr.nil n0
  show OwnG p e below (OwnE s (QSame (some (.int z)) h0 n0) ({ frames := 1, cells := 0, slots := 0, locals := 13 } : Room).cells ({ frames := 1, cells := 0, slots := 0, locals := 13 } : Room).slots) _
  refine own_by (S' := s₁.setTop (mkF m 0 #[.val (.ref a)] [])) (fun tZ kZ => castTop (ef_rmLen m a) kZ) ?_
  refine own_by (S' := s₁.setTop (mkF m 1 #[.val (.ref a)] [(.ref a)])) (fun tZ kZ => XS.aloadN X0.here hx rfl (hb hby d30_0) rfl rfl kZ) ?_
  obtain ⟨T1, X1, e1, st1⟩ := getF X0 hx hZ hown (host := "") (Or.inl (hw_ hw 169 rfl)) Via.refl e0 Vv (g := (mkF m 1 #[.val (.ref a)] [(.ref a)])) rfl rfl (hb hby d30_1)
  refine own_by (S' := T1.setTop (mkF m 4 #[.val (.ref a)] [(.ref t)])) st1 ?_
  refine own_by (S' := T1.setTop (mkF m 5 #[.val (.ref a)] [(.int z)])) (fun tZ kZ => X1.arraylength hx (by rw [e1]; exact Ar.1) (State.isArrayOf_alike hZ.alike Ar.2.1) (g := (mkF m 4 #[.val (.ref a)] [(.ref t)])) rfl rfl (hb hby d30_4) _ (by rw [len_of Sz Nz]; exact kZ)) ?_
  refine own_by (S' := T1.setTop (mkF m 6 #[.val (.ref a)] [(.ref a), (.int z)])) (fun tZ kZ => XS.aloadN X1.here hx rfl (hb hby d30_5) rfl rfl kZ) ?_
  obtain ⟨cq2, kq2, q2a, q2b, q2c⟩ := isOf hZ e1 Ex
  obtain ⟨_, _, ⟨T2, L2, k2, n2⟩, -, X2, ⟨Lc2, hQ2, l2, y2, z2⟩, st2⟩ := X1.virtualBack hx (y := (⟨"java/lang/String", "coder", "()B"⟩ : MethodName)) (z := (⟨"java/lang/String", "coder", "()B"⟩ : MethodName)) hown (mvT hZ (hw_ hw 170 rfl)) (mvT hZ (hw_ hw 171 rfl)) (notFace_of_selects (args := #[]) (mvT hZ (hw_ hw 173 rfl))) (mvT hZ (hw_ hw 173 rfl)) (mvT hZ (hw_ hw 172 rfl)) (by decide) (backOf (W := 1) (rmCoder l Z a0 hw [] a cz h0 n0 Z0 Cc Sc hcz) hZ (hw_ hw 174 rfl) (hw_ hw 61 rfl) (by decide) (by decide)) q2a q2c (g := (mkF m 6 #[.val (.ref a)] [(.ref a), (.int z)])) rfl (by rw [hml]; rfl) (Steps.refl _) (argsL := []) (rest := [(.int z)]) (lenOf pd_3 rfl) rfl (by show 2 * 0 + _ ≤ _; exact Nat.le_of_eq rfl) (hb hby d30_6) (fun _ _ => ⟨rfl, e1, (by decide : 0 + 0 ≤ _), (by decide : 0 + 0 ≤ _)⟩)
  dsimp only [Pt.U, Pt.locs, Pt.cells, Pt.slots] at X2 l2 y2 z2 st2 hQ2
  subst l2 y2 z2
  obtain ⟨rfl, N2q, heq2⟩ := hQ2
  have N2 := Fr.app N0 N2q
  refine own_by (S' := T2.setTop (mkF m 9 #[.val (.ref a)] [(.int (0 : Int32)), (.int z)])) (fun tZ kZ => st2.trans kZ) ?_
  refine own_by (S' := T2.setTop (mkF m 10 #[.val (.ref a)] [(.int (z >>> ((0 : Int32) &&& 31)))])) (fun tZ kZ => XS.ishr X2.here hx rfl (hb hby d30_9) rfl kZ) ?_
  rw [own_shr0]
  exact own_retI X2 hx (t := .int) Bd.returns (by simp) rfl (hb hby d30_10) Bd.notSynchronized (by decide) (by decide) ⟨rfl, N2, heq2⟩
def OwnS (Z : State) (h : Heap) (a v : Addr) (kv : ClassId) (n : Int32) (d : Nat) : Prop := n.toInt = d ∧ ∃ vs, OwnSB Z h a v kv vs n ∧ vs.length = 16 ∧ ∀ w ∈ vs, fits .byte w = true
def QS0 (Z : State) (a : Addr) (h0 : Heap) (n0 : Nat) (v : Option Value) (h : Heap) (L : List Loc) : Prop := v = none ∧ Fr n0 L ∧ Keep h0 h [a] ∧ ∃ b kb, n0 ≤ b ∧ h0.size ≤ b ∧ OwnS Z h a b kb 0 0
def QS1 (Z : State) (a v : Addr) (kv : ClassId) (h0 : Heap) (n0 : Nat) (r : Option Value) (h : Heap) (L : List Loc) : Prop := r = some (.ref a) ∧ Fr n0 L ∧ Keep h0 h [a, v] ∧ ∃ n d, 1 ≤ d ∧ d ≤ 10 ∧ OwnS Z h a v kv n d
def QS2 (Z : State) (a v : Addr) (kv : ClassId) (h0 : Heap) (n0 : Nat) (r : Option Value) (h : Heap) (L : List Loc) : Prop := r = some (.ref a) ∧ Fr n0 L ∧ Keep h0 h [a, v] ∧ ∃ n d, d ≤ 12 ∧ OwnS Z h a v kv n d
def QGb (Z : State) (v : Addr) (kv : ClassId) (h0 : Heap) (n0 : Nat) (r : Option Value) (h : Heap) (L : List Loc) : Prop := r = none ∧ Fr n0 L ∧ Keep h0 h [v] ∧ OwnB Z h v kv
def QK1 (x : Addr) (h0 : Heap) (n0 : Nat) (v : Option Value) (h : Heap) (L : List Loc) : Prop := v = none ∧ Fr n0 L ∧ Keep h0 h [x]
theorem own_shl0 (z : Int32) : z <<< ((0 : Int32) &&& 31) = z := by
  have h : ((0 : Int32) &&& 31) = 0 := by decide
  rw [h]; exact Int32.shiftLeft_zero
theorem own_ofn {v : Int32} {d : Nat} (h : v.toInt = d) : v = Int32.ofNat d := by
  have b := rng32 v
  apply Int32.toInt_inj.mp
  rw [h, Int32.toInt_ofNat_of_lt (by omega)]
theorem own_cplen {ws vs : List Value} {q : Nat} (h : ws.length = 16) (h2 : vs.length = 2) (hq : q + 2 ≤ 16) : (ws.take q ++ ((vs.drop 0).take 2 ++ ws.drop (q + 2))).length = 16 := by
  simp only [List.length_append, List.length_take, List.length_drop, h, h2]; omega
theorem own_cpfit {ws vs : List Value} {q k : Nat} (h : ∀ w ∈ ws, fits .byte w = true) (h2 : ∀ w ∈ vs, fits .byte w = true) : ∀ w ∈ ws.take q ++ ((vs.drop 0).take k ++ ws.drop (q + k)), fits .byte w = true := by
  intro w hw
  rcases List.mem_append.mp hw with m | m
  · exact h w (List.mem_of_mem_take m)
  · rcases List.mem_append.mp m with m | m
    · exact h2 w (List.mem_of_mem_drop (List.mem_of_mem_take m))
    · exact h w (List.mem_of_mem_drop m)
theorem own_add2 {n : Int32} {d : Nat} (h : n.toInt = d) (h2 : d ≤ 100) : (n + 2).toInt = ((d + 2 : Nat) : Int) := by
  have a := c_iadd n 2
  have b := rng32 (n + 2)
  have e : (2 : Int32).toInt = 2 := rfl
  omega
theorem own_cap {q : Int32} {d : Nat} (h : q.toInt = d) (h2 : d ≤ 16) : ¬ (0 : Int32) < q - 16 := by
  have a := c_isub q 16
  have b := rng32 (q - 16)
  have e : (16 : Int32).toInt = 16 := rfl
  rw [own_ltI]
  have e0 : (0 : Int32).toInt = 0 := rfl
  omega
theorem own_rep : ∀ w ∈ List.replicate 16 (Value.int 0), fits .byte w = true := by
  intro w hw
  rw [List.eq_of_mem_replicate hw]; rfl
theorem own_fit2 : ∀ w ∈ [Value.int 32, .int 115], fits .byte w = true := by
  intro w hw
  simp only [List.mem_cons, List.not_mem_nil, or_false] at hw
  rcases hw with rfl | rfl <;> rfl
theorem d21_0 : decode jdk_68_method_2_code 0 = .ok (.aload_n 0, 1) := by decide +kernel
theorem d21_1 : decode jdk_68_method_2_code 1 = .ok (.invokespecial 3, 3) := by decide +kernel
theorem d21_4 : decode jdk_68_method_2_code 4 = .ok (.getstatic 18, 3) := by decide +kernel
theorem d21_7 : decode jdk_68_method_2_code 7 = .ok (.ifCond .eq 18, 3) := by decide +kernel
theorem d21_10 : decode jdk_68_method_2_code 10 = .ok (.aload_n 0, 1) := by decide +kernel
theorem d21_11 : decode jdk_68_method_2_code 11 = .ok (.iload_n 1, 1) := by decide +kernel
theorem d21_12 : decode jdk_68_method_2_code 12 = .ok (.newarray .byte, 2) := by decide +kernel
theorem d21_14 : decode jdk_68_method_2_code 14 = .ok (.putfield 15, 3) := by decide +kernel
theorem d21_17 : decode jdk_68_method_2_code 17 = .ok (.aload_n 0, 1) := by decide +kernel
theorem d21_18 : decode jdk_68_method_2_code 18 = .ok (.iconst 0, 1) := by decide +kernel
theorem d21_19 : decode jdk_68_method_2_code 19 = .ok (.putfield 22, 3) := by decide +kernel
theorem d21_22 : decode jdk_68_method_2_code 22 = .ok (.goto 16, 3) := by decide +kernel
theorem d21_25 : decode jdk_68_method_2_code 25 = .ok (.aload_n 0, 1) := by decide +kernel
theorem d21_26 : decode jdk_68_method_2_code 26 = .ok (.iload_n 1, 1) := by decide +kernel
theorem d21_27 : decode jdk_68_method_2_code 27 = .ok (.invokestatic 26, 3) := by decide +kernel
theorem d21_30 : decode jdk_68_method_2_code 30 = .ok (.putfield 15, 3) := by decide +kernel
theorem d21_33 : decode jdk_68_method_2_code 33 = .ok (.aload_n 0, 1) := by decide +kernel
theorem d21_34 : decode jdk_68_method_2_code 34 = .ok (.iconst 1, 1) := by decide +kernel
theorem d21_35 : decode jdk_68_method_2_code 35 = .ok (.putfield 22, 3) := by decide +kernel
theorem d21_38 : decode jdk_68_method_2_code 38 = .ok (.return_, 1) := by decide +kernel
theorem ef_rmAi (m : MethodId) (a : Addr) : entryFrame m #[(.ref a), (.int (16 : Int32))] 2 = mkF m 0 #[.val (.ref a), .val (.int (16 : Int32))] [] := by first | (simp [entryFrame, mkF, argsToLocals, Value.category, maxLocals]; done) | rfl
set_option maxRecDepth 65536 in
set_option maxHeartbeats 40000000 in
theorem rmAi (l : Launch) (Z : State) (a0 : Array Value) (hw : ∀ d ∈ tables_1, d.before a0 Z = true) (ws : List Jvm.Cond) (a : Addr) (cz : Int32) (h0 : Heap) (n0 : Nat) (Z0 : n0 ≤ h0.size) (Ea : Exa Z h0 a "java/lang/StringBuilder") (Fv : Fld Z h0 a "java/lang/AbstractStringBuilder" "value" "[B" .null) (Fc : Fld Z h0 a "java/lang/AbstractStringBuilder" "coder" "B" (.int 0)) (Fn : Fld Z h0 a "java/lang/AbstractStringBuilder" "count" "I" (.int 0)) (g_a : n0 ≤ a) (Sc : Sta Z h0 "java/lang/String" "COMPACT_STRINGS" "Z" (.int cz)) (hcz : ¬ cz = 0) :
    MetFree l (⟨"java/lang/AbstractStringBuilder", "<init>", "(I)V"⟩ : MethodName) (head1 (Jvm.Cond.code (⟨"java/lang/AbstractStringBuilder", "<init>", "(I)V"⟩ : MethodName) jdk_68_method_2_code (2 : Nat) (Option.none : Option Jvm.ClassFile.FieldType) :: ws) ({ frames := 1, cells := 1, slots := 16, locals := 12 } : Room)) (fun aZ UZ => aZ = #[(.ref a), (.int (16 : Int32))] ∧ Z.Warmed39 UZ.vm ∧ UZ.heap = h0) (fun _ _ _ _ _ => True) (fun _ UZ oZ VZ => ∃ vZ LZ, oZ = .returned vZ ∧ (QS0 Z a h0 n0) vZ VZ.heap LZ ∧ FrameEnd UZ oZ VZ LZ ({ frames := 1, cells := 1, slots := 16, locals := 12 } : Room).cells ({ frames := 1, cells := 1, slots := 16, locals := 12 } : Room).slots) := by
  refine MetFree.of_bodySF (plainFor_of_name pn_6) hisR ?_
  intro p e s m args below meth c s₁ Bd hml0 hP hK
  obtain ⟨rfl, hZ, hh⟩ := hP
  have hx := Bd.exec
  have hby := Bd.bytes
  have hml : c.maxLocals = 2 := hml0
  have hown : s.vm.findClass "java/lang/AbstractStringBuilder" = some m.cls := findClass_of_methodNamed Bd.named
  have hnm := (name_of_methodNamed Bd.named Bd.method).1
  have X0 : Stand p l e ({ frames := 1, cells := 1, slots := 16, locals := 12 } : Room) s m #[(.ref a), (.int (16 : Int32))] below meth c s₁ [] 0 0 := Stand.of_body Bd
  have e0 : s₁.heap = h0 := by rw [← hh, Bd.state]; rfl
  have N0 := Fr.nil n0
  show OwnG p e below (OwnE s (QS0 Z a h0 n0) ({ frames := 1, cells := 1, slots := 16, locals := 12 } : Room).cells ({ frames := 1, cells := 1, slots := 16, locals := 12 } : Room).slots) _
  refine own_by (S' := s₁.setTop (mkF m 0 #[.val (.ref a), .val (.int (16 : Int32))] [])) (fun tZ kZ => castTop (ef_rmAi m a) kZ) ?_
  refine own_by (S' := s₁.setTop (mkF m 1 #[.val (.ref a), .val (.int (16 : Int32))] [(.ref a)])) (fun tZ kZ => XS.aloadN X0.here hx rfl (hb hby d21_0) rfl rfl kZ) ?_
  obtain ⟨T1, X1, e1, st1⟩ := initO X0 hx hZ hown (hw_ hw 118 rfl) (hw_ hw 22 rfl) (hw_ hw 23 rfl) e0 (g := (mkF m 1 #[.val (.ref a), .val (.int (16 : Int32))] [(.ref a)])) rfl (by rw [hml]; rfl) rfl (hb hby d21_1) (by decide) (W := 0) (by show 2 * 0 + _ ≤ _; exact Nat.le_of_eq rfl) (by decide)
  refine own_by (S' := T1.setTop (mkF m 4 #[.val (.ref a), .val (.int (16 : Int32))] [])) st1 ?_
  obtain ⟨T2, X2, e2, st2⟩ := getS2 X1 hx hZ hown (host := "") (Or.inl (hw_ hw 119 rfl)) Via.refl e1 Sc (g := (mkF m 4 #[.val (.ref a), .val (.int (16 : Int32))] [])) rfl (hb hby d21_4)
  refine own_by (S' := T2.setTop (mkF m 7 #[.val (.ref a), .val (.int (16 : Int32))] [(.int cz)])) st2 ?_
  refine own_by (S' := T2.setTop (mkF m 10 #[.val (.ref a), .val (.int (16 : Int32))] [])) (fun tZ kZ => XS.ifNo X2.here hx rfl (hb hby d21_7) rfl ((if0 _ _).trans (feq hcz).1) kZ) ?_
  refine own_by (S' := T2.setTop (mkF m 11 #[.val (.ref a), .val (.int (16 : Int32))] [(.ref a)])) (fun tZ kZ => XS.aloadN X2.here hx rfl (hb hby d21_10) rfl rfl kZ) ?_
  refine own_by (S' := T2.setTop (mkF m 12 #[.val (.ref a), .val (.int (16 : Int32))] [(.int (16 : Int32)), (.ref a)])) (fun tZ kZ => XS.iloadN X2.here hx rfl (hb hby d21_11) rfl kZ) ?_
  obtain ⟨T3, h3, k3, X3, e3, E3, A3, Ea3, st3⟩ := newPE X2 hx hZ (hw_ hw 63 rfl) e2 (g := (mkF m 12 #[.val (.ref a), .val (.int (16 : Int32))] [(.int (16 : Int32)), (.ref a)])) rfl (hb hby d21_12) rfl (by decide) (cap := 16) (by decide) (by decide) (by decide) (by decide) (ad := "[B") (by decide)
  obtain ⟨b3, g3⟩ : ∃ z, z = h0.size := ⟨_, rfl⟩
  rw [← g3] at A3 st3 Ea3
  have ne_a_b3 : a ≠ b3 := Nat.ne_of_lt (Nat.lt_of_lt_of_le Ea.lt (Nat.le_of_eq g3.symm))
  have g_b3 : n0 ≤ b3 := Nat.le_trans Z0 (Nat.le_of_eq g3.symm)
  have sz_b3 : h0.size ≤ b3 := Nat.le_trans (Keep.refl h0 [a]).1 (Nat.le_of_eq g3.symm)
  have Ea_3 := Ea.ext E3
  have Fv_3 := Fv.ext E3
  have Fc_3 := Fc.ext E3
  have Fn_3 := Fn.ext E3
  have Zs3 : n0 ≤ h3.size := Nat.le_trans Z0 E3.1
  have K3 := (Keep.refl h0 [a]).ext E3
  have V_b3 := OwnA.new A3
  have Ex_b3 := Ea3
  refine own_by (S' := T3.setTop (mkF m 14 #[.val (.ref a), .val (.int (16 : Int32))] [(.ref b3), (.ref a)])) st3 ?_
  obtain ⟨T4, h4, X4, e4, W4, st4⟩ := putF X3 hx hZ hown (host := "") (Or.inl (hw_ hw 120 rfl)) Via.refl e3 Fv_3 Ea_3 (Or.inl (hw_ hw 121 rfl)) (hw_ hw 107 rfl) (ty := (.array .byte)) (by decide) rfl rfl (g := (mkF m 14 #[.val (.ref a), .val (.int (16 : Int32))] [(.ref b3), (.ref a)])) rfl rfl (hb hby d21_14)
  have N4 := Fr.snoc X4 N0 g_a
  have Ea_4 := Ea_3.wr W4
  have Fv_4 := Fv_3.same W4
  have Fc_4 := Fc_3.other W4 (Or.inr (slot_ne (Or.inl (hw_ hw 123 rfl)) (Or.inl (hw_ hw 121 rfl)) (by decide) (t := .byte) (t' := (.array .byte)) (by decide) (by decide)))
  have Fn_4 := Fn_3.other W4 (Or.inr (slot_ne (Or.inl (hw_ hw 135 rfl)) (Or.inl (hw_ hw 121 rfl)) (by decide) (t := .int) (t' := (.array .byte)) (by decide) (by decide)))
  have V_b3_4 := V_b3.other W4 (Ne.symm ne_a_b3)
  have Ex_b3_4 := Ex_b3.wr W4
  have Zs4 : n0 ≤ h4.size := Nat.le_trans Zs3 (Keep.of_wr W4).1
  have K4 := K3.wr W4 (Or.inl (List.mem_of_getElem? (i := 0) rfl))
  refine own_by (S' := T4.setTop (mkF m 17 #[.val (.ref a), .val (.int (16 : Int32))] [])) st4 ?_
  refine own_by (S' := T4.setTop (mkF m 18 #[.val (.ref a), .val (.int (16 : Int32))] [(.ref a)])) (fun tZ kZ => XS.aloadN X4.here hx rfl (hb hby d21_17) rfl rfl kZ) ?_
  refine own_by (S' := T4.setTop (mkF m 19 #[.val (.ref a), .val (.int (16 : Int32))] [(.int (0 : Int32)), (.ref a)])) (fun tZ kZ => XS.iconst X4.here hx rfl (hb hby d21_18) kZ) ?_
  obtain ⟨T5, h5, X5, e5, W5, st5⟩ := putFN X4 hx hZ hown (hw_ hw 122 rfl) Via.refl e4 Fc_4 Ea_4 (Or.inl (hw_ hw 123 rfl)) (hw_ hw 107 rfl) (ty := .byte) (v' := (.int (0 : Int32))) (by decide) rfl rfl (g := (mkF m 19 #[.val (.ref a), .val (.int (16 : Int32))] [(.int (0 : Int32)), (.ref a)])) rfl rfl (hb hby d21_19)
  have N5 := Fr.snoc X5 N4 g_a
  have Ea_5 := Ea_4.wr W5
  have Fv_5 := Fv_4.other W5 (Or.inr (slot_ne (Or.inl (hw_ hw 121 rfl)) (Or.inl (hw_ hw 123 rfl)) (by decide) (t := (.array .byte)) (t' := .byte) (by decide) (by decide)))
  have Fc_5 := Fc_4.same W5
  have Fn_5 := Fn_4.other W5 (Or.inr (slot_ne (Or.inl (hw_ hw 135 rfl)) (Or.inl (hw_ hw 123 rfl)) (by decide) (t := .int) (t' := .byte) (by decide) (by decide)))
  have V_b3_5 := V_b3_4.other W5 (Ne.symm ne_a_b3)
  have Ex_b3_5 := Ex_b3_4.wr W5
  have Zs5 : n0 ≤ h5.size := Nat.le_trans Zs4 (Keep.of_wr W5).1
  have K5 := K4.wr W5 (Or.inl (List.mem_of_getElem? (i := 0) rfl))
  refine own_by (S' := T5.setTop (mkF m 22 #[.val (.ref a), .val (.int (16 : Int32))] [])) st5 ?_
  refine own_by (S' := T5.setTop (mkF m 38 #[.val (.ref a), .val (.int (16 : Int32))] [])) (fun tZ kZ => XS.goto X5.here hx rfl (pc0 := 22) (pc' := 38) rfl (hb hby d21_22) (by decide) (by decide) kZ) ?_
  exact own_ret0 X5 hx Bd.returns (hb hby d21_38) Bd.notSynchronized (by decide) (by decide) (show QS0 Z a h0 n0 none T5.heap _ from by rw [e5]; exact ⟨rfl, N5, K5, b3, _, g_b3, sz_b3, rfl, _, ⟨Ea_5, Fv_5, Fc_5, Fn_5, V_b3_5, Ex_b3_5⟩, rfl, own_rep⟩)
theorem d20_0 : decode jdk_67_method_1_code 0 = .ok (.aload_n 0, 1) := by decide +kernel
theorem d20_1 : decode jdk_67_method_1_code 1 = .ok (.bipush 16, 2) := by decide +kernel
theorem d20_3 : decode jdk_67_method_1_code 3 = .ok (.invokespecial 1, 3) := by decide +kernel
theorem d20_6 : decode jdk_67_method_1_code 6 = .ok (.return_, 1) := by decide +kernel
theorem pn_8 : plainName "java/lang/StringBuilder" = true := by first | (simp [plainName, overriddenIn]; done) | decide +kernel
theorem ef_rmSi (m : MethodId) (a : Addr) : entryFrame m #[(.ref a)] 1 = mkF m 0 #[.val (.ref a)] [] := by first | (simp [entryFrame, mkF, argsToLocals, Value.category, maxLocals]; done) | rfl
set_option maxRecDepth 65536 in
set_option maxHeartbeats 40000000 in
theorem rmSi (l : Launch) (Z : State) (a0 : Array Value) (hw : ∀ d ∈ tables_1, d.before a0 Z = true) (ws : List Jvm.Cond) (a : Addr) (cz : Int32) (h0 : Heap) (n0 : Nat) (Z0 : n0 ≤ h0.size) (Ea : Exa Z h0 a "java/lang/StringBuilder") (Fv : Fld Z h0 a "java/lang/AbstractStringBuilder" "value" "[B" .null) (Fc : Fld Z h0 a "java/lang/AbstractStringBuilder" "coder" "B" (.int 0)) (Fn : Fld Z h0 a "java/lang/AbstractStringBuilder" "count" "I" (.int 0)) (g_a : n0 ≤ a) (Sc : Sta Z h0 "java/lang/String" "COMPACT_STRINGS" "Z" (.int cz)) (hcz : ¬ cz = 0) :
    MetFree l (⟨"java/lang/StringBuilder", "<init>", "()V"⟩ : MethodName) (head1 (Jvm.Cond.code (⟨"java/lang/StringBuilder", "<init>", "()V"⟩ : MethodName) jdk_67_method_1_code (1 : Nat) (Option.none : Option Jvm.ClassFile.FieldType) :: ws) ({ frames := 2, cells := 1, slots := 16, locals := 25 } : Room)) (fun aZ UZ => aZ = #[(.ref a)] ∧ Z.Warmed39 UZ.vm ∧ UZ.heap = h0) (fun _ _ _ _ _ => True) (fun _ UZ oZ VZ => ∃ vZ LZ, oZ = .returned vZ ∧ (QS0 Z a h0 n0) vZ VZ.heap LZ ∧ FrameEnd UZ oZ VZ LZ ({ frames := 2, cells := 1, slots := 16, locals := 25 } : Room).cells ({ frames := 2, cells := 1, slots := 16, locals := 25 } : Room).slots) := by
  refine MetFree.of_bodySF (plainFor_of_name pn_8) hisR ?_
  intro p e s m args below meth c s₁ Bd hml0 hP hK
  obtain ⟨rfl, hZ, hh⟩ := hP
  have hx := Bd.exec
  have hby := Bd.bytes
  have hml : c.maxLocals = 1 := hml0
  have hown : s.vm.findClass "java/lang/StringBuilder" = some m.cls := findClass_of_methodNamed Bd.named
  have hnm := (name_of_methodNamed Bd.named Bd.method).1
  have X0 : Stand p l e ({ frames := 2, cells := 1, slots := 16, locals := 25 } : Room) s m #[(.ref a)] below meth c s₁ [] 0 0 := Stand.of_body Bd
  have e0 : s₁.heap = h0 := by rw [← hh, Bd.state]; rfl
  have N0 := Fr.nil n0
  show OwnG p e below (OwnE s (QS0 Z a h0 n0) ({ frames := 2, cells := 1, slots := 16, locals := 25 } : Room).cells ({ frames := 2, cells := 1, slots := 16, locals := 25 } : Room).slots) _
  refine own_by (S' := s₁.setTop (mkF m 0 #[.val (.ref a)] [])) (fun tZ kZ => castTop (ef_rmSi m a) kZ) ?_
  refine own_by (S' := s₁.setTop (mkF m 1 #[.val (.ref a)] [(.ref a)])) (fun tZ kZ => XS.aloadN X0.here hx rfl (hb hby d20_0) rfl rfl kZ) ?_
  refine own_by (S' := s₁.setTop (mkF m 3 #[.val (.ref a)] [(.int (16 : Int32)), (.ref a)])) (fun tZ kZ => XS.bipush X0.here hx rfl (hb hby d20_1) kZ) ?_
  obtain ⟨_, _, ⟨T1, L1, k1, n1⟩, -, X1, ⟨Lc1, hQ1, l1, y1, z1⟩, st1⟩ := X0.specialBack hx (y := (⟨"java/lang/AbstractStringBuilder", "<init>", "(I)V"⟩ : MethodName)) rfl hown (mvT hZ (hw_ hw 112 rfl)) (mvT hZ (hw_ hw 113 rfl)) (mvT hZ (hw_ hw 117 rfl)) (by decide) (backOf (W := 0) (rmAi l Z a0 hw [] a cz h0 n0 Z0 Ea Fv Fc Fn g_a Sc hcz) hZ (hw_ hw 117 rfl) (hw_ hw 116 rfl) (by decide) (by decide)) (g := (mkF m 3 #[.val (.ref a)] [(.int (16 : Int32)), (.ref a)])) rfl (by rw [hml]; rfl) (Steps.refl _) (a := a) (argsL := [(.int (16 : Int32))]) (rest := []) (lenOf pd_0 rfl) rfl (by show 2 * 0 + _ ≤ _; exact Nat.le_of_eq rfl) (hb hby d20_3) (fun _ _ => ⟨rfl, e0, (by decide : 0 + 1 ≤ _), (by decide : 0 + 16 ≤ _)⟩)
  dsimp only [Pt.U, Pt.locs, Pt.cells, Pt.slots] at X1 l1 y1 z1 st1 hQ1
  subst l1 y1 z1
  obtain ⟨rfl, N1q, R1⟩ := hQ1
  have N1 := Fr.app N0 N1q
  refine own_by (S' := T1.setTop (mkF m 6 #[.val (.ref a)] [])) (fun tZ kZ => st1.trans kZ) ?_
  exact own_ret0 X1 hx Bd.returns (hb hby d20_6) Bd.notSynchronized (by decide) (by decide) ⟨rfl, N1, R1⟩
theorem d23_0 : decode jdk_68_method_32_code 0 = .ok (.aload_n 0, 1) := by decide +kernel
theorem d23_1 : decode jdk_68_method_32_code 1 = .ok (.getfield 79, 3) := by decide +kernel
theorem d23_4 : decode jdk_68_method_32_code 4 = .ok (.istore_n 2, 1) := by decide +kernel
theorem d23_5 : decode jdk_68_method_32_code 5 = .ok (.iload_n 2, 1) := by decide +kernel
theorem d23_6 : decode jdk_68_method_32_code 6 = .ok (.iload_n 1, 1) := by decide +kernel
theorem d23_7 : decode jdk_68_method_32_code 7 = .ok (.invokestatic 245, 3) := by decide +kernel
theorem d23_10 : decode jdk_68_method_32_code 10 = .ok (.iadd, 1) := by decide +kernel
theorem d23_11 : decode jdk_68_method_32_code 11 = .ok (.istore_n 3, 1) := by decide +kernel
theorem d23_12 : decode jdk_68_method_32_code 12 = .ok (.aload_n 0, 1) := by decide +kernel
theorem d23_13 : decode jdk_68_method_32_code 13 = .ok (.iload_n 3, 1) := by decide +kernel
theorem d23_14 : decode jdk_68_method_32_code 14 = .ok (.invokevirtual 100, 3) := by decide +kernel
theorem d23_17 : decode jdk_68_method_32_code 17 = .ok (.aload_n 0, 1) := by decide +kernel
theorem d23_18 : decode jdk_68_method_32_code 18 = .ok (.invokevirtual 83, 3) := by decide +kernel
theorem d23_21 : decode jdk_68_method_32_code 21 = .ok (.ifCond .eq 16, 3) := by decide +kernel
theorem d23_24 : decode jdk_68_method_32_code 24 = .ok (.iload_n 1, 1) := by decide +kernel
theorem d23_25 : decode jdk_68_method_32_code 25 = .ok (.iload_n 3, 1) := by decide +kernel
theorem d23_26 : decode jdk_68_method_32_code 26 = .ok (.aload_n 0, 1) := by decide +kernel
theorem d23_27 : decode jdk_68_method_32_code 27 = .ok (.getfield 15, 3) := by decide +kernel
theorem d23_30 : decode jdk_68_method_32_code 30 = .ok (.invokestatic 248, 3) := by decide +kernel
theorem d23_33 : decode jdk_68_method_32_code 33 = .ok (.pop, 1) := by decide +kernel
theorem d23_34 : decode jdk_68_method_32_code 34 = .ok (.goto 14, 3) := by decide +kernel
theorem d23_37 : decode jdk_68_method_32_code 37 = .ok (.iload_n 1, 1) := by decide +kernel
theorem d23_38 : decode jdk_68_method_32_code 38 = .ok (.iload_n 2, 1) := by decide +kernel
theorem d23_39 : decode jdk_68_method_32_code 39 = .ok (.iload_n 3, 1) := by decide +kernel
theorem d23_40 : decode jdk_68_method_32_code 40 = .ok (.aload_n 0, 1) := by decide +kernel
theorem d23_41 : decode jdk_68_method_32_code 41 = .ok (.getfield 15, 3) := by decide +kernel
theorem d23_44 : decode jdk_68_method_32_code 44 = .ok (.invokestatic 251, 3) := by decide +kernel
theorem d23_47 : decode jdk_68_method_32_code 47 = .ok (.pop, 1) := by decide +kernel
theorem d23_48 : decode jdk_68_method_32_code 48 = .ok (.aload_n 0, 1) := by decide +kernel
theorem d23_49 : decode jdk_68_method_32_code 49 = .ok (.iload_n 3, 1) := by decide +kernel
theorem d23_50 : decode jdk_68_method_32_code 50 = .ok (.putfield 79, 3) := by decide +kernel
theorem d23_53 : decode jdk_68_method_32_code 53 = .ok (.aload_n 0, 1) := by decide +kernel
theorem d23_54 : decode jdk_68_method_32_code 54 = .ok (.areturn, 1) := by decide +kernel
theorem ef_rmAp (m : MethodId) (a : Addr) (x : Int32) : entryFrame m #[(.ref a), (.int x)] 4 = mkF m 0 #[.val (.ref a), .val (.int x), .unset, .unset] [] := by first | (simp [entryFrame, mkF, argsToLocals, Value.category, maxLocals]; done) | rfl
set_option maxRecDepth 65536 in
set_option maxHeartbeats 40000000 in
theorem rmAp (l : Launch) (Z : State) (a0 : Array Value) (hw : ∀ d ∈ tables_1, d.before a0 Z = true) (ws : List Jvm.Cond) (a v : Addr) (kv : ClassId) (x cz : Int32) (do_ dt : Addr) (co ct : Cell) (h0 : Heap) (n0 : Nat) (Z0 : n0 ≤ h0.size) (OS : OwnS Z h0 a v kv 0 0) (hx1 : 1 ≤ x.toInt) (g_a : n0 ≤ a) (g_v : n0 ≤ v) (nov : do_ ≠ v) (ntv : dt ≠ v) (Sc : Sta Z h0 "java/lang/String" "COMPACT_STRINGS" "Z" (.int cz)) (hcz : ¬ cz = 0) (S_o : Sta Z h0 "java/lang/Integer" "DigitOnes" "[B" (.ref do_)) (A_o : Arr Z h0 do_ co .byte) (z_o : co.slots.size = 100) (e_o : ∀ k : Nat, k < 100 → ∃ z : Int32, co.slots[k]? = some (.int z)) (S_t : Sta Z h0 "java/lang/Integer" "DigitTens" "[B" (.ref dt)) (A_t : Arr Z h0 dt ct .byte) (z_t : ct.slots.size = 100) (e_t : ∀ k : Nat, k < 100 → ∃ z : Int32, ct.slots[k]? = some (.int z)) :
    MetFree l (⟨"java/lang/AbstractStringBuilder", "append", "(I)Ljava/lang/AbstractStringBuilder;"⟩ : MethodName) (head1 (Jvm.Cond.code (⟨"java/lang/AbstractStringBuilder", "append", "(I)Ljava/lang/AbstractStringBuilder;"⟩ : MethodName) jdk_68_method_32_code (4 : Nat) (Option.some (Jvm.ClassFile.FieldType.object "java/lang/AbstractStringBuilder")) :: ws) ({ frames := 1, cells := 0, slots := 0, locals := 18 } : Room)) (fun aZ UZ => aZ = #[(.ref a), (.int x)] ∧ Z.Warmed39 UZ.vm ∧ UZ.heap = h0) (fun _ _ _ _ _ => True) (fun _ UZ oZ VZ => ∃ vZ LZ, oZ = .returned vZ ∧ (QS1 Z a v kv h0 n0) vZ VZ.heap LZ ∧ FrameEnd UZ oZ VZ LZ ({ frames := 1, cells := 0, slots := 0, locals := 18 } : Room).cells ({ frames := 1, cells := 0, slots := 0, locals := 18 } : Room).slots) := by
  refine MetFree.of_bodySF (plainFor_of_name pn_6) hisR ?_
  intro p e s m args below meth c s₁ Bd hml0 hP hK
  obtain ⟨rfl, hZ, hh⟩ := hP
  have hx := Bd.exec
  have hby := Bd.bytes
  have hml : c.maxLocals = 4 := hml0
  have hown : s.vm.findClass "java/lang/AbstractStringBuilder" = some m.cls := findClass_of_methodNamed Bd.named
  have hnm := (name_of_methodNamed Bd.named Bd.method).1
  have X0 : Stand p l e ({ frames := 1, cells := 0, slots := 0, locals := 18 } : Room) s m #[(.ref a), (.int x)] below meth c s₁ [] 0 0 := Stand.of_body Bd
  have e0 : s₁.heap = h0 := by rw [← hh, Bd.state]; rfl
  have N0 := Fr.nil n0
  show OwnG p e below (OwnE s (QS1 Z a v kv h0 n0) ({ frames := 1, cells := 0, slots := 0, locals := 18 } : Room).cells ({ frames := 1, cells := 0, slots := 0, locals := 18 } : Room).slots) _
  refine own_by (S' := s₁.setTop (mkF m 0 #[.val (.ref a), .val (.int x), .unset, .unset] [])) (fun tZ kZ => castTop (ef_rmAp m a x) kZ) ?_
  obtain ⟨-, vs, B, hl, hfv⟩ := id OS
  obtain ⟨Ea, Fv, Fc, Fn, V_v, Ev⟩ := id B
  have ne_a_v : a ≠ v := B.ne (hw_ hw 107 rfl)
  refine own_by (S' := s₁.setTop (mkF m 1 #[.val (.ref a), .val (.int x), .unset, .unset] [(.ref a)])) (fun tZ kZ => XS.aloadN X0.here hx rfl (hb hby d23_0) rfl rfl kZ) ?_
  obtain ⟨T1, X1, e1, st1⟩ := getF X0 hx hZ hown (host := "") (Or.inl (hw_ hw 134 rfl)) Via.refl e0 Fn (g := (mkF m 1 #[.val (.ref a), .val (.int x), .unset, .unset] [(.ref a)])) rfl rfl (hb hby d23_1)
  refine own_by (S' := T1.setTop (mkF m 4 #[.val (.ref a), .val (.int x), .unset, .unset] [(.int (0 : Int32))])) st1 ?_
  refine own_by (S' := T1.setTop (mkF m 5 #[.val (.ref a), .val (.int x), .val (.int (0 : Int32)), .unset] [])) (fun tZ kZ => XS.istoreN X1.here hx rfl (hb hby d23_4) rfl (l' := #[.val (.ref a), .val (.int x), .val (.int (0 : Int32)), .unset]) rfl kZ) ?_
  refine own_by (S' := T1.setTop (mkF m 6 #[.val (.ref a), .val (.int x), .val (.int (0 : Int32)), .unset] [(.int (0 : Int32))])) (fun tZ kZ => XS.iloadN X1.here hx rfl (hb hby d23_5) rfl kZ) ?_
  refine own_by (S' := T1.setTop (mkF m 7 #[.val (.ref a), .val (.int x), .val (.int (0 : Int32)), .unset] [(.int x), (.int (0 : Int32))])) (fun tZ kZ => XS.iloadN X1.here hx rfl (hb hby d23_6) rfl kZ) ?_
  obtain ⟨_, _, ⟨T2, L2, k2, n2⟩, -, X2, ⟨Lc2, hQ2, l2, y2, z2⟩, st2⟩ := Jvm.LawKit.callS X1 hx (y := (⟨"java/lang/Integer", "stringSize", "(I)I"⟩ : MethodName)) hown (mvT hZ (hw_ hw 136 rfl)) (mvT hZ (hw_ hw 137 rfl)) (mvT hZ (hw_ hw 138 rfl)) (mvT hZ (hw_ hw 139 rfl)) (by decide) (backOf (W := 1) (rmSz l Z a0 hw [] x h0 n0 Z0 hx1) hZ (hw_ hw 139 rfl) (hw_ hw 138 rfl) (by decide) (by decide)) (g := (mkF m 7 #[.val (.ref a), .val (.int x), .val (.int (0 : Int32)), .unset] [(.int x), (.int (0 : Int32))])) rfl (by rw [hml]; rfl) (argsL := [(.int x)]) (rest := [(.int (0 : Int32))]) (lenOf pd_4 rfl) rfl (by show 2 * 0 + _ ≤ _; exact Nat.le_of_eq rfl) (hb hby d23_7) (fun _ _ => ⟨rfl, e1, (by decide : 0 + 0 ≤ _), (by decide : 0 + 0 ≤ _)⟩)
  dsimp only [Pt.U, Pt.locs, Pt.cells, Pt.slots] at X2 l2 y2 z2 st2 hQ2
  subst l2 y2 z2
  obtain ⟨sz, d, rfl, N2q, heq2, hsd, hd1, hd10, hxd⟩ := hQ2
  have N2 := Fr.app N0 N2q
  refine own_by (S' := T2.setTop (mkF m 10 #[.val (.ref a), .val (.int x), .val (.int (0 : Int32)), .unset] [(.int sz), (.int (0 : Int32))])) (fun tZ kZ => st2 _ kZ) ?_
  refine own_by (S' := T2.setTop (mkF m 11 #[.val (.ref a), .val (.int x), .val (.int (0 : Int32)), .unset] [(.int ((0 : Int32) + sz))])) (fun tZ kZ => XS.iadd X2.here hx rfl (hb hby d23_10) rfl kZ) ?_
  rw [show (0 : Int32) + sz = sz from Int32.zero_add sz]
  refine own_by (S' := T2.setTop (mkF m 12 #[.val (.ref a), .val (.int x), .val (.int (0 : Int32)), .val (.int sz)] [])) (fun tZ kZ => XS.istoreN X2.here hx rfl (hb hby d23_11) rfl (l' := #[.val (.ref a), .val (.int x), .val (.int (0 : Int32)), .val (.int sz)]) rfl kZ) ?_
  refine own_by (S' := T2.setTop (mkF m 13 #[.val (.ref a), .val (.int x), .val (.int (0 : Int32)), .val (.int sz)] [(.ref a)])) (fun tZ kZ => XS.aloadN X2.here hx rfl (hb hby d23_12) rfl rfl kZ) ?_
  refine own_by (S' := T2.setTop (mkF m 14 #[.val (.ref a), .val (.int x), .val (.int (0 : Int32)), .val (.int sz)] [(.int sz), (.ref a)])) (fun tZ kZ => XS.iloadN X2.here hx rfl (hb hby d23_13) rfl kZ) ?_
  obtain ⟨cq3, q3, q3'⟩ := Ea.cell
  obtain ⟨_, _, ⟨T3, L3, k3, n3⟩, -, X3, ⟨Lc3, hQ3, l3, y3, z3⟩, st3⟩ := X2.privateBack hx (y := (⟨"java/lang/AbstractStringBuilder", "ensureCapacityInternal", "(I)V"⟩ : MethodName)) hown (mvT hZ (hw_ hw 140 rfl)) (mvT hZ (hw_ hw 141 rfl)) (mvT hZ (own_selp (y := (⟨"java/lang/AbstractStringBuilder", "ensureCapacityInternal", "(I)V"⟩ : MethodName)) (hw_ hw 143 rfl) rfl (hw_ hw 142 rfl) (hw_ hw 141 rfl) (by decide))) (Cond.privateMethod_at (mvP hZ (hw_ hw 142 rfl) (args := #[]))) (mvT hZ (hw_ hw 144 rfl)) (by decide) (backOf (W := 0) (rmEC l Z a0 hw [] a v kv vs 0 sz (16 : Int32) h0 n0 Z0 B hl (by decide) (own_cap hsd (by omega))) hZ (hw_ hw 144 rfl) (hw_ hw 116 rfl) (by decide) (by decide)) (g := (mkF m 14 #[.val (.ref a), .val (.int x), .val (.int (0 : Int32)), .val (.int sz)] [(.int sz), (.ref a)])) rfl (by rw [hml]; rfl) (Steps.refl _) (a := a) (by rw [heq2]; exact q3) q3' (argsL := [(.int sz)]) (rest := []) (lenOf pd_0 rfl) rfl (by show 2 * 0 + _ ≤ _; exact Nat.le_of_eq rfl) (hb hby d23_14) (fun _ _ => ⟨rfl, heq2, (by decide : 0 + 0 ≤ _), (by decide : 0 + 0 ≤ _)⟩)
  dsimp only [Pt.U, Pt.locs, Pt.cells, Pt.slots] at X3 l3 y3 z3 st3 hQ3
  subst l3 y3 z3
  obtain ⟨rfl, N3q, heq3⟩ := hQ3
  have N3 := Fr.app N2 N3q
  refine own_by (S' := T3.setTop (mkF m 17 #[.val (.ref a), .val (.int x), .val (.int (0 : Int32)), .val (.int sz)] [])) (fun tZ kZ => st3.trans kZ) ?_
  refine own_by (S' := T3.setTop (mkF m 18 #[.val (.ref a), .val (.int x), .val (.int (0 : Int32)), .val (.int sz)] [(.ref a)])) (fun tZ kZ => XS.aloadN X3.here hx rfl (hb hby d23_17) rfl rfl kZ) ?_
  obtain ⟨cq4, kq4, q4a, q4b, q4c⟩ := isOf hZ heq3 Ea
  obtain ⟨_, _, ⟨T4, L4, k4, n4⟩, -, X4, ⟨Lc4, hQ4, l4, y4, z4⟩, st4⟩ := X3.virtualBack hx (y := (⟨"java/lang/AbstractStringBuilder", "isLatin1", "()Z"⟩ : MethodName)) (z := (⟨"java/lang/AbstractStringBuilder", "isLatin1", "()Z"⟩ : MethodName)) hown (mvT hZ (hw_ hw 145 rfl)) (mvT hZ (hw_ hw 146 rfl)) (notFace_of_selects (args := #[]) (mvT hZ (hw_ hw 148 rfl))) (mvT hZ (hw_ hw 148 rfl)) (mvT hZ (hw_ hw 147 rfl)) (by decide) (backOf (W := 0) (rmAL l Z a0 hw [] a cz h0 n0 Z0 Fc Sc hcz) hZ (hw_ hw 149 rfl) (hw_ hw 116 rfl) (by decide) (by decide)) q4a q4c (g := (mkF m 18 #[.val (.ref a), .val (.int x), .val (.int (0 : Int32)), .val (.int sz)] [(.ref a)])) rfl (by rw [hml]; rfl) (Steps.refl _) (argsL := []) (rest := []) (lenOf pd_5 rfl) rfl (by show 2 * 0 + _ ≤ _; exact Nat.le_of_eq rfl) (hb hby d23_18) (fun _ _ => ⟨rfl, heq3, (by decide : 0 + 0 ≤ _), (by decide : 0 + 0 ≤ _)⟩)
  dsimp only [Pt.U, Pt.locs, Pt.cells, Pt.slots] at X4 l4 y4 z4 st4 hQ4
  subst l4 y4 z4
  obtain ⟨rfl, N4q, heq4⟩ := hQ4
  have N4 := Fr.app N3 N4q
  refine own_by (S' := T4.setTop (mkF m 21 #[.val (.ref a), .val (.int x), .val (.int (0 : Int32)), .val (.int sz)] [(.int (1 : Int32))])) (fun tZ kZ => st4.trans kZ) ?_
  refine own_by (S' := T4.setTop (mkF m 24 #[.val (.ref a), .val (.int x), .val (.int (0 : Int32)), .val (.int sz)] [])) (fun tZ kZ => XS.ifNo X4.here hx rfl (hb hby d23_21) rfl ((if0 _ _).trans (feq (by decide)).1) kZ) ?_
  refine own_by (S' := T4.setTop (mkF m 25 #[.val (.ref a), .val (.int x), .val (.int (0 : Int32)), .val (.int sz)] [(.int x)])) (fun tZ kZ => XS.iloadN X4.here hx rfl (hb hby d23_24) rfl kZ) ?_
  refine own_by (S' := T4.setTop (mkF m 26 #[.val (.ref a), .val (.int x), .val (.int (0 : Int32)), .val (.int sz)] [(.int sz), (.int x)])) (fun tZ kZ => XS.iloadN X4.here hx rfl (hb hby d23_25) rfl kZ) ?_
  refine own_by (S' := T4.setTop (mkF m 27 #[.val (.ref a), .val (.int x), .val (.int (0 : Int32)), .val (.int sz)] [(.ref a), (.int sz), (.int x)])) (fun tZ kZ => XS.aloadN X4.here hx rfl (hb hby d23_26) rfl rfl kZ) ?_
  obtain ⟨T5, X5, e5, st5⟩ := getF X4 hx hZ hown (host := "") (Or.inl (hw_ hw 120 rfl)) Via.refl heq4 Fv (g := (mkF m 27 #[.val (.ref a), .val (.int x), .val (.int (0 : Int32)), .val (.int sz)] [(.ref a), (.int sz), (.int x)])) rfl rfl (hb hby d23_27)
  refine own_by (S' := T5.setTop (mkF m 30 #[.val (.ref a), .val (.int x), .val (.int (0 : Int32)), .val (.int sz)] [(.ref v), (.int sz), (.int x)])) st5 ?_
  obtain ⟨_, _, ⟨T6, L6, k6, n6⟩, -, X6, ⟨Lc6, hQ6, l6, y6, z6⟩, st6⟩ := Jvm.LawKit.callS X5 hx (y := (⟨"java/lang/Integer", "getChars", "(II[B)I"⟩ : MethodName)) hown (mvT hZ (hw_ hw 150 rfl)) (mvT hZ (hw_ hw 151 rfl)) (mvT hZ (hw_ hw 138 rfl)) (mvT hZ (hw_ hw 152 rfl)) (by decide) (backOf (W := 0) (rmGc l Z a0 hw [] x sz d v kv vs do_ dt co ct h0 n0 Z0 hx1 hsd hd10 hxd V_v hl hfv nov ntv g_v S_o A_o z_o e_o S_t A_t z_t e_t) hZ (hw_ hw 152 rfl) (hw_ hw 138 rfl) (by decide) (by decide)) (g := (mkF m 30 #[.val (.ref a), .val (.int x), .val (.int (0 : Int32)), .val (.int sz)] [(.ref v), (.int sz), (.int x)])) rfl (by rw [hml]; rfl) (argsL := [(.int x), (.int sz), (.ref v)]) (rest := []) (lenOf pd_6 rfl) rfl (by show 2 * 0 + _ ≤ _; exact Nat.le_of_eq rfl) (hb hby d23_30) (fun _ _ => ⟨rfl, e5, (by decide : 0 + 0 ≤ _), (by decide : 0 + 0 ≤ _)⟩)
  dsimp only [Pt.U, Pt.locs, Pt.cells, Pt.slots] at X6 l6 y6 z6 st6 hQ6
  subst l6 y6 z6
  obtain ⟨gz, rfl, N6q, Kc6, vs2, V2, hl2, hf2⟩ := hQ6
  have N6 := Fr.app N4 N6q
  have Zs6 := Nat.le_trans Z0 Kc6.1
  have K6 := (Keep.refl h0 [a, v]).trans Kc6 (fun x hx => by
      simp only [List.mem_cons, List.not_mem_nil, or_false] at hx
      rcases hx with rfl
      · exact Or.inl (List.mem_of_getElem? (i := 1) rfl))
  have Ea_6 := Ea.keep Kc6
  have Fv_6 := Fv.keep Kc6 (by
      simp only [List.mem_cons, List.not_mem_nil, or_false, not_or]
      exact ne_a_v)
  have Fc_6 := Fc.keep Kc6 (by
      simp only [List.mem_cons, List.not_mem_nil, or_false, not_or]
      exact ne_a_v)
  have Fn_6 := Fn.keep Kc6 (by
      simp only [List.mem_cons, List.not_mem_nil, or_false, not_or]
      exact ne_a_v)
  have Ev_6 := Ev.keep Kc6
  refine own_by (S' := T6.setTop (mkF m 33 #[.val (.ref a), .val (.int x), .val (.int (0 : Int32)), .val (.int sz)] [(.int gz)])) (fun tZ kZ => st6 _ kZ) ?_
  have V_v2 := V2
  refine own_by (S' := T6.setTop (mkF m 34 #[.val (.ref a), .val (.int x), .val (.int (0 : Int32)), .val (.int sz)] [])) (fun tZ kZ => XS.pop X6.here hx rfl (hb hby d23_33) rfl rfl kZ) ?_
  refine own_by (S' := T6.setTop (mkF m 48 #[.val (.ref a), .val (.int x), .val (.int (0 : Int32)), .val (.int sz)] [])) (fun tZ kZ => XS.goto X6.here hx rfl (pc0 := 34) (pc' := 48) rfl (hb hby d23_34) (by decide) (by decide) kZ) ?_
  refine own_by (S' := T6.setTop (mkF m 49 #[.val (.ref a), .val (.int x), .val (.int (0 : Int32)), .val (.int sz)] [(.ref a)])) (fun tZ kZ => XS.aloadN X6.here hx rfl (hb hby d23_48) rfl rfl kZ) ?_
  refine own_by (S' := T6.setTop (mkF m 50 #[.val (.ref a), .val (.int x), .val (.int (0 : Int32)), .val (.int sz)] [(.int sz), (.ref a)])) (fun tZ kZ => XS.iloadN X6.here hx rfl (hb hby d23_49) rfl kZ) ?_
  obtain ⟨T7, h7, X7, e7, W7, st7⟩ := putF X6 hx hZ hown (host := "") (Or.inl (hw_ hw 134 rfl)) Via.refl rfl Fn_6 Ea_6 (Or.inl (hw_ hw 135 rfl)) (hw_ hw 107 rfl) (ty := .int) (by decide) rfl rfl (g := (mkF m 50 #[.val (.ref a), .val (.int x), .val (.int (0 : Int32)), .val (.int sz)] [(.int sz), (.ref a)])) rfl rfl (hb hby d23_50)
  have N7 := Fr.snoc X7 N6 g_a
  have Ea_7 := Ea_6.wr W7
  have Fv_7 := Fv_6.other W7 (Or.inr (slot_ne (Or.inl (hw_ hw 121 rfl)) (Or.inl (hw_ hw 135 rfl)) (by decide) (t := (.array .byte)) (t' := .int) (by decide) (by decide)))
  have Fc_7 := Fc_6.other W7 (Or.inr (slot_ne (Or.inl (hw_ hw 123 rfl)) (Or.inl (hw_ hw 135 rfl)) (by decide) (t := .byte) (t' := .int) (by decide) (by decide)))
  have Fn_7 := Fn_6.same W7
  have Ev_7 := Ev_6.wr W7
  have V_v2_7 := V_v2.other W7 (Ne.symm ne_a_v)
  have Zs7 : n0 ≤ h7.size := Nat.le_trans Zs6 (Keep.of_wr W7).1
  have K7 := K6.wr W7 (Or.inl (List.mem_of_getElem? (i := 0) rfl))
  refine own_by (S' := T7.setTop (mkF m 53 #[.val (.ref a), .val (.int x), .val (.int (0 : Int32)), .val (.int sz)] [])) st7 ?_
  refine own_by (S' := T7.setTop (mkF m 54 #[.val (.ref a), .val (.int x), .val (.int (0 : Int32)), .val (.int sz)] [(.ref a)])) (fun tZ kZ => XS.aloadN X7.here hx rfl (hb hby d23_53) rfl rfl kZ) ?_
  exact own_retA X7 hx Bd.returns rfl rfl (hb hby d23_54) Bd.notSynchronized (by decide) (by decide) (show QS1 Z a v kv h0 n0 _ T7.heap _ from by rw [e7]; exact ⟨rfl, N7, K7, sz, d, hd1, hd10, hsd, vs2, ⟨Ea_7, Fv_7, Fc_7, Fn_7, V_v2_7, Ev_7⟩, hl2, hf2⟩)
theorem d22_0 : decode jdk_67_method_15_code 0 = .ok (.aload_n 0, 1) := by decide +kernel
theorem d22_1 : decode jdk_67_method_15_code 1 = .ok (.iload_n 1, 1) := by decide +kernel
theorem d22_2 : decode jdk_67_method_15_code 2 = .ok (.invokespecial 53, 3) := by decide +kernel
theorem d22_5 : decode jdk_67_method_15_code 5 = .ok (.pop, 1) := by decide +kernel
theorem d22_6 : decode jdk_67_method_15_code 6 = .ok (.aload_n 0, 1) := by decide +kernel
theorem d22_7 : decode jdk_67_method_15_code 7 = .ok (.areturn, 1) := by decide +kernel
theorem ef_rmSAp (m : MethodId) (a : Addr) (x : Int32) : entryFrame m #[(.ref a), (.int x)] 2 = mkF m 0 #[.val (.ref a), .val (.int x)] [] := by first | (simp [entryFrame, mkF, argsToLocals, Value.category, maxLocals]; done) | rfl
set_option maxRecDepth 65536 in
set_option maxHeartbeats 40000000 in
theorem rmSAp (l : Launch) (Z : State) (a0 : Array Value) (hw : ∀ d ∈ tables_1, d.before a0 Z = true) (ws : List Jvm.Cond) (a v : Addr) (kv : ClassId) (x cz : Int32) (do_ dt : Addr) (co ct : Cell) (h0 : Heap) (n0 : Nat) (Z0 : n0 ≤ h0.size) (OS : OwnS Z h0 a v kv 0 0) (hx1 : 1 ≤ x.toInt) (g_a : n0 ≤ a) (g_v : n0 ≤ v) (nov : do_ ≠ v) (ntv : dt ≠ v) (Sc : Sta Z h0 "java/lang/String" "COMPACT_STRINGS" "Z" (.int cz)) (hcz : ¬ cz = 0) (S_o : Sta Z h0 "java/lang/Integer" "DigitOnes" "[B" (.ref do_)) (A_o : Arr Z h0 do_ co .byte) (z_o : co.slots.size = 100) (e_o : ∀ k : Nat, k < 100 → ∃ z : Int32, co.slots[k]? = some (.int z)) (S_t : Sta Z h0 "java/lang/Integer" "DigitTens" "[B" (.ref dt)) (A_t : Arr Z h0 dt ct .byte) (z_t : ct.slots.size = 100) (e_t : ∀ k : Nat, k < 100 → ∃ z : Int32, ct.slots[k]? = some (.int z)) :
    MetFree l (⟨"java/lang/StringBuilder", "append", "(I)Ljava/lang/StringBuilder;"⟩ : MethodName) (head1 (Jvm.Cond.code (⟨"java/lang/StringBuilder", "append", "(I)Ljava/lang/StringBuilder;"⟩ : MethodName) jdk_67_method_15_code (2 : Nat) (Option.some (Jvm.ClassFile.FieldType.object "java/lang/StringBuilder")) :: ws) ({ frames := 2, cells := 0, slots := 0, locals := 33 } : Room)) (fun aZ UZ => aZ = #[(.ref a), (.int x)] ∧ Z.Warmed39 UZ.vm ∧ UZ.heap = h0) (fun _ _ _ _ _ => True) (fun _ UZ oZ VZ => ∃ vZ LZ, oZ = .returned vZ ∧ (QS1 Z a v kv h0 n0) vZ VZ.heap LZ ∧ FrameEnd UZ oZ VZ LZ ({ frames := 2, cells := 0, slots := 0, locals := 33 } : Room).cells ({ frames := 2, cells := 0, slots := 0, locals := 33 } : Room).slots) := by
  refine MetFree.of_bodySF (plainFor_of_name pn_8) hisR ?_
  intro p e s m args below meth c s₁ Bd hml0 hP hK
  obtain ⟨rfl, hZ, hh⟩ := hP
  have hx := Bd.exec
  have hby := Bd.bytes
  have hml : c.maxLocals = 2 := hml0
  have hown : s.vm.findClass "java/lang/StringBuilder" = some m.cls := findClass_of_methodNamed Bd.named
  have hnm := (name_of_methodNamed Bd.named Bd.method).1
  have X0 : Stand p l e ({ frames := 2, cells := 0, slots := 0, locals := 33 } : Room) s m #[(.ref a), (.int x)] below meth c s₁ [] 0 0 := Stand.of_body Bd
  have e0 : s₁.heap = h0 := by rw [← hh, Bd.state]; rfl
  have N0 := Fr.nil n0
  show OwnG p e below (OwnE s (QS1 Z a v kv h0 n0) ({ frames := 2, cells := 0, slots := 0, locals := 33 } : Room).cells ({ frames := 2, cells := 0, slots := 0, locals := 33 } : Room).slots) _
  refine own_by (S' := s₁.setTop (mkF m 0 #[.val (.ref a), .val (.int x)] [])) (fun tZ kZ => castTop (ef_rmSAp m a x) kZ) ?_
  obtain ⟨-, vs, B, -⟩ := id OS
  refine own_by (S' := s₁.setTop (mkF m 1 #[.val (.ref a), .val (.int x)] [(.ref a)])) (fun tZ kZ => XS.aloadN X0.here hx rfl (hb hby d22_0) rfl rfl kZ) ?_
  refine own_by (S' := s₁.setTop (mkF m 2 #[.val (.ref a), .val (.int x)] [(.int x), (.ref a)])) (fun tZ kZ => XS.iloadN X0.here hx rfl (hb hby d22_1) rfl kZ) ?_
  obtain ⟨_, _, ⟨T1, L1, k1, n1⟩, -, X1, ⟨Lc1, hQ1, l1, y1, z1⟩, st1⟩ := superBack X0 hx hZ (y := (⟨"java/lang/AbstractStringBuilder", "append", "(I)Ljava/lang/AbstractStringBuilder;"⟩ : MethodName)) hown (hw_ hw 129 rfl) (own_same (y := (⟨"java/lang/AbstractStringBuilder", "append", "(I)Ljava/lang/AbstractStringBuilder;"⟩ : MethodName)) (hw_ hw 132 rfl) (hw_ hw 143 rfl) rfl (by decide)) (hw_ hw 130 rfl) (hw_ hw 131 rfl) (by decide) (backOf (W := 0) (rmAp l Z a0 hw [] a v kv x cz do_ dt co ct h0 n0 Z0 OS hx1 g_a g_v nov ntv Sc hcz S_o A_o z_o e_o S_t A_t z_t e_t) hZ (hw_ hw 133 rfl) (hw_ hw 116 rfl) (by decide) (by decide)) e0 (Ins.self B.1) (g := (mkF m 2 #[.val (.ref a), .val (.int x)] [(.int x), (.ref a)])) rfl (by rw [hml]; rfl) (hw_ hw 133 rfl) (argsL := [(.int x)]) (rest := []) (lenOf pd_7 rfl) rfl (by show 2 * 0 + _ ≤ _; exact Nat.le_of_eq rfl) (hb hby d22_2) (fun _ _ => ⟨rfl, e0, (by decide : 0 + 0 ≤ _), (by decide : 0 + 0 ≤ _)⟩)
  dsimp only [Pt.U, Pt.locs, Pt.cells, Pt.slots] at X1 l1 y1 z1 st1 hQ1
  subst l1 y1 z1
  obtain ⟨rfl, N1q, R1⟩ := hQ1
  have N1 := Fr.app N0 N1q
  refine own_by (S' := T1.setTop (mkF m 5 #[.val (.ref a), .val (.int x)] [(.ref a)])) (fun tZ kZ => st1.trans kZ) ?_
  refine own_by (S' := T1.setTop (mkF m 6 #[.val (.ref a), .val (.int x)] [])) (fun tZ kZ => XS.pop X1.here hx rfl (hb hby d22_5) rfl rfl kZ) ?_
  refine own_by (S' := T1.setTop (mkF m 7 #[.val (.ref a), .val (.int x)] [(.ref a)])) (fun tZ kZ => XS.aloadN X1.here hx rfl (hb hby d22_6) rfl rfl kZ) ?_
  exact own_retA X1 hx Bd.returns rfl rfl (hb hby d22_7) Bd.notSynchronized (by decide) (by decide) ⟨rfl, N1, R1⟩
theorem d34_0 : decode jdk_42_method_147_code 0 = .ok (.aload_n 0, 1) := by decide +kernel
theorem d34_1 : decode jdk_42_method_147_code 1 = .ok (.invokevirtual 335, 3) := by decide +kernel
theorem d34_4 : decode jdk_42_method_147_code 4 = .ok (.iload_n 3, 1) := by decide +kernel
theorem d34_5 : decode jdk_42_method_147_code 5 = .ok (.if_icmp .ne 23, 3) := by decide +kernel
theorem d34_8 : decode jdk_42_method_147_code 8 = .ok (.aload_n 0, 1) := by decide +kernel
theorem d34_9 : decode jdk_42_method_147_code 9 = .ok (.getfield 9, 3) := by decide +kernel
theorem d34_12 : decode jdk_42_method_147_code 12 = .ok (.iconst 0, 1) := by decide +kernel
theorem d34_13 : decode jdk_42_method_147_code 13 = .ok (.aload_n 1, 1) := by decide +kernel
theorem d34_14 : decode jdk_42_method_147_code 14 = .ok (.iload_n 2, 1) := by decide +kernel
theorem d34_15 : decode jdk_42_method_147_code 15 = .ok (.iload_n 3, 1) := by decide +kernel
theorem d34_16 : decode jdk_42_method_147_code 16 = .ok (.ishl, 1) := by decide +kernel
theorem d34_17 : decode jdk_42_method_147_code 17 = .ok (.aload_n 0, 1) := by decide +kernel
theorem d34_18 : decode jdk_42_method_147_code 18 = .ok (.getfield 9, 3) := by decide +kernel
theorem d34_21 : decode jdk_42_method_147_code 21 = .ok (.arraylength, 1) := by decide +kernel
theorem d34_22 : decode jdk_42_method_147_code 22 = .ok (.invokestatic 212, 3) := by decide +kernel
theorem d34_25 : decode jdk_42_method_147_code 25 = .ok (.goto 18, 3) := by decide +kernel
theorem d34_28 : decode jdk_42_method_147_code 28 = .ok (.aload_n 0, 1) := by decide +kernel
theorem d34_29 : decode jdk_42_method_147_code 29 = .ok (.getfield 9, 3) := by decide +kernel
theorem d34_32 : decode jdk_42_method_147_code 32 = .ok (.iconst 0, 1) := by decide +kernel
theorem d34_33 : decode jdk_42_method_147_code 33 = .ok (.aload_n 1, 1) := by decide +kernel
theorem d34_34 : decode jdk_42_method_147_code 34 = .ok (.iload_n 2, 1) := by decide +kernel
theorem d34_35 : decode jdk_42_method_147_code 35 = .ok (.aload_n 0, 1) := by decide +kernel
theorem d34_36 : decode jdk_42_method_147_code 36 = .ok (.getfield 9, 3) := by decide +kernel
theorem d34_39 : decode jdk_42_method_147_code 39 = .ok (.arraylength, 1) := by decide +kernel
theorem d34_40 : decode jdk_42_method_147_code 40 = .ok (.invokestatic 106, 3) := by decide +kernel
theorem d34_43 : decode jdk_42_method_147_code 43 = .ok (.return_, 1) := by decide +kernel
theorem ef_rmGb (m : MethodId) (su : Addr) (v : Addr) (n : Int32) : entryFrame m #[(.ref su), (.ref v), (.int n), (.int (0 : Int32))] 4 = mkF m 0 #[.val (.ref su), .val (.ref v), .val (.int n), .val (.int (0 : Int32))] [] := by first | (simp [entryFrame, mkF, argsToLocals, Value.category, maxLocals]; done) | rfl
set_option maxRecDepth 65536 in
set_option maxHeartbeats 40000000 in
theorem rmGb (l : Launch) (Z : State) (a0 : Array Value) (hw : ∀ d ∈ tables_1, d.before a0 Z = true) (ws : List Jvm.Cond) (su tu : Addr) (ku : ClassId) (v : Addr) (kv : ClassId) (n cz : Int32) (d : Nat) (vs : List Value) (h0 : Heap) (n0 : Nat) (Z0 : n0 ≤ h0.size) (Eu : Exa Z h0 su "java/lang/String") (Uv : Fld Z h0 su "java/lang/String" "value" "[B" (.ref tu)) (Uc : Fld Z h0 su "java/lang/String" "coder" "B" (.int 0)) (V_tu : OwnA Z h0 tu ku .byte [.int 32, .int 115]) (ntu : tu ≠ v) (V_v : OwnA Z h0 v kv .byte vs) (hl : vs.length = 16) (hfv : ∀ q ∈ vs, fits .byte q = true) (hnd : n.toInt = d) (hd : d ≤ 10) (g_v : n0 ≤ v) (Sc : Sta Z h0 "java/lang/String" "COMPACT_STRINGS" "Z" (.int cz)) (hcz : ¬ cz = 0) :
    MetFree l (⟨"java/lang/String", "getBytes", "([BIB)V"⟩ : MethodName) (head1 (Jvm.Cond.code (⟨"java/lang/String", "getBytes", "([BIB)V"⟩ : MethodName) jdk_42_method_147_code (4 : Nat) (Option.none : Option Jvm.ClassFile.FieldType) :: ws) ({ frames := 1, cells := 0, slots := 0, locals := 40 } : Room)) (fun aZ UZ => aZ = #[(.ref su), (.ref v), (.int n), (.int (0 : Int32))] ∧ Z.Warmed39 UZ.vm ∧ UZ.heap = h0) (fun _ _ _ _ _ => True) (fun _ UZ oZ VZ => ∃ vZ LZ, oZ = .returned vZ ∧ (QGb Z v kv h0 n0) vZ VZ.heap LZ ∧ FrameEnd UZ oZ VZ LZ ({ frames := 1, cells := 0, slots := 0, locals := 40 } : Room).cells ({ frames := 1, cells := 0, slots := 0, locals := 40 } : Room).slots) := by
  refine MetFree.of_bodySF (plainFor_of_name pn_7) hisR ?_
  intro p e s m args below meth c s₁ Bd hml0 hP hK
  obtain ⟨rfl, hZ, hh⟩ := hP
  have hx := Bd.exec
  have hby := Bd.bytes
  have hml : c.maxLocals = 4 := hml0
  have hown : s.vm.findClass "java/lang/String" = some m.cls := findClass_of_methodNamed Bd.named
  have hnm := (name_of_methodNamed Bd.named Bd.method).1
  have X0 : Stand p l e ({ frames := 1, cells := 0, slots := 0, locals := 40 } : Room) s m #[(.ref su), (.ref v), (.int n), (.int (0 : Int32))] below meth c s₁ [] 0 0 := Stand.of_body Bd
  have e0 : s₁.heap = h0 := by rw [← hh, Bd.state]; rfl
  have N0 := Fr.nil n0
  show OwnG p e below (OwnE s (QGb Z v kv h0 n0) ({ frames := 1, cells := 0, slots := 0, locals := 40 } : Room).cells ({ frames := 1, cells := 0, slots := 0, locals := 40 } : Room).slots) _
  refine own_by (S' := s₁.setTop (mkF m 0 #[.val (.ref su), .val (.ref v), .val (.int n), .val (.int (0 : Int32))] [])) (fun tZ kZ => castTop (ef_rmGb m su v n) kZ) ?_
  refine own_by (S' := s₁.setTop (mkF m 1 #[.val (.ref su), .val (.ref v), .val (.int n), .val (.int (0 : Int32))] [(.ref su)])) (fun tZ kZ => XS.aloadN X0.here hx rfl (hb hby d34_0) rfl rfl kZ) ?_
  obtain ⟨cq1, kq1, q1a, q1b, q1c⟩ := isOf hZ e0 Eu
  obtain ⟨_, _, ⟨T1, L1, k1, n1⟩, -, X1, ⟨Lc1, hQ1, l1, y1, z1⟩, st1⟩ := X0.virtualBack hx (y := (⟨"java/lang/String", "coder", "()B"⟩ : MethodName)) (z := (⟨"java/lang/String", "coder", "()B"⟩ : MethodName)) hown (mvT hZ (hw_ hw 170 rfl)) (mvT hZ (hw_ hw 171 rfl)) (notFace_of_selects (args := #[]) (mvT hZ (hw_ hw 173 rfl))) (mvT hZ (hw_ hw 173 rfl)) (mvT hZ (hw_ hw 172 rfl)) (by decide) (backOf (W := 0) (rmCoder l Z a0 hw [] su cz h0 n0 Z0 Uc Sc hcz) hZ (hw_ hw 174 rfl) (hw_ hw 61 rfl) (by decide) (by decide)) q1a q1c (g := (mkF m 1 #[.val (.ref su), .val (.ref v), .val (.int n), .val (.int (0 : Int32))] [(.ref su)])) rfl (by rw [hml]; rfl) (Steps.refl _) (argsL := []) (rest := []) (lenOf pd_3 rfl) rfl (by show 2 * 0 + _ ≤ _; exact Nat.le_of_eq rfl) (hb hby d34_1) (fun _ _ => ⟨rfl, e0, (by decide : 0 + 0 ≤ _), (by decide : 0 + 0 ≤ _)⟩)
  dsimp only [Pt.U, Pt.locs, Pt.cells, Pt.slots] at X1 l1 y1 z1 st1 hQ1
  subst l1 y1 z1
  obtain ⟨rfl, N1q, heq1⟩ := hQ1
  have N1 := Fr.app N0 N1q
  refine own_by (S' := T1.setTop (mkF m 4 #[.val (.ref su), .val (.ref v), .val (.int n), .val (.int (0 : Int32))] [(.int (0 : Int32))])) (fun tZ kZ => st1.trans kZ) ?_
  refine own_by (S' := T1.setTop (mkF m 5 #[.val (.ref su), .val (.ref v), .val (.int n), .val (.int (0 : Int32))] [(.int (0 : Int32)), (.int (0 : Int32))])) (fun tZ kZ => XS.iloadN X1.here hx rfl (hb hby d34_4) rfl kZ) ?_
  refine own_by (S' := T1.setTop (mkF m 8 #[.val (.ref su), .val (.ref v), .val (.int n), .val (.int (0 : Int32))] [])) (fun tZ kZ => XS.icmpNo X1.here hx rfl (hb hby d34_5) rfl (teq rfl).2 kZ) ?_
  refine own_by (S' := T1.setTop (mkF m 9 #[.val (.ref su), .val (.ref v), .val (.int n), .val (.int (0 : Int32))] [(.ref su)])) (fun tZ kZ => XS.aloadN X1.here hx rfl (hb hby d34_8) rfl rfl kZ) ?_
  obtain ⟨T2, X2, e2, st2⟩ := getF X1 hx hZ hown (host := "") (Or.inl (hw_ hw 169 rfl)) Via.refl heq1 Uv (g := (mkF m 9 #[.val (.ref su), .val (.ref v), .val (.int n), .val (.int (0 : Int32))] [(.ref su)])) rfl rfl (hb hby d34_9)
  refine own_by (S' := T2.setTop (mkF m 12 #[.val (.ref su), .val (.ref v), .val (.int n), .val (.int (0 : Int32))] [(.ref tu)])) st2 ?_
  refine own_by (S' := T2.setTop (mkF m 13 #[.val (.ref su), .val (.ref v), .val (.int n), .val (.int (0 : Int32))] [(.int (0 : Int32)), (.ref tu)])) (fun tZ kZ => XS.iconst X2.here hx rfl (hb hby d34_12) kZ) ?_
  refine own_by (S' := T2.setTop (mkF m 14 #[.val (.ref su), .val (.ref v), .val (.int n), .val (.int (0 : Int32))] [(.ref v), (.int (0 : Int32)), (.ref tu)])) (fun tZ kZ => XS.aloadN X2.here hx rfl (hb hby d34_13) rfl rfl kZ) ?_
  refine own_by (S' := T2.setTop (mkF m 15 #[.val (.ref su), .val (.ref v), .val (.int n), .val (.int (0 : Int32))] [(.int n), (.ref v), (.int (0 : Int32)), (.ref tu)])) (fun tZ kZ => XS.iloadN X2.here hx rfl (hb hby d34_14) rfl kZ) ?_
  refine own_by (S' := T2.setTop (mkF m 16 #[.val (.ref su), .val (.ref v), .val (.int n), .val (.int (0 : Int32))] [(.int (0 : Int32)), (.int n), (.ref v), (.int (0 : Int32)), (.ref tu)])) (fun tZ kZ => XS.iloadN X2.here hx rfl (hb hby d34_15) rfl kZ) ?_
  refine own_by (S' := T2.setTop (mkF m 17 #[.val (.ref su), .val (.ref v), .val (.int n), .val (.int (0 : Int32))] [(.int (n <<< ((0 : Int32) &&& 31))), (.ref v), (.int (0 : Int32)), (.ref tu)])) (fun tZ kZ => XS.ishl X2.here hx rfl (hb hby d34_16) rfl kZ) ?_
  rw [own_shl0]
  refine own_by (S' := T2.setTop (mkF m 18 #[.val (.ref su), .val (.ref v), .val (.int n), .val (.int (0 : Int32))] [(.ref su), (.int n), (.ref v), (.int (0 : Int32)), (.ref tu)])) (fun tZ kZ => XS.aloadN X2.here hx rfl (hb hby d34_17) rfl rfl kZ) ?_
  obtain ⟨T3, X3, e3, st3⟩ := getF X2 hx hZ hown (host := "") (Or.inl (hw_ hw 169 rfl)) Via.refl e2 Uv (g := (mkF m 18 #[.val (.ref su), .val (.ref v), .val (.int n), .val (.int (0 : Int32))] [(.ref su), (.int n), (.ref v), (.int (0 : Int32)), (.ref tu)])) rfl rfl (hb hby d34_18)
  refine own_by (S' := T3.setTop (mkF m 21 #[.val (.ref su), .val (.ref v), .val (.int n), .val (.int (0 : Int32))] [(.ref tu), (.int n), (.ref v), (.int (0 : Int32)), (.ref tu)])) st3 ?_
  obtain ⟨cc4, Ar4, hc4, hl4⟩ := id V_tu
  refine own_by (S' := T3.setTop (mkF m 22 #[.val (.ref su), .val (.ref v), .val (.int n), .val (.int (0 : Int32))] [(.int (2 : Int32)), (.int n), (.ref v), (.int (0 : Int32)), (.ref tu)])) (fun tZ kZ => X3.arraylength hx (by rw [e3]; exact Ar4.1) (State.isArrayOf_alike hZ.alike Ar4.2.1) (g := (mkF m 21 #[.val (.ref su), .val (.ref v), .val (.int n), .val (.int (0 : Int32))] [(.ref tu), (.int n), (.ref v), (.int (0 : Int32)), (.ref tu)])) rfl rfl (hb hby d34_21) _ (by rw [len_of (OwnA.size (z := (2 : Int32)) hl4 rfl) (by decide)]; exact kZ)) ?_
  obtain ⟨T5, h5, X5, e5, Kw5, V5, st5⟩ := own_acopy X3 hx hZ hown (hw_ hw 193 rfl) (hw_ hw 196 rfl) (hw_ hw 194 rfl) (hw_ hw 195 rfl) e3 V_tu V_v rfl own_fit2 (o := 0) (q := d) (n := 2) rfl (own_ofn hnd) rfl (by decide) (by omega) (by decide) (by omega) (g := (mkF m 22 #[.val (.ref su), .val (.ref v), .val (.int n), .val (.int (0 : Int32))] [(.int (2 : Int32)), (.int n), (.ref v), (.int (0 : Int32)), (.ref tu)])) rfl (by rw [hml]; rfl) (rest := []) rfl (hb hby d34_22) (W := 0) (by show 2 * 0 + _ ≤ _; exact Nat.le_of_eq rfl) (by decide) (by decide)
  have N5 := Fr.app N1 (own_frcopy (b := v) (q := d) (n := 2) g_v)
  have Zs5 := Nat.le_trans Z0 Kw5.1
  have V_tu_5 := V_tu.keep Kw5 (fun q => ntu (List.mem_singleton.mp q))
  have K5 := (Keep.refl h0 [v]).trans Kw5 (fun x hx => by
      obtain rfl := List.mem_singleton.mp hx
      exact Or.inl (List.mem_of_getElem? (i := 0) rfl))
  have V_v_c5 := V5
  refine own_by (S' := T5.setTop (mkF m 25 #[.val (.ref su), .val (.ref v), .val (.int n), .val (.int (0 : Int32))] [])) st5 ?_
  refine own_by (S' := T5.setTop (mkF m 43 #[.val (.ref su), .val (.ref v), .val (.int n), .val (.int (0 : Int32))] [])) (fun tZ kZ => XS.goto X5.here hx rfl (pc0 := 25) (pc' := 43) rfl (hb hby d34_25) (by decide) (by decide) kZ) ?_
  exact own_ret0 X5 hx Bd.returns (hb hby d34_43) Bd.notSynchronized (by decide) (by decide) (show QGb Z v kv h0 n0 none T5.heap _ from by rw [e5]; exact ⟨rfl, N5, K5, _, V_v_c5, own_cplen hl rfl (by omega), own_cpfit hfv own_fit2⟩)
theorem d33_0 : decode jdk_68_method_71_code 0 = .ok (.getstatic 18, 3) := by decide +kernel
theorem d33_3 : decode jdk_68_method_71_code 3 = .ok (.ifCond .eq 18, 3) := by decide +kernel
theorem d33_6 : decode jdk_68_method_71_code 6 = .ok (.aload_n 0, 1) := by decide +kernel
theorem d33_7 : decode jdk_68_method_71_code 7 = .ok (.getfield 22, 3) := by decide +kernel
theorem d33_10 : decode jdk_68_method_71_code 10 = .ok (.aload_n 1, 1) := by decide +kernel
theorem d33_11 : decode jdk_68_method_71_code 11 = .ok (.invokevirtual 40, 3) := by decide +kernel
theorem d33_14 : decode jdk_68_method_71_code 14 = .ok (.if_icmp .eq 7, 3) := by decide +kernel
theorem d33_17 : decode jdk_68_method_71_code 17 = .ok (.aload_n 0, 1) := by decide +kernel
theorem d33_18 : decode jdk_68_method_71_code 18 = .ok (.invokevirtual 195, 3) := by decide +kernel
theorem d33_21 : decode jdk_68_method_71_code 21 = .ok (.return_, 1) := by decide +kernel
theorem ef_rmIn (m : MethodId) (a : Addr) (su : Addr) : entryFrame m #[(.ref a), (.ref su)] 2 = mkF m 0 #[.val (.ref a), .val (.ref su)] [] := by first | (simp [entryFrame, mkF, argsToLocals, Value.category, maxLocals]; done) | rfl
set_option maxRecDepth 65536 in
set_option maxHeartbeats 40000000 in
theorem rmIn (l : Launch) (Z : State) (a0 : Array Value) (hw : ∀ d ∈ tables_1, d.before a0 Z = true) (ws : List Jvm.Cond) (a su : Addr) (cz : Int32) (h0 : Heap) (n0 : Nat) (Z0 : n0 ≤ h0.size) (Fc : Fld Z h0 a "java/lang/AbstractStringBuilder" "coder" "B" (.int 0)) (Eu : Exa Z h0 su "java/lang/String") (Uc : Fld Z h0 su "java/lang/String" "coder" "B" (.int 0)) (Sc : Sta Z h0 "java/lang/String" "COMPACT_STRINGS" "Z" (.int cz)) (hcz : ¬ cz = 0) :
    MetFree l (⟨"java/lang/AbstractStringBuilder", "inflateIfNeededFor", "(Ljava/lang/String;)V"⟩ : MethodName) (head1 (Jvm.Cond.code (⟨"java/lang/AbstractStringBuilder", "inflateIfNeededFor", "(Ljava/lang/String;)V"⟩ : MethodName) jdk_68_method_71_code (2 : Nat) (Option.none : Option Jvm.ClassFile.FieldType) :: ws) ({ frames := 1, cells := 0, slots := 0, locals := 13 } : Room)) (fun aZ UZ => aZ = #[(.ref a), (.ref su)] ∧ Z.Warmed39 UZ.vm ∧ UZ.heap = h0) (fun _ _ _ _ _ => True) (fun _ UZ oZ VZ => ∃ vZ LZ, oZ = .returned vZ ∧ (QSame none h0 n0) vZ VZ.heap LZ ∧ FrameEnd UZ oZ VZ LZ ({ frames := 1, cells := 0, slots := 0, locals := 13 } : Room).cells ({ frames := 1, cells := 0, slots := 0, locals := 13 } : Room).slots) := by
  refine MetFree.of_bodySF (plainFor_of_name pn_6) hisR ?_
  intro p e s m args below meth c s₁ Bd hml0 hP hK
  obtain ⟨rfl, hZ, hh⟩ := hP
  have hx := Bd.exec
  have hby := Bd.bytes
  have hml : c.maxLocals = 2 := hml0
  have hown : s.vm.findClass "java/lang/AbstractStringBuilder" = some m.cls := findClass_of_methodNamed Bd.named
  have hnm := (name_of_methodNamed Bd.named Bd.method).1
  have X0 : Stand p l e ({ frames := 1, cells := 0, slots := 0, locals := 13 } : Room) s m #[(.ref a), (.ref su)] below meth c s₁ [] 0 0 := Stand.of_body Bd
  have e0 : s₁.heap = h0 := by rw [← hh, Bd.state]; rfl
  have N0 := Fr.nil n0
  show OwnG p e below (OwnE s (QSame none h0 n0) ({ frames := 1, cells := 0, slots := 0, locals := 13 } : Room).cells ({ frames := 1, cells := 0, slots := 0, locals := 13 } : Room).slots) _
  refine own_by (S' := s₁.setTop (mkF m 0 #[.val (.ref a), .val (.ref su)] [])) (fun tZ kZ => castTop (ef_rmIn m a su) kZ) ?_
  obtain ⟨T1, X1, e1, st1⟩ := getS2 X0 hx hZ hown (host := "") (Or.inl (hw_ hw 119 rfl)) Via.refl e0 Sc (g := (mkF m 0 #[.val (.ref a), .val (.ref su)] [])) rfl (hb hby d33_0)
  refine own_by (S' := T1.setTop (mkF m 3 #[.val (.ref a), .val (.ref su)] [(.int cz)])) st1 ?_
  refine own_by (S' := T1.setTop (mkF m 6 #[.val (.ref a), .val (.ref su)] [])) (fun tZ kZ => XS.ifNo X1.here hx rfl (hb hby d33_3) rfl ((if0 _ _).trans (feq hcz).1) kZ) ?_
  refine own_by (S' := T1.setTop (mkF m 7 #[.val (.ref a), .val (.ref su)] [(.ref a)])) (fun tZ kZ => XS.aloadN X1.here hx rfl (hb hby d33_6) rfl rfl kZ) ?_
  obtain ⟨T2, X2, e2, st2⟩ := getF X1 hx hZ hown (host := "") (Or.inl (hw_ hw 122 rfl)) Via.refl e1 Fc (g := (mkF m 7 #[.val (.ref a), .val (.ref su)] [(.ref a)])) rfl rfl (hb hby d33_7)
  refine own_by (S' := T2.setTop (mkF m 10 #[.val (.ref a), .val (.ref su)] [(.int (0 : Int32))])) st2 ?_
  refine own_by (S' := T2.setTop (mkF m 11 #[.val (.ref a), .val (.ref su)] [(.ref su), (.int (0 : Int32))])) (fun tZ kZ => XS.aloadN X2.here hx rfl (hb hby d33_10) rfl rfl kZ) ?_
  obtain ⟨cq3, kq3, q3a, q3b, q3c⟩ := isOf hZ e2 Eu
  obtain ⟨_, _, ⟨T3, L3, k3, n3⟩, -, X3, ⟨Lc3, hQ3, l3, y3, z3⟩, st3⟩ := X2.virtualBack hx (y := (⟨"java/lang/String", "coder", "()B"⟩ : MethodName)) (z := (⟨"java/lang/String", "coder", "()B"⟩ : MethodName)) hown (mvT hZ (hw_ hw 187 rfl)) (mvT hZ (hw_ hw 171 rfl)) (notFace_of_selects (args := #[]) (mvT hZ (hw_ hw 173 rfl))) (mvT hZ (hw_ hw 173 rfl)) (mvT hZ (hw_ hw 172 rfl)) (by decide) (backOf (W := 1) (rmCoder l Z a0 hw [] su cz h0 n0 Z0 Uc Sc hcz) hZ (hw_ hw 174 rfl) (hw_ hw 61 rfl) (by decide) (by decide)) q3a q3c (g := (mkF m 11 #[.val (.ref a), .val (.ref su)] [(.ref su), (.int (0 : Int32))])) rfl (by rw [hml]; rfl) (Steps.refl _) (argsL := []) (rest := [(.int (0 : Int32))]) (lenOf pd_3 rfl) rfl (by show 2 * 0 + _ ≤ _; exact Nat.le_of_eq rfl) (hb hby d33_11) (fun _ _ => ⟨rfl, e2, (by decide : 0 + 0 ≤ _), (by decide : 0 + 0 ≤ _)⟩)
  dsimp only [Pt.U, Pt.locs, Pt.cells, Pt.slots] at X3 l3 y3 z3 st3 hQ3
  subst l3 y3 z3
  obtain ⟨rfl, N3q, heq3⟩ := hQ3
  have N3 := Fr.app N0 N3q
  refine own_by (S' := T3.setTop (mkF m 14 #[.val (.ref a), .val (.ref su)] [(.int (0 : Int32)), (.int (0 : Int32))])) (fun tZ kZ => st3.trans kZ) ?_
  refine own_by (S' := T3.setTop (mkF m 21 #[.val (.ref a), .val (.ref su)] [])) (fun tZ kZ => XS.icmpYes X3.here hx rfl (pc0 := 14) (pc' := 21) rfl (hb hby d33_14) rfl (teq rfl).1 (by decide) (by decide) kZ) ?_
  exact own_ret0 X3 hx Bd.returns (hb hby d33_21) Bd.notSynchronized (by decide) (by decide) ⟨rfl, N3, heq3⟩
theorem d32_0 : decode jdk_68_method_73_code 0 = .ok (.aload_n 0, 1) := by decide +kernel
theorem d32_1 : decode jdk_68_method_73_code 1 = .ok (.aload_n 2, 1) := by decide +kernel
theorem d32_2 : decode jdk_68_method_73_code 2 = .ok (.invokevirtual 397, 3) := by decide +kernel
theorem d32_5 : decode jdk_68_method_73_code 5 = .ok (.aload_n 2, 1) := by decide +kernel
theorem d32_6 : decode jdk_68_method_73_code 6 = .ok (.aload_n 0, 1) := by decide +kernel
theorem d32_7 : decode jdk_68_method_73_code 7 = .ok (.getfield 15, 3) := by decide +kernel
theorem d32_10 : decode jdk_68_method_73_code 10 = .ok (.iload_n 1, 1) := by decide +kernel
theorem d32_11 : decode jdk_68_method_73_code 11 = .ok (.aload_n 0, 1) := by decide +kernel
theorem d32_12 : decode jdk_68_method_73_code 12 = .ok (.getfield 22, 3) := by decide +kernel
theorem d32_15 : decode jdk_68_method_73_code 15 = .ok (.invokevirtual 399, 3) := by decide +kernel
theorem d32_18 : decode jdk_68_method_73_code 18 = .ok (.return_, 1) := by decide +kernel
theorem ef_rmPs (m : MethodId) (a : Addr) (n : Int32) (su : Addr) : entryFrame m #[(.ref a), (.int n), (.ref su)] 3 = mkF m 0 #[.val (.ref a), .val (.int n), .val (.ref su)] [] := by first | (simp [entryFrame, mkF, argsToLocals, Value.category, maxLocals]; done) | rfl
set_option maxRecDepth 65536 in
set_option maxHeartbeats 40000000 in
theorem rmPs (l : Launch) (Z : State) (a0 : Array Value) (hw : ∀ d ∈ tables_1, d.before a0 Z = true) (ws : List Jvm.Cond) (a v : Addr) (kv : ClassId) (n cz : Int32) (d : Nat) (su tu : Addr) (ku : ClassId) (h0 : Heap) (n0 : Nat) (Z0 : n0 ≤ h0.size) (OS : OwnS Z h0 a v kv n d) (hd : d ≤ 10) (g_a : n0 ≤ a) (g_v : n0 ≤ v) (Eu : Exa Z h0 su "java/lang/String") (Uv : Fld Z h0 su "java/lang/String" "value" "[B" (.ref tu)) (Uc : Fld Z h0 su "java/lang/String" "coder" "B" (.int 0)) (V_tu : OwnA Z h0 tu ku .byte [.int 32, .int 115]) (ntu : tu ≠ v) (Sc : Sta Z h0 "java/lang/String" "COMPACT_STRINGS" "Z" (.int cz)) (hcz : ¬ cz = 0) :
    MetFree l (⟨"java/lang/AbstractStringBuilder", "putStringAt", "(ILjava/lang/String;)V"⟩ : MethodName) (head1 (Jvm.Cond.code (⟨"java/lang/AbstractStringBuilder", "putStringAt", "(ILjava/lang/String;)V"⟩ : MethodName) jdk_68_method_73_code (3 : Nat) (Option.none : Option Jvm.ClassFile.FieldType) :: ws) ({ frames := 2, cells := 0, slots := 0, locals := 55 } : Room)) (fun aZ UZ => aZ = #[(.ref a), (.int n), (.ref su)] ∧ Z.Warmed39 UZ.vm ∧ UZ.heap = h0) (fun _ _ _ _ _ => True) (fun _ UZ oZ VZ => ∃ vZ LZ, oZ = .returned vZ ∧ (QGb Z v kv h0 n0) vZ VZ.heap LZ ∧ FrameEnd UZ oZ VZ LZ ({ frames := 2, cells := 0, slots := 0, locals := 55 } : Room).cells ({ frames := 2, cells := 0, slots := 0, locals := 55 } : Room).slots) := by
  refine MetFree.of_bodySF (plainFor_of_name pn_6) hisR ?_
  intro p e s m args below meth c s₁ Bd hml0 hP hK
  obtain ⟨rfl, hZ, hh⟩ := hP
  have hx := Bd.exec
  have hby := Bd.bytes
  have hml : c.maxLocals = 3 := hml0
  have hown : s.vm.findClass "java/lang/AbstractStringBuilder" = some m.cls := findClass_of_methodNamed Bd.named
  have hnm := (name_of_methodNamed Bd.named Bd.method).1
  have X0 : Stand p l e ({ frames := 2, cells := 0, slots := 0, locals := 55 } : Room) s m #[(.ref a), (.int n), (.ref su)] below meth c s₁ [] 0 0 := Stand.of_body Bd
  have e0 : s₁.heap = h0 := by rw [← hh, Bd.state]; rfl
  have N0 := Fr.nil n0
  show OwnG p e below (OwnE s (QGb Z v kv h0 n0) ({ frames := 2, cells := 0, slots := 0, locals := 55 } : Room).cells ({ frames := 2, cells := 0, slots := 0, locals := 55 } : Room).slots) _
  refine own_by (S' := s₁.setTop (mkF m 0 #[.val (.ref a), .val (.int n), .val (.ref su)] [])) (fun tZ kZ => castTop (ef_rmPs m a n su) kZ) ?_
  obtain ⟨hnd, vs, B, hl, hfv⟩ := id OS
  obtain ⟨Ea, Fv, Fc, Fn, V_v, Ev⟩ := id B
  refine own_by (S' := s₁.setTop (mkF m 1 #[.val (.ref a), .val (.int n), .val (.ref su)] [(.ref a)])) (fun tZ kZ => XS.aloadN X0.here hx rfl (hb hby d32_0) rfl rfl kZ) ?_
  refine own_by (S' := s₁.setTop (mkF m 2 #[.val (.ref a), .val (.int n), .val (.ref su)] [(.ref su), (.ref a)])) (fun tZ kZ => XS.aloadN X0.here hx rfl (hb hby d32_1) rfl rfl kZ) ?_
  obtain ⟨cq1, q1, q1'⟩ := Ea.cell
  obtain ⟨_, _, ⟨T1, L1, k1, n1⟩, -, X1, ⟨Lc1, hQ1, l1, y1, z1⟩, st1⟩ := X0.privateBack hx (y := (⟨"java/lang/AbstractStringBuilder", "inflateIfNeededFor", "(Ljava/lang/String;)V"⟩ : MethodName)) hown (mvT hZ (hw_ hw 182 rfl)) (mvT hZ (hw_ hw 183 rfl)) (mvT hZ (own_selp (y := (⟨"java/lang/AbstractStringBuilder", "inflateIfNeededFor", "(Ljava/lang/String;)V"⟩ : MethodName)) (hw_ hw 143 rfl) rfl (hw_ hw 184 rfl) (hw_ hw 183 rfl) (by decide))) (Cond.privateMethod_at (mvP hZ (hw_ hw 184 rfl) (args := #[]))) (mvT hZ (hw_ hw 186 rfl)) (by decide) (backOf (W := 0) (rmIn l Z a0 hw [] a su cz h0 n0 Z0 Fc Eu Uc Sc hcz) hZ (hw_ hw 186 rfl) (hw_ hw 116 rfl) (by decide) (by decide)) (g := (mkF m 2 #[.val (.ref a), .val (.int n), .val (.ref su)] [(.ref su), (.ref a)])) rfl (by rw [hml]; rfl) (Steps.refl _) (a := a) (by rw [e0]; exact q1) q1' (argsL := [(.ref su)]) (rest := []) (lenOf pd_8 rfl) rfl (by show 2 * 0 + _ ≤ _; exact Nat.le_of_eq rfl) (hb hby d32_2) (fun _ _ => ⟨rfl, e0, (by decide : 0 + 0 ≤ _), (by decide : 0 + 0 ≤ _)⟩)
  dsimp only [Pt.U, Pt.locs, Pt.cells, Pt.slots] at X1 l1 y1 z1 st1 hQ1
  subst l1 y1 z1
  obtain ⟨rfl, N1q, heq1⟩ := hQ1
  have N1 := Fr.app N0 N1q
  refine own_by (S' := T1.setTop (mkF m 5 #[.val (.ref a), .val (.int n), .val (.ref su)] [])) (fun tZ kZ => st1.trans kZ) ?_
  refine own_by (S' := T1.setTop (mkF m 6 #[.val (.ref a), .val (.int n), .val (.ref su)] [(.ref su)])) (fun tZ kZ => XS.aloadN X1.here hx rfl (hb hby d32_5) rfl rfl kZ) ?_
  refine own_by (S' := T1.setTop (mkF m 7 #[.val (.ref a), .val (.int n), .val (.ref su)] [(.ref a), (.ref su)])) (fun tZ kZ => XS.aloadN X1.here hx rfl (hb hby d32_6) rfl rfl kZ) ?_
  obtain ⟨T2, X2, e2, st2⟩ := getF X1 hx hZ hown (host := "") (Or.inl (hw_ hw 120 rfl)) Via.refl heq1 Fv (g := (mkF m 7 #[.val (.ref a), .val (.int n), .val (.ref su)] [(.ref a), (.ref su)])) rfl rfl (hb hby d32_7)
  refine own_by (S' := T2.setTop (mkF m 10 #[.val (.ref a), .val (.int n), .val (.ref su)] [(.ref v), (.ref su)])) st2 ?_
  refine own_by (S' := T2.setTop (mkF m 11 #[.val (.ref a), .val (.int n), .val (.ref su)] [(.int n), (.ref v), (.ref su)])) (fun tZ kZ => XS.iloadN X2.here hx rfl (hb hby d32_10) rfl kZ) ?_
  refine own_by (S' := T2.setTop (mkF m 12 #[.val (.ref a), .val (.int n), .val (.ref su)] [(.ref a), (.int n), (.ref v), (.ref su)])) (fun tZ kZ => XS.aloadN X2.here hx rfl (hb hby d32_11) rfl rfl kZ) ?_
  obtain ⟨T3, X3, e3, st3⟩ := getF X2 hx hZ hown (host := "") (Or.inl (hw_ hw 122 rfl)) Via.refl e2 Fc (g := (mkF m 12 #[.val (.ref a), .val (.int n), .val (.ref su)] [(.ref a), (.int n), (.ref v), (.ref su)])) rfl rfl (hb hby d32_12)
  refine own_by (S' := T3.setTop (mkF m 15 #[.val (.ref a), .val (.int n), .val (.ref su)] [(.int (0 : Int32)), (.int n), (.ref v), (.ref su)])) st3 ?_
  obtain ⟨cq4, kq4, q4a, q4b, q4c⟩ := isOf hZ e3 Eu
  obtain ⟨_, _, ⟨T4, L4, k4, n4⟩, -, X4, ⟨Lc4, hQ4, l4, y4, z4⟩, st4⟩ := X3.virtualBack hx (y := (⟨"java/lang/String", "getBytes", "([BIB)V"⟩ : MethodName)) (z := (⟨"java/lang/String", "getBytes", "([BIB)V"⟩ : MethodName)) hown (mvT hZ (hw_ hw 188 rfl)) (mvT hZ (hw_ hw 189 rfl)) (notFace_of_selects (args := #[]) (mvT hZ (hw_ hw 191 rfl))) (mvT hZ (hw_ hw 191 rfl)) (mvT hZ (hw_ hw 190 rfl)) (by decide) (backOf (W := 0) (rmGb l Z a0 hw [] su tu ku v kv n cz d vs h0 n0 Z0 Eu Uv Uc V_tu ntu V_v hl hfv hnd hd g_v Sc hcz) hZ (hw_ hw 192 rfl) (hw_ hw 61 rfl) (by decide) (by decide)) q4a q4c (g := (mkF m 15 #[.val (.ref a), .val (.int n), .val (.ref su)] [(.int (0 : Int32)), (.int n), (.ref v), (.ref su)])) rfl (by rw [hml]; rfl) (Steps.refl _) (argsL := [(.ref v), (.int n), (.int (0 : Int32))]) (rest := []) (lenOf pd_9 rfl) rfl (by show 2 * 0 + _ ≤ _; exact Nat.le_of_eq rfl) (hb hby d32_15) (fun _ _ => ⟨rfl, e3, (by decide : 0 + 0 ≤ _), (by decide : 0 + 0 ≤ _)⟩)
  dsimp only [Pt.U, Pt.locs, Pt.cells, Pt.slots] at X4 l4 y4 z4 st4 hQ4
  subst l4 y4 z4
  obtain ⟨rfl, N4q, Kc4, Ob4⟩ := hQ4
  have N4 := Fr.app N1 N4q
  have Zs4 := Nat.le_trans Z0 Kc4.1
  have K4 := (Keep.refl h0 [v]).trans Kc4 (fun x hx => by
      simp only [List.mem_cons, List.not_mem_nil, or_false] at hx
      rcases hx with rfl
      · exact Or.inl (List.mem_of_getElem? (i := 0) rfl))
  refine own_by (S' := T4.setTop (mkF m 18 #[.val (.ref a), .val (.int n), .val (.ref su)] [])) (fun tZ kZ => st4.trans kZ) ?_
  exact own_ret0 X4 hx Bd.returns (hb hby d32_18) Bd.notSynchronized (by decide) (by decide) ⟨rfl, N4, K4, Ob4⟩
theorem d29_0 : decode jdk_68_method_22_code 0 = .ok (.aload_n 1, 1) := by decide +kernel
theorem d29_1 : decode jdk_68_method_22_code 1 = .ok (.ifnonnull 8, 3) := by decide +kernel
theorem d29_4 : decode jdk_68_method_22_code 4 = .ok (.aload_n 0, 1) := by decide +kernel
theorem d29_5 : decode jdk_68_method_22_code 5 = .ok (.invokevirtual 204, 3) := by decide +kernel
theorem d29_8 : decode jdk_68_method_22_code 8 = .ok (.areturn, 1) := by decide +kernel
theorem d29_9 : decode jdk_68_method_22_code 9 = .ok (.aload_n 1, 1) := by decide +kernel
theorem d29_10 : decode jdk_68_method_22_code 10 = .ok (.invokevirtual 32, 3) := by decide +kernel
theorem d29_13 : decode jdk_68_method_22_code 13 = .ok (.istore_n 2, 1) := by decide +kernel
theorem d29_14 : decode jdk_68_method_22_code 14 = .ok (.aload_n 0, 1) := by decide +kernel
theorem d29_15 : decode jdk_68_method_22_code 15 = .ok (.aload_n 0, 1) := by decide +kernel
theorem d29_16 : decode jdk_68_method_22_code 16 = .ok (.getfield 79, 3) := by decide +kernel
theorem d29_19 : decode jdk_68_method_22_code 19 = .ok (.iload_n 2, 1) := by decide +kernel
theorem d29_20 : decode jdk_68_method_22_code 20 = .ok (.iadd, 1) := by decide +kernel
theorem d29_21 : decode jdk_68_method_22_code 21 = .ok (.invokevirtual 100, 3) := by decide +kernel
theorem d29_24 : decode jdk_68_method_22_code 24 = .ok (.aload_n 0, 1) := by decide +kernel
theorem d29_25 : decode jdk_68_method_22_code 25 = .ok (.aload_n 0, 1) := by decide +kernel
theorem d29_26 : decode jdk_68_method_22_code 26 = .ok (.getfield 79, 3) := by decide +kernel
theorem d29_29 : decode jdk_68_method_22_code 29 = .ok (.aload_n 1, 1) := by decide +kernel
theorem d29_30 : decode jdk_68_method_22_code 30 = .ok (.invokevirtual 208, 3) := by decide +kernel
theorem d29_33 : decode jdk_68_method_22_code 33 = .ok (.aload_n 0, 1) := by decide +kernel
theorem d29_34 : decode jdk_68_method_22_code 34 = .ok (.dup, 1) := by decide +kernel
theorem d29_35 : decode jdk_68_method_22_code 35 = .ok (.getfield 79, 3) := by decide +kernel
theorem d29_38 : decode jdk_68_method_22_code 38 = .ok (.iload_n 2, 1) := by decide +kernel
theorem d29_39 : decode jdk_68_method_22_code 39 = .ok (.iadd, 1) := by decide +kernel
theorem d29_40 : decode jdk_68_method_22_code 40 = .ok (.putfield 79, 3) := by decide +kernel
theorem d29_43 : decode jdk_68_method_22_code 43 = .ok (.aload_n 0, 1) := by decide +kernel
theorem d29_44 : decode jdk_68_method_22_code 44 = .ok (.areturn, 1) := by decide +kernel
theorem ef_rmAs (m : MethodId) (a : Addr) (su : Addr) : entryFrame m #[(.ref a), (.ref su)] 3 = mkF m 0 #[.val (.ref a), .val (.ref su), .unset] [] := by first | (simp [entryFrame, mkF, argsToLocals, Value.category, maxLocals]; done) | rfl
set_option maxRecDepth 65536 in
set_option maxHeartbeats 40000000 in
theorem rmAs (l : Launch) (Z : State) (a0 : Array Value) (hw : ∀ d ∈ tables_1, d.before a0 Z = true) (ws : List Jvm.Cond) (a v : Addr) (kv : ClassId) (n cz : Int32) (d : Nat) (su tu : Addr) (ku : ClassId) (h0 : Heap) (n0 : Nat) (Z0 : n0 ≤ h0.size) (OS : OwnS Z h0 a v kv n d) (hd : d ≤ 10) (g_a : n0 ≤ a) (g_v : n0 ≤ v) (Eu : Exa Z h0 su "java/lang/String") (Uv : Fld Z h0 su "java/lang/String" "value" "[B" (.ref tu)) (Uc : Fld Z h0 su "java/lang/String" "coder" "B" (.int 0)) (V_tu : OwnA Z h0 tu ku .byte [.int 32, .int 115]) (ntu : tu ≠ v) (Sc : Sta Z h0 "java/lang/String" "COMPACT_STRINGS" "Z" (.int cz)) (hcz : ¬ cz = 0) :
    MetFree l (⟨"java/lang/AbstractStringBuilder", "append", "(Ljava/lang/String;)Ljava/lang/AbstractStringBuilder;"⟩ : MethodName) (head1 (Jvm.Cond.code (⟨"java/lang/AbstractStringBuilder", "append", "(Ljava/lang/String;)Ljava/lang/AbstractStringBuilder;"⟩ : MethodName) jdk_68_method_22_code (3 : Nat) (Option.some (Jvm.ClassFile.FieldType.object "java/lang/AbstractStringBuilder")) :: ws) ({ frames := 3, cells := 0, slots := 0, locals := 69 } : Room)) (fun aZ UZ => aZ = #[(.ref a), (.ref su)] ∧ Z.Warmed39 UZ.vm ∧ UZ.heap = h0) (fun _ _ _ _ _ => True) (fun _ UZ oZ VZ => ∃ vZ LZ, oZ = .returned vZ ∧ (QS2 Z a v kv h0 n0) vZ VZ.heap LZ ∧ FrameEnd UZ oZ VZ LZ ({ frames := 3, cells := 0, slots := 0, locals := 69 } : Room).cells ({ frames := 3, cells := 0, slots := 0, locals := 69 } : Room).slots) := by
  refine MetFree.of_bodySF (plainFor_of_name pn_6) hisR ?_
  intro p e s m args below meth c s₁ Bd hml0 hP hK
  obtain ⟨rfl, hZ, hh⟩ := hP
  have hx := Bd.exec
  have hby := Bd.bytes
  have hml : c.maxLocals = 3 := hml0
  have hown : s.vm.findClass "java/lang/AbstractStringBuilder" = some m.cls := findClass_of_methodNamed Bd.named
  have hnm := (name_of_methodNamed Bd.named Bd.method).1
  have X0 : Stand p l e ({ frames := 3, cells := 0, slots := 0, locals := 69 } : Room) s m #[(.ref a), (.ref su)] below meth c s₁ [] 0 0 := Stand.of_body Bd
  have e0 : s₁.heap = h0 := by rw [← hh, Bd.state]; rfl
  have N0 := Fr.nil n0
  show OwnG p e below (OwnE s (QS2 Z a v kv h0 n0) ({ frames := 3, cells := 0, slots := 0, locals := 69 } : Room).cells ({ frames := 3, cells := 0, slots := 0, locals := 69 } : Room).slots) _
  refine own_by (S' := s₁.setTop (mkF m 0 #[.val (.ref a), .val (.ref su), .unset] [])) (fun tZ kZ => castTop (ef_rmAs m a su) kZ) ?_
  obtain ⟨hnd, vs, B, hl, hfv⟩ := id OS
  obtain ⟨cu, Au, hcu, hlu⟩ := id V_tu
  obtain ⟨Ea, Fv, Fc, Fn, V_v, Ev⟩ := id B
  have ne_a_v : a ≠ v := B.ne (hw_ hw 107 rfl)
  refine own_by (S' := s₁.setTop (mkF m 1 #[.val (.ref a), .val (.ref su), .unset] [(.ref su)])) (fun tZ kZ => XS.aloadN X0.here hx rfl (hb hby d29_0) rfl rfl kZ) ?_
  refine own_by (S' := s₁.setTop (mkF m 9 #[.val (.ref a), .val (.ref su), .unset] [])) (fun tZ kZ => Jvm.Free.XT.ifnonnullYes X0.here hx rfl (pc0 := 1) (pc' := 9) rfl (hb hby d29_1) rfl (by decide) (by decide) kZ) ?_
  refine own_by (S' := s₁.setTop (mkF m 10 #[.val (.ref a), .val (.ref su), .unset] [(.ref su)])) (fun tZ kZ => XS.aloadN X0.here hx rfl (hb hby d29_9) rfl rfl kZ) ?_
  obtain ⟨cq1, kq1, q1a, q1b, q1c⟩ := isOf hZ e0 Eu
  obtain ⟨_, _, ⟨T1, L1, k1, n1⟩, -, X1, ⟨Lc1, hQ1, l1, y1, z1⟩, st1⟩ := X0.virtualBack hx (y := (⟨"java/lang/String", "length", "()I"⟩ : MethodName)) (z := (⟨"java/lang/String", "length", "()I"⟩ : MethodName)) hown (mvT hZ (hw_ hw 164 rfl)) (mvT hZ (hw_ hw 165 rfl)) (notFace_of_selects (args := #[]) (mvT hZ (hw_ hw 167 rfl))) (mvT hZ (hw_ hw 167 rfl)) (mvT hZ (hw_ hw 166 rfl)) (by decide) (backOf (W := 0) (rmLen l Z a0 hw [] su tu (2 : Int32) cz cu h0 n0 Z0 Eu Uv Uc Au (OwnA.size hlu rfl) (by decide) Sc hcz) hZ (hw_ hw 168 rfl) (hw_ hw 61 rfl) (by decide) (by decide)) q1a q1c (g := (mkF m 10 #[.val (.ref a), .val (.ref su), .unset] [(.ref su)])) rfl (by rw [hml]; rfl) (Steps.refl _) (argsL := []) (rest := []) (lenOf pd_10 rfl) rfl (by show 2 * 0 + _ ≤ _; exact Nat.le_of_eq rfl) (hb hby d29_10) (fun _ _ => ⟨rfl, e0, (by decide : 0 + 0 ≤ _), (by decide : 0 + 0 ≤ _)⟩)
  dsimp only [Pt.U, Pt.locs, Pt.cells, Pt.slots] at X1 l1 y1 z1 st1 hQ1
  subst l1 y1 z1
  obtain ⟨rfl, N1q, heq1⟩ := hQ1
  have N1 := Fr.app N0 N1q
  refine own_by (S' := T1.setTop (mkF m 13 #[.val (.ref a), .val (.ref su), .unset] [(.int (2 : Int32))])) (fun tZ kZ => st1.trans kZ) ?_
  refine own_by (S' := T1.setTop (mkF m 14 #[.val (.ref a), .val (.ref su), .val (.int (2 : Int32))] [])) (fun tZ kZ => XS.istoreN X1.here hx rfl (hb hby d29_13) rfl (l' := #[.val (.ref a), .val (.ref su), .val (.int (2 : Int32))]) rfl kZ) ?_
  refine own_by (S' := T1.setTop (mkF m 15 #[.val (.ref a), .val (.ref su), .val (.int (2 : Int32))] [(.ref a)])) (fun tZ kZ => XS.aloadN X1.here hx rfl (hb hby d29_14) rfl rfl kZ) ?_
  refine own_by (S' := T1.setTop (mkF m 16 #[.val (.ref a), .val (.ref su), .val (.int (2 : Int32))] [(.ref a), (.ref a)])) (fun tZ kZ => XS.aloadN X1.here hx rfl (hb hby d29_15) rfl rfl kZ) ?_
  obtain ⟨T2, X2, e2, st2⟩ := getF X1 hx hZ hown (host := "") (Or.inl (hw_ hw 134 rfl)) Via.refl heq1 Fn (g := (mkF m 16 #[.val (.ref a), .val (.ref su), .val (.int (2 : Int32))] [(.ref a), (.ref a)])) rfl rfl (hb hby d29_16)
  refine own_by (S' := T2.setTop (mkF m 19 #[.val (.ref a), .val (.ref su), .val (.int (2 : Int32))] [(.int n), (.ref a)])) st2 ?_
  refine own_by (S' := T2.setTop (mkF m 20 #[.val (.ref a), .val (.ref su), .val (.int (2 : Int32))] [(.int (2 : Int32)), (.int n), (.ref a)])) (fun tZ kZ => XS.iloadN X2.here hx rfl (hb hby d29_19) rfl kZ) ?_
  refine own_by (S' := T2.setTop (mkF m 21 #[.val (.ref a), .val (.ref su), .val (.int (2 : Int32))] [(.int (n + (2 : Int32))), (.ref a)])) (fun tZ kZ => XS.iadd X2.here hx rfl (hb hby d29_20) rfl kZ) ?_
  obtain ⟨cq3, q3, q3'⟩ := Ea.cell
  obtain ⟨_, _, ⟨T3, L3, k3, n3⟩, -, X3, ⟨Lc3, hQ3, l3, y3, z3⟩, st3⟩ := X2.privateBack hx (y := (⟨"java/lang/AbstractStringBuilder", "ensureCapacityInternal", "(I)V"⟩ : MethodName)) hown (mvT hZ (hw_ hw 140 rfl)) (mvT hZ (hw_ hw 141 rfl)) (mvT hZ (own_selp (y := (⟨"java/lang/AbstractStringBuilder", "ensureCapacityInternal", "(I)V"⟩ : MethodName)) (hw_ hw 143 rfl) rfl (hw_ hw 142 rfl) (hw_ hw 141 rfl) (by decide))) (Cond.privateMethod_at (mvP hZ (hw_ hw 142 rfl) (args := #[]))) (mvT hZ (hw_ hw 144 rfl)) (by decide) (backOf (W := 0) (rmEC l Z a0 hw [] a v kv vs n (n + (2 : Int32)) (16 : Int32) h0 n0 Z0 B hl (by decide) (own_cap (own_add2 hnd (by omega)) (by omega))) hZ (hw_ hw 144 rfl) (hw_ hw 116 rfl) (by decide) (by decide)) (g := (mkF m 21 #[.val (.ref a), .val (.ref su), .val (.int (2 : Int32))] [(.int (n + (2 : Int32))), (.ref a)])) rfl (by rw [hml]; rfl) (Steps.refl _) (a := a) (by rw [e2]; exact q3) q3' (argsL := [(.int (n + (2 : Int32)))]) (rest := []) (lenOf pd_0 rfl) rfl (by show 2 * 0 + _ ≤ _; exact Nat.le_of_eq rfl) (hb hby d29_21) (fun _ _ => ⟨rfl, e2, (by decide : 0 + 0 ≤ _), (by decide : 0 + 0 ≤ _)⟩)
  dsimp only [Pt.U, Pt.locs, Pt.cells, Pt.slots] at X3 l3 y3 z3 st3 hQ3
  subst l3 y3 z3
  obtain ⟨rfl, N3q, heq3⟩ := hQ3
  have N3 := Fr.app N1 N3q
  refine own_by (S' := T3.setTop (mkF m 24 #[.val (.ref a), .val (.ref su), .val (.int (2 : Int32))] [])) (fun tZ kZ => st3.trans kZ) ?_
  refine own_by (S' := T3.setTop (mkF m 25 #[.val (.ref a), .val (.ref su), .val (.int (2 : Int32))] [(.ref a)])) (fun tZ kZ => XS.aloadN X3.here hx rfl (hb hby d29_24) rfl rfl kZ) ?_
  refine own_by (S' := T3.setTop (mkF m 26 #[.val (.ref a), .val (.ref su), .val (.int (2 : Int32))] [(.ref a), (.ref a)])) (fun tZ kZ => XS.aloadN X3.here hx rfl (hb hby d29_25) rfl rfl kZ) ?_
  obtain ⟨T4, X4, e4, st4⟩ := getF X3 hx hZ hown (host := "") (Or.inl (hw_ hw 134 rfl)) Via.refl heq3 Fn (g := (mkF m 26 #[.val (.ref a), .val (.ref su), .val (.int (2 : Int32))] [(.ref a), (.ref a)])) rfl rfl (hb hby d29_26)
  refine own_by (S' := T4.setTop (mkF m 29 #[.val (.ref a), .val (.ref su), .val (.int (2 : Int32))] [(.int n), (.ref a)])) st4 ?_
  refine own_by (S' := T4.setTop (mkF m 30 #[.val (.ref a), .val (.ref su), .val (.int (2 : Int32))] [(.ref su), (.int n), (.ref a)])) (fun tZ kZ => XS.aloadN X4.here hx rfl (hb hby d29_29) rfl rfl kZ) ?_
  obtain ⟨cq5, q5, q5'⟩ := Ea.cell
  obtain ⟨_, _, ⟨T5, L5, k5, n5⟩, -, X5, ⟨Lc5, hQ5, l5, y5, z5⟩, st5⟩ := X4.privateBack hx (y := (⟨"java/lang/AbstractStringBuilder", "putStringAt", "(ILjava/lang/String;)V"⟩ : MethodName)) hown (mvT hZ (hw_ hw 177 rfl)) (mvT hZ (hw_ hw 178 rfl)) (mvT hZ (own_selp (y := (⟨"java/lang/AbstractStringBuilder", "putStringAt", "(ILjava/lang/String;)V"⟩ : MethodName)) (hw_ hw 143 rfl) rfl (hw_ hw 179 rfl) (hw_ hw 178 rfl) (by decide))) (Cond.privateMethod_at (mvP hZ (hw_ hw 179 rfl) (args := #[]))) (mvT hZ (hw_ hw 181 rfl)) (by decide) (backOf (W := 0) (rmPs l Z a0 hw [] a v kv n cz d su tu ku h0 n0 Z0 OS hd g_a g_v Eu Uv Uc V_tu ntu Sc hcz) hZ (hw_ hw 181 rfl) (hw_ hw 116 rfl) (by decide) (by decide)) (g := (mkF m 30 #[.val (.ref a), .val (.ref su), .val (.int (2 : Int32))] [(.ref su), (.int n), (.ref a)])) rfl (by rw [hml]; rfl) (Steps.refl _) (a := a) (by rw [e4]; exact q5) q5' (argsL := [(.int n), (.ref su)]) (rest := []) (lenOf pd_11 rfl) rfl (by show 2 * 0 + _ ≤ _; exact Nat.le_of_eq rfl) (hb hby d29_30) (fun _ _ => ⟨rfl, e4, (by decide : 0 + 0 ≤ _), (by decide : 0 + 0 ≤ _)⟩)
  dsimp only [Pt.U, Pt.locs, Pt.cells, Pt.slots] at X5 l5 y5 z5 st5 hQ5
  subst l5 y5 z5
  obtain ⟨rfl, N5q, Kc5, vs2, V2, hl2, hf2⟩ := hQ5
  have N5 := Fr.app N3 N5q
  have Zs5 := Nat.le_trans Z0 Kc5.1
  have K5 := (Keep.refl h0 [a, v]).trans Kc5 (fun x hx => by
      simp only [List.mem_cons, List.not_mem_nil, or_false] at hx
      rcases hx with rfl
      · exact Or.inl (List.mem_of_getElem? (i := 1) rfl))
  have Ea_5 := Ea.keep Kc5
  have Fv_5 := Fv.keep Kc5 (by
      simp only [List.mem_cons, List.not_mem_nil, or_false, not_or]
      exact ne_a_v)
  have Fc_5 := Fc.keep Kc5 (by
      simp only [List.mem_cons, List.not_mem_nil, or_false, not_or]
      exact ne_a_v)
  have Fn_5 := Fn.keep Kc5 (by
      simp only [List.mem_cons, List.not_mem_nil, or_false, not_or]
      exact ne_a_v)
  have Ev_5 := Ev.keep Kc5
  refine own_by (S' := T5.setTop (mkF m 33 #[.val (.ref a), .val (.ref su), .val (.int (2 : Int32))] [])) (fun tZ kZ => st5.trans kZ) ?_
  have V_v2 := V2
  refine own_by (S' := T5.setTop (mkF m 34 #[.val (.ref a), .val (.ref su), .val (.int (2 : Int32))] [(.ref a)])) (fun tZ kZ => XS.aloadN X5.here hx rfl (hb hby d29_33) rfl rfl kZ) ?_
  refine own_by (S' := T5.setTop (mkF m 35 #[.val (.ref a), .val (.ref su), .val (.int (2 : Int32))] [(.ref a), (.ref a)])) (fun tZ kZ => XS.dup X5.here hx rfl (hb hby d29_34) rfl rfl kZ) ?_
  obtain ⟨T6, X6, e6, st6⟩ := getF X5 hx hZ hown (host := "") (Or.inl (hw_ hw 134 rfl)) Via.refl rfl Fn_5 (g := (mkF m 35 #[.val (.ref a), .val (.ref su), .val (.int (2 : Int32))] [(.ref a), (.ref a)])) rfl rfl (hb hby d29_35)
  refine own_by (S' := T6.setTop (mkF m 38 #[.val (.ref a), .val (.ref su), .val (.int (2 : Int32))] [(.int n), (.ref a)])) st6 ?_
  refine own_by (S' := T6.setTop (mkF m 39 #[.val (.ref a), .val (.ref su), .val (.int (2 : Int32))] [(.int (2 : Int32)), (.int n), (.ref a)])) (fun tZ kZ => XS.iloadN X6.here hx rfl (hb hby d29_38) rfl kZ) ?_
  refine own_by (S' := T6.setTop (mkF m 40 #[.val (.ref a), .val (.ref su), .val (.int (2 : Int32))] [(.int (n + (2 : Int32))), (.ref a)])) (fun tZ kZ => XS.iadd X6.here hx rfl (hb hby d29_39) rfl kZ) ?_
  obtain ⟨T7, h7, X7, e7, W7, st7⟩ := putF X6 hx hZ hown (host := "") (Or.inl (hw_ hw 134 rfl)) Via.refl e6 Fn_5 Ea_5 (Or.inl (hw_ hw 135 rfl)) (hw_ hw 107 rfl) (ty := .int) (by decide) rfl rfl (g := (mkF m 40 #[.val (.ref a), .val (.ref su), .val (.int (2 : Int32))] [(.int (n + (2 : Int32))), (.ref a)])) rfl rfl (hb hby d29_40)
  have N7 := Fr.snoc X7 N5 g_a
  have Ea_7 := Ea_5.wr W7
  have Fv_7 := Fv_5.other W7 (Or.inr (slot_ne (Or.inl (hw_ hw 121 rfl)) (Or.inl (hw_ hw 135 rfl)) (by decide) (t := (.array .byte)) (t' := .int) (by decide) (by decide)))
  have Fc_7 := Fc_5.other W7 (Or.inr (slot_ne (Or.inl (hw_ hw 123 rfl)) (Or.inl (hw_ hw 135 rfl)) (by decide) (t := .byte) (t' := .int) (by decide) (by decide)))
  have Fn_7 := Fn_5.same W7
  have Ev_7 := Ev_5.wr W7
  have V_v2_7 := V_v2.other W7 (Ne.symm ne_a_v)
  have Zs7 : n0 ≤ h7.size := Nat.le_trans Zs5 (Keep.of_wr W7).1
  have K7 := K5.wr W7 (Or.inl (List.mem_of_getElem? (i := 0) rfl))
  refine own_by (S' := T7.setTop (mkF m 43 #[.val (.ref a), .val (.ref su), .val (.int (2 : Int32))] [])) st7 ?_
  refine own_by (S' := T7.setTop (mkF m 44 #[.val (.ref a), .val (.ref su), .val (.int (2 : Int32))] [(.ref a)])) (fun tZ kZ => XS.aloadN X7.here hx rfl (hb hby d29_43) rfl rfl kZ) ?_
  exact own_retA X7 hx Bd.returns rfl rfl (hb hby d29_44) Bd.notSynchronized (by decide) (by decide) (show QS2 Z a v kv h0 n0 _ T7.heap _ from by rw [e7]; exact ⟨rfl, N7, K7, _, d + 2, by omega, own_add2 hnd (by omega), vs2, ⟨Ea_7, Fv_7, Fc_7, Fn_7, V_v2_7, Ev_7⟩, hl2, hf2⟩)
theorem d28_0 : decode jdk_67_method_7_code 0 = .ok (.aload_n 0, 1) := by decide +kernel
theorem d28_1 : decode jdk_67_method_7_code 1 = .ok (.aload_n 1, 1) := by decide +kernel
theorem d28_2 : decode jdk_67_method_7_code 2 = .ok (.invokespecial 29, 3) := by decide +kernel
theorem d28_5 : decode jdk_67_method_7_code 5 = .ok (.pop, 1) := by decide +kernel
theorem d28_6 : decode jdk_67_method_7_code 6 = .ok (.aload_n 0, 1) := by decide +kernel
theorem d28_7 : decode jdk_67_method_7_code 7 = .ok (.areturn, 1) := by decide +kernel
theorem ef_rmSAs (m : MethodId) (a : Addr) (su : Addr) : entryFrame m #[(.ref a), (.ref su)] 2 = mkF m 0 #[.val (.ref a), .val (.ref su)] [] := by first | (simp [entryFrame, mkF, argsToLocals, Value.category, maxLocals]; done) | rfl
set_option maxRecDepth 65536 in
set_option maxHeartbeats 40000000 in
theorem rmSAs (l : Launch) (Z : State) (a0 : Array Value) (hw : ∀ d ∈ tables_1, d.before a0 Z = true) (ws : List Jvm.Cond) (a v : Addr) (kv : ClassId) (n cz : Int32) (d : Nat) (su tu : Addr) (ku : ClassId) (h0 : Heap) (n0 : Nat) (Z0 : n0 ≤ h0.size) (OS : OwnS Z h0 a v kv n d) (hd : d ≤ 10) (g_a : n0 ≤ a) (g_v : n0 ≤ v) (Eu : Exa Z h0 su "java/lang/String") (Uv : Fld Z h0 su "java/lang/String" "value" "[B" (.ref tu)) (Uc : Fld Z h0 su "java/lang/String" "coder" "B" (.int 0)) (V_tu : OwnA Z h0 tu ku .byte [.int 32, .int 115]) (ntu : tu ≠ v) (Sc : Sta Z h0 "java/lang/String" "COMPACT_STRINGS" "Z" (.int cz)) (hcz : ¬ cz = 0) :
    MetFree l (⟨"java/lang/StringBuilder", "append", "(Ljava/lang/String;)Ljava/lang/StringBuilder;"⟩ : MethodName) (head1 (Jvm.Cond.code (⟨"java/lang/StringBuilder", "append", "(Ljava/lang/String;)Ljava/lang/StringBuilder;"⟩ : MethodName) jdk_67_method_7_code (2 : Nat) (Option.some (Jvm.ClassFile.FieldType.object "java/lang/StringBuilder")) :: ws) ({ frames := 4, cells := 0, slots := 0, locals := 83 } : Room)) (fun aZ UZ => aZ = #[(.ref a), (.ref su)] ∧ Z.Warmed39 UZ.vm ∧ UZ.heap = h0) (fun _ _ _ _ _ => True) (fun _ UZ oZ VZ => ∃ vZ LZ, oZ = .returned vZ ∧ (QS2 Z a v kv h0 n0) vZ VZ.heap LZ ∧ FrameEnd UZ oZ VZ LZ ({ frames := 4, cells := 0, slots := 0, locals := 83 } : Room).cells ({ frames := 4, cells := 0, slots := 0, locals := 83 } : Room).slots) := by
  refine MetFree.of_bodySF (plainFor_of_name pn_8) hisR ?_
  intro p e s m args below meth c s₁ Bd hml0 hP hK
  obtain ⟨rfl, hZ, hh⟩ := hP
  have hx := Bd.exec
  have hby := Bd.bytes
  have hml : c.maxLocals = 2 := hml0
  have hown : s.vm.findClass "java/lang/StringBuilder" = some m.cls := findClass_of_methodNamed Bd.named
  have hnm := (name_of_methodNamed Bd.named Bd.method).1
  have X0 : Stand p l e ({ frames := 4, cells := 0, slots := 0, locals := 83 } : Room) s m #[(.ref a), (.ref su)] below meth c s₁ [] 0 0 := Stand.of_body Bd
  have e0 : s₁.heap = h0 := by rw [← hh, Bd.state]; rfl
  have N0 := Fr.nil n0
  show OwnG p e below (OwnE s (QS2 Z a v kv h0 n0) ({ frames := 4, cells := 0, slots := 0, locals := 83 } : Room).cells ({ frames := 4, cells := 0, slots := 0, locals := 83 } : Room).slots) _
  refine own_by (S' := s₁.setTop (mkF m 0 #[.val (.ref a), .val (.ref su)] [])) (fun tZ kZ => castTop (ef_rmSAs m a su) kZ) ?_
  obtain ⟨-, vs, B, -⟩ := id OS
  refine own_by (S' := s₁.setTop (mkF m 1 #[.val (.ref a), .val (.ref su)] [(.ref a)])) (fun tZ kZ => XS.aloadN X0.here hx rfl (hb hby d28_0) rfl rfl kZ) ?_
  refine own_by (S' := s₁.setTop (mkF m 2 #[.val (.ref a), .val (.ref su)] [(.ref su), (.ref a)])) (fun tZ kZ => XS.aloadN X0.here hx rfl (hb hby d28_1) rfl rfl kZ) ?_
  obtain ⟨_, _, ⟨T1, L1, k1, n1⟩, -, X1, ⟨Lc1, hQ1, l1, y1, z1⟩, st1⟩ := superBack X0 hx hZ (y := (⟨"java/lang/AbstractStringBuilder", "append", "(Ljava/lang/String;)Ljava/lang/AbstractStringBuilder;"⟩ : MethodName)) hown (hw_ hw 160 rfl) (own_same (y := (⟨"java/lang/AbstractStringBuilder", "append", "(Ljava/lang/String;)Ljava/lang/AbstractStringBuilder;"⟩ : MethodName)) (hw_ hw 162 rfl) (hw_ hw 143 rfl) rfl (by decide)) (hw_ hw 161 rfl) (hw_ hw 131 rfl) (by decide) (backOf (W := 0) (rmAs l Z a0 hw [] a v kv n cz d su tu ku h0 n0 Z0 OS hd g_a g_v Eu Uv Uc V_tu ntu Sc hcz) hZ (hw_ hw 163 rfl) (hw_ hw 116 rfl) (by decide) (by decide)) e0 (Ins.self B.1) (g := (mkF m 2 #[.val (.ref a), .val (.ref su)] [(.ref su), (.ref a)])) rfl (by rw [hml]; rfl) (hw_ hw 163 rfl) (argsL := [(.ref su)]) (rest := []) (lenOf pd_12 rfl) rfl (by show 2 * 0 + _ ≤ _; exact Nat.le_of_eq rfl) (hb hby d28_2) (fun _ _ => ⟨rfl, e0, (by decide : 0 + 0 ≤ _), (by decide : 0 + 0 ≤ _)⟩)
  dsimp only [Pt.U, Pt.locs, Pt.cells, Pt.slots] at X1 l1 y1 z1 st1 hQ1
  subst l1 y1 z1
  obtain ⟨rfl, N1q, R1⟩ := hQ1
  have N1 := Fr.app N0 N1q
  refine own_by (S' := T1.setTop (mkF m 5 #[.val (.ref a), .val (.ref su)] [(.ref a)])) (fun tZ kZ => st1.trans kZ) ?_
  refine own_by (S' := T1.setTop (mkF m 6 #[.val (.ref a), .val (.ref su)] [])) (fun tZ kZ => XS.pop X1.here hx rfl (hb hby d28_5) rfl rfl kZ) ?_
  refine own_by (S' := T1.setTop (mkF m 7 #[.val (.ref a), .val (.ref su)] [(.ref a)])) (fun tZ kZ => XS.aloadN X1.here hx rfl (hb hby d28_6) rfl rfl kZ) ?_
  exact own_retA X1 hx Bd.returns rfl rfl (hb hby d28_7) Bd.notSynchronized (by decide) (by decide) ⟨rfl, N1, R1⟩
theorem d38_0 : decode jdk_68_method_64_code 0 = .ok (.aload_n 0, 1) := by decide +kernel
theorem d38_1 : decode jdk_68_method_64_code 1 = .ok (.getfield 15, 3) := by decide +kernel
theorem d38_4 : decode jdk_68_method_64_code 4 = .ok (.areturn, 1) := by decide +kernel
theorem ef_rmGV (m : MethodId) (a : Addr) : entryFrame m #[(.ref a)] 1 = mkF m 0 #[.val (.ref a)] [] := by first | (simp [entryFrame, mkF, argsToLocals, Value.category, maxLocals]; done) | rfl
set_option maxRecDepth 65536 in
set_option maxHeartbeats 40000000 in
theorem rmGV (l : Launch) (Z : State) (a0 : Array Value) (hw : ∀ d ∈ tables_1, d.before a0 Z = true) (ws : List Jvm.Cond) (a v : Addr) (kv : ClassId) (n : Int32) (vs : List Value) (h0 : Heap) (n0 : Nat) (Z0 : n0 ≤ h0.size) (B : OwnSB Z h0 a v kv vs n) :
    MetFree l (⟨"java/lang/AbstractStringBuilder", "getValue", "()[B"⟩ : MethodName) (head1 (Jvm.Cond.code (⟨"java/lang/AbstractStringBuilder", "getValue", "()[B"⟩ : MethodName) jdk_68_method_64_code (1 : Nat) (Option.some (Jvm.ClassFile.FieldType.array Jvm.ClassFile.FieldType.byte)) :: ws) ({ frames := 0, cells := 0, slots := 0, locals := 0 } : Room)) (fun aZ UZ => aZ = #[(.ref a)] ∧ Z.Warmed39 UZ.vm ∧ UZ.heap = h0) (fun _ _ _ _ _ => True) (fun _ UZ oZ VZ => ∃ vZ LZ, oZ = .returned vZ ∧ (QSame (some (.ref v)) h0 n0) vZ VZ.heap LZ ∧ FrameEnd UZ oZ VZ LZ ({ frames := 0, cells := 0, slots := 0, locals := 0 } : Room).cells ({ frames := 0, cells := 0, slots := 0, locals := 0 } : Room).slots) := by
  refine MetFree.of_bodySF (plainFor_of_name pn_6) hisR ?_
  intro p e s m args below meth c s₁ Bd hml0 hP hK
  obtain ⟨rfl, hZ, hh⟩ := hP
  have hx := Bd.exec
  have hby := Bd.bytes
  have hml : c.maxLocals = 1 := hml0
  have hown : s.vm.findClass "java/lang/AbstractStringBuilder" = some m.cls := findClass_of_methodNamed Bd.named
  have hnm := (name_of_methodNamed Bd.named Bd.method).1
  have X0 : Stand p l e ({ frames := 0, cells := 0, slots := 0, locals := 0 } : Room) s m #[(.ref a)] below meth c s₁ [] 0 0 := Stand.of_body Bd
  have e0 : s₁.heap = h0 := by rw [← hh, Bd.state]; rfl
  have N0 := Fr.nil n0
  show OwnG p e below (OwnE s (QSame (some (.ref v)) h0 n0) ({ frames := 0, cells := 0, slots := 0, locals := 0 } : Room).cells ({ frames := 0, cells := 0, slots := 0, locals := 0 } : Room).slots) _
  refine own_by (S' := s₁.setTop (mkF m 0 #[.val (.ref a)] [])) (fun tZ kZ => castTop (ef_rmGV m a) kZ) ?_
  refine own_by (S' := s₁.setTop (mkF m 1 #[.val (.ref a)] [(.ref a)])) (fun tZ kZ => XS.aloadN X0.here hx rfl (hb hby d38_0) rfl rfl kZ) ?_
  obtain ⟨T1, X1, e1, st1⟩ := getF X0 hx hZ hown (host := "") (Or.inl (hw_ hw 120 rfl)) Via.refl e0 B.2.1 (g := (mkF m 1 #[.val (.ref a)] [(.ref a)])) rfl rfl (hb hby d38_1)
  refine own_by (S' := T1.setTop (mkF m 4 #[.val (.ref a)] [(.ref v)])) st1 ?_
  exact own_retA X1 hx Bd.returns rfl rfl (hb hby d38_4) Bd.notSynchronized (by decide) (by decide) ⟨rfl, N0, e1⟩
theorem d40_0 : decode jdk_68_method_6_code 0 = .ok (.aload_n 0, 1) := by decide +kernel
theorem d40_1 : decode jdk_68_method_6_code 1 = .ok (.getfield 79, 3) := by decide +kernel
theorem d40_4 : decode jdk_68_method_6_code 4 = .ok (.ireturn, 1) := by decide +kernel
theorem ef_rmAN (m : MethodId) (a : Addr) : entryFrame m #[(.ref a)] 1 = mkF m 0 #[.val (.ref a)] [] := by first | (simp [entryFrame, mkF, argsToLocals, Value.category, maxLocals]; done) | rfl
set_option maxRecDepth 65536 in
set_option maxHeartbeats 40000000 in
theorem rmAN (l : Launch) (Z : State) (a0 : Array Value) (hw : ∀ d ∈ tables_1, d.before a0 Z = true) (ws : List Jvm.Cond) (a v : Addr) (kv : ClassId) (n : Int32) (vs : List Value) (h0 : Heap) (n0 : Nat) (Z0 : n0 ≤ h0.size) (B : OwnSB Z h0 a v kv vs n) :
    MetFree l (⟨"java/lang/AbstractStringBuilder", "length", "()I"⟩ : MethodName) (head1 (Jvm.Cond.code (⟨"java/lang/AbstractStringBuilder", "length", "()I"⟩ : MethodName) jdk_68_method_6_code (1 : Nat) (Option.some Jvm.ClassFile.FieldType.int) :: ws) ({ frames := 0, cells := 0, slots := 0, locals := 0 } : Room)) (fun aZ UZ => aZ = #[(.ref a)] ∧ Z.Warmed39 UZ.vm ∧ UZ.heap = h0) (fun _ _ _ _ _ => True) (fun _ UZ oZ VZ => ∃ vZ LZ, oZ = .returned vZ ∧ (QSame (some (.int n)) h0 n0) vZ VZ.heap LZ ∧ FrameEnd UZ oZ VZ LZ ({ frames := 0, cells := 0, slots := 0, locals := 0 } : Room).cells ({ frames := 0, cells := 0, slots := 0, locals := 0 } : Room).slots) := by
  refine MetFree.of_bodySF (plainFor_of_name pn_6) hisR ?_
  intro p e s m args below meth c s₁ Bd hml0 hP hK
  obtain ⟨rfl, hZ, hh⟩ := hP
  have hx := Bd.exec
  have hby := Bd.bytes
  have hml : c.maxLocals = 1 := hml0
  have hown : s.vm.findClass "java/lang/AbstractStringBuilder" = some m.cls := findClass_of_methodNamed Bd.named
  have hnm := (name_of_methodNamed Bd.named Bd.method).1
  have X0 : Stand p l e ({ frames := 0, cells := 0, slots := 0, locals := 0 } : Room) s m #[(.ref a)] below meth c s₁ [] 0 0 := Stand.of_body Bd
  have e0 : s₁.heap = h0 := by rw [← hh, Bd.state]; rfl
  have N0 := Fr.nil n0
  show OwnG p e below (OwnE s (QSame (some (.int n)) h0 n0) ({ frames := 0, cells := 0, slots := 0, locals := 0 } : Room).cells ({ frames := 0, cells := 0, slots := 0, locals := 0 } : Room).slots) _
  refine own_by (S' := s₁.setTop (mkF m 0 #[.val (.ref a)] [])) (fun tZ kZ => castTop (ef_rmAN m a) kZ) ?_
  refine own_by (S' := s₁.setTop (mkF m 1 #[.val (.ref a)] [(.ref a)])) (fun tZ kZ => XS.aloadN X0.here hx rfl (hb hby d40_0) rfl rfl kZ) ?_
  obtain ⟨T1, X1, e1, st1⟩ := getF X0 hx hZ hown (host := "") (Or.inl (hw_ hw 134 rfl)) Via.refl e0 B.2.2.2.1 (g := (mkF m 1 #[.val (.ref a)] [(.ref a)])) rfl rfl (hb hby d40_1)
  refine own_by (S' := T1.setTop (mkF m 4 #[.val (.ref a)] [(.int n)])) st1 ?_
  exact own_retI X1 hx (t := .int) Bd.returns (by simp) rfl (hb hby d40_4) Bd.notSynchronized (by decide) (by decide) ⟨rfl, N0, e1⟩
theorem d39_0 : decode jdk_67_method_93_code 0 = .ok (.aload_n 0, 1) := by decide +kernel
theorem d39_1 : decode jdk_67_method_93_code 1 = .ok (.invokespecial 343, 3) := by decide +kernel
theorem d39_4 : decode jdk_67_method_93_code 4 = .ok (.ireturn, 1) := by decide +kernel
theorem ef_rmSN (m : MethodId) (a : Addr) : entryFrame m #[(.ref a)] 1 = mkF m 0 #[.val (.ref a)] [] := by first | (simp [entryFrame, mkF, argsToLocals, Value.category, maxLocals]; done) | rfl
set_option maxRecDepth 65536 in
set_option maxHeartbeats 40000000 in
theorem rmSN (l : Launch) (Z : State) (a0 : Array Value) (hw : ∀ d ∈ tables_1, d.before a0 Z = true) (ws : List Jvm.Cond) (a v : Addr) (kv : ClassId) (n : Int32) (vs : List Value) (h0 : Heap) (n0 : Nat) (Z0 : n0 ≤ h0.size) (B : OwnSB Z h0 a v kv vs n) :
    MetFree l (⟨"java/lang/StringBuilder", "length", "()I"⟩ : MethodName) (head1 (Jvm.Cond.code (⟨"java/lang/StringBuilder", "length", "()I"⟩ : MethodName) jdk_67_method_93_code (1 : Nat) (Option.some Jvm.ClassFile.FieldType.int) :: ws) ({ frames := 1, cells := 0, slots := 0, locals := 12 } : Room)) (fun aZ UZ => aZ = #[(.ref a)] ∧ Z.Warmed39 UZ.vm ∧ UZ.heap = h0) (fun _ _ _ _ _ => True) (fun _ UZ oZ VZ => ∃ vZ LZ, oZ = .returned vZ ∧ (QSame (some (.int n)) h0 n0) vZ VZ.heap LZ ∧ FrameEnd UZ oZ VZ LZ ({ frames := 1, cells := 0, slots := 0, locals := 12 } : Room).cells ({ frames := 1, cells := 0, slots := 0, locals := 12 } : Room).slots) := by
  refine MetFree.of_bodySF (plainFor_of_name pn_8) hisR ?_
  intro p e s m args below meth c s₁ Bd hml0 hP hK
  obtain ⟨rfl, hZ, hh⟩ := hP
  have hx := Bd.exec
  have hby := Bd.bytes
  have hml : c.maxLocals = 1 := hml0
  have hown : s.vm.findClass "java/lang/StringBuilder" = some m.cls := findClass_of_methodNamed Bd.named
  have hnm := (name_of_methodNamed Bd.named Bd.method).1
  have X0 : Stand p l e ({ frames := 1, cells := 0, slots := 0, locals := 12 } : Room) s m #[(.ref a)] below meth c s₁ [] 0 0 := Stand.of_body Bd
  have e0 : s₁.heap = h0 := by rw [← hh, Bd.state]; rfl
  have N0 := Fr.nil n0
  show OwnG p e below (OwnE s (QSame (some (.int n)) h0 n0) ({ frames := 1, cells := 0, slots := 0, locals := 12 } : Room).cells ({ frames := 1, cells := 0, slots := 0, locals := 12 } : Room).slots) _
  refine own_by (S' := s₁.setTop (mkF m 0 #[.val (.ref a)] [])) (fun tZ kZ => castTop (ef_rmSN m a) kZ) ?_
  refine own_by (S' := s₁.setTop (mkF m 1 #[.val (.ref a)] [(.ref a)])) (fun tZ kZ => XS.aloadN X0.here hx rfl (hb hby d39_0) rfl rfl kZ) ?_
  obtain ⟨_, _, ⟨T1, L1, k1, n1⟩, -, X1, ⟨Lc1, hQ1, l1, y1, z1⟩, st1⟩ := superBack X0 hx hZ (y := (⟨"java/lang/AbstractStringBuilder", "length", "()I"⟩ : MethodName)) hown (hw_ hw 222 rfl) (own_same (y := (⟨"java/lang/AbstractStringBuilder", "length", "()I"⟩ : MethodName)) (hw_ hw 217 rfl) (hw_ hw 143 rfl) rfl (by decide)) (hw_ hw 218 rfl) (hw_ hw 131 rfl) (by decide) (backOf (W := 0) (rmAN l Z a0 hw [] a v kv n vs h0 n0 Z0 B) hZ (hw_ hw 223 rfl) (hw_ hw 116 rfl) (by decide) (by decide)) e0 (Ins.self B.1) (g := (mkF m 1 #[.val (.ref a)] [(.ref a)])) rfl (by rw [hml]; rfl) (hw_ hw 223 rfl) (argsL := []) (rest := []) (lenOf pd_10 rfl) rfl (by show 2 * 0 + _ ≤ _; exact Nat.le_of_eq rfl) (hb hby d39_1) (fun _ _ => ⟨rfl, e0, (by decide : 0 + 0 ≤ _), (by decide : 0 + 0 ≤ _)⟩)
  dsimp only [Pt.U, Pt.locs, Pt.cells, Pt.slots] at X1 l1 y1 z1 st1 hQ1
  subst l1 y1 z1
  obtain ⟨rfl, N1q, heq1⟩ := hQ1
  have N1 := Fr.app N0 N1q
  refine own_by (S' := T1.setTop (mkF m 4 #[.val (.ref a)] [(.int n)])) (fun tZ kZ => st1.trans kZ) ?_
  exact own_retI X1 hx (t := .int) Bd.returns (by simp) rfl (hb hby d39_4) Bd.notSynchronized (by decide) (by decide) ⟨rfl, N1, heq1⟩
theorem d43_0 : decode jdk_65_method_131_code 0 = .ok (.iload_n 1, 1) := by decide +kernel
theorem d43_1 : decode jdk_65_method_131_code 1 = .ok (.iload_n 0, 1) := by decide +kernel
theorem d43_2 : decode jdk_65_method_131_code 2 = .ok (.if_icmp .ge 35, 3) := by decide +kernel
theorem d43_5 : decode jdk_65_method_131_code 5 = .ok (.new 43, 3) := by decide +kernel
theorem d43_8 : decode jdk_65_method_131_code 8 = .ok (.dup, 1) := by decide +kernel
theorem d43_9 : decode jdk_65_method_131_code 9 = .ok (.new 45, 3) := by decide +kernel
theorem d43_12 : decode jdk_65_method_131_code 12 = .ok (.dup, 1) := by decide +kernel
theorem d43_13 : decode jdk_65_method_131_code 13 = .ok (.invokespecial 47, 3) := by decide +kernel
theorem d43_16 : decode jdk_65_method_131_code 16 = .ok (.iload_n 0, 1) := by decide +kernel
theorem d43_17 : decode jdk_65_method_131_code 17 = .ok (.invokevirtual 54, 3) := by decide +kernel
theorem d43_20 : decode jdk_65_method_131_code 20 = .ok (.ldc_w 337, 3) := by decide +kernel
theorem d43_23 : decode jdk_65_method_131_code 23 = .ok (.invokevirtual 50, 3) := by decide +kernel
theorem d43_26 : decode jdk_65_method_131_code 26 = .ok (.iload_n 1, 1) := by decide +kernel
theorem d43_27 : decode jdk_65_method_131_code 27 = .ok (.invokevirtual 54, 3) := by decide +kernel
theorem d43_30 : decode jdk_65_method_131_code 30 = .ok (.invokevirtual 61, 3) := by decide +kernel
theorem d43_33 : decode jdk_65_method_131_code 33 = .ok (.invokespecial 65, 3) := by decide +kernel
theorem d43_36 : decode jdk_65_method_131_code 36 = .ok (.athrow, 1) := by decide +kernel
theorem d43_37 : decode jdk_65_method_131_code 37 = .ok (.return_, 1) := by decide +kernel
theorem pn_9 : plainName "java/util/Arrays" = true := by first | (simp [plainName, overriddenIn]; done) | decide +kernel
theorem ef_rmCl (m : MethodId) (n : Int32) : entryFrame m #[(.int (0 : Int32)), (.int n)] 2 = mkF m 0 #[.val (.int (0 : Int32)), .val (.int n)] [] := by first | (simp [entryFrame, mkF, argsToLocals, Value.category, maxLocals]; done) | rfl
set_option maxRecDepth 65536 in
set_option maxHeartbeats 40000000 in
theorem rmCl (l : Launch) (Z : State) (a0 : Array Value) (hw : ∀ d ∈ tables_1, d.before a0 Z = true) (ws : List Jvm.Cond) (n : Int32) (h0 : Heap) (n0 : Nat) (Z0 : n0 ≤ h0.size) (hn : ¬ n < 0) :
    MetFree l (⟨"java/util/Arrays", "checkLength", "(II)V"⟩ : MethodName) (head1 (Jvm.Cond.code (⟨"java/util/Arrays", "checkLength", "(II)V"⟩ : MethodName) jdk_65_method_131_code (2 : Nat) (Option.none : Option Jvm.ClassFile.FieldType) :: ws) ({ frames := 0, cells := 0, slots := 0, locals := 0 } : Room)) (fun aZ UZ => aZ = #[(.int (0 : Int32)), (.int n)] ∧ Z.Warmed39 UZ.vm ∧ UZ.heap = h0) (fun _ _ _ _ _ => True) (fun _ UZ oZ VZ => ∃ vZ LZ, oZ = .returned vZ ∧ (QSame none h0 n0) vZ VZ.heap LZ ∧ FrameEnd UZ oZ VZ LZ ({ frames := 0, cells := 0, slots := 0, locals := 0 } : Room).cells ({ frames := 0, cells := 0, slots := 0, locals := 0 } : Room).slots) := by
  refine MetFree.of_bodySF (plainFor_of_name pn_9) hisR ?_
  intro p e s m args below meth c s₁ Bd hml0 hP hK
  obtain ⟨rfl, hZ, hh⟩ := hP
  have hx := Bd.exec
  have hby := Bd.bytes
  have hml : c.maxLocals = 2 := hml0
  have hown : s.vm.findClass "java/util/Arrays" = some m.cls := findClass_of_methodNamed Bd.named
  have hnm := (name_of_methodNamed Bd.named Bd.method).1
  have X0 : Stand p l e ({ frames := 0, cells := 0, slots := 0, locals := 0 } : Room) s m #[(.int (0 : Int32)), (.int n)] below meth c s₁ [] 0 0 := Stand.of_body Bd
  have e0 : s₁.heap = h0 := by rw [← hh, Bd.state]; rfl
  have N0 := Fr.nil n0
  show OwnG p e below (OwnE s (QSame none h0 n0) ({ frames := 0, cells := 0, slots := 0, locals := 0 } : Room).cells ({ frames := 0, cells := 0, slots := 0, locals := 0 } : Room).slots) _
  refine own_by (S' := s₁.setTop (mkF m 0 #[.val (.int (0 : Int32)), .val (.int n)] [])) (fun tZ kZ => castTop (ef_rmCl m n) kZ) ?_
  refine own_by (S' := s₁.setTop (mkF m 1 #[.val (.int (0 : Int32)), .val (.int n)] [(.int n)])) (fun tZ kZ => XS.iloadN X0.here hx rfl (hb hby d43_0) rfl kZ) ?_
  refine own_by (S' := s₁.setTop (mkF m 2 #[.val (.int (0 : Int32)), .val (.int n)] [(.int (0 : Int32)), (.int n)])) (fun tZ kZ => XS.iloadN X0.here hx rfl (hb hby d43_1) rfl kZ) ?_
  refine own_by (S' := s₁.setTop (mkF m 37 #[.val (.int (0 : Int32)), .val (.int n)] [])) (fun tZ kZ => XS.icmpYes X0.here hx rfl (pc0 := 2) (pc' := 37) rfl (hb hby d43_2) rfl (flt hn).2.1 (by decide) (by decide) kZ) ?_
  exact own_ret0 X0 hx Bd.returns (hb hby d43_37) Bd.notSynchronized (by decide) (by decide) ⟨rfl, N0, e0⟩
def QRf (Z : State) (h0 : Heap) (n0 : Nat) (v : Option Value) (h : Heap) (L : List Loc) : Prop := ∃ b kb ws, v = some (.ref b) ∧ Fr n0 L ∧ Keep h0 h [] ∧ h0.size ≤ b ∧ OwnA Z h b kb .byte ws
theorem own_sub0 (n : Int32) : n - 0 = n := by
  apply Int32.toInt_inj.mp
  have a := c_isub n 0
  have b := rng32 (n - 0)
  have c := rng32 n
  have e : (0 : Int32).toInt = 0 := rfl
  omega
theorem own_min16 {n : Int32} {d : Nat} (h : n.toInt = d) (h2 : d ≤ 12) : (if n < (16 : Int32) then n else 16) = n := by
  rw [if_pos (by rw [own_ltI]; have e : (16 : Int32).toInt = 16 := rfl; omega)]
theorem d42_0 : decode jdk_65_method_133_code 0 = .ok (.iload_n 1, 1) := by decide +kernel
theorem d42_1 : decode jdk_65_method_133_code 1 = .ok (.iload_n 2, 1) := by decide +kernel
theorem d42_2 : decode jdk_65_method_133_code 2 = .ok (.invokestatic 343, 3) := by decide +kernel
theorem d42_5 : decode jdk_65_method_133_code 5 = .ok (.iload_n 2, 1) := by decide +kernel
theorem d42_6 : decode jdk_65_method_133_code 6 = .ok (.iload_n 1, 1) := by decide +kernel
theorem d42_7 : decode jdk_65_method_133_code 7 = .ok (.isub, 1) := by decide +kernel
theorem d42_8 : decode jdk_65_method_133_code 8 = .ok (.istore_n 3, 1) := by decide +kernel
theorem d42_9 : decode jdk_65_method_133_code 9 = .ok (.iload_n 3, 1) := by decide +kernel
theorem d42_10 : decode jdk_65_method_133_code 10 = .ok (.newarray .byte, 2) := by decide +kernel
theorem d42_12 : decode jdk_65_method_133_code 12 = .ok (.astore 4, 2) := by decide +kernel
theorem d42_14 : decode jdk_65_method_133_code 14 = .ok (.aload_n 0, 1) := by decide +kernel
theorem d42_15 : decode jdk_65_method_133_code 15 = .ok (.iload_n 1, 1) := by decide +kernel
theorem d42_16 : decode jdk_65_method_133_code 16 = .ok (.aload 4, 2) := by decide +kernel
theorem d42_18 : decode jdk_65_method_133_code 18 = .ok (.iconst 0, 1) := by decide +kernel
theorem d42_19 : decode jdk_65_method_133_code 19 = .ok (.aload_n 0, 1) := by decide +kernel
theorem d42_20 : decode jdk_65_method_133_code 20 = .ok (.arraylength, 1) := by decide +kernel
theorem d42_21 : decode jdk_65_method_133_code 21 = .ok (.iload_n 1, 1) := by decide +kernel
theorem d42_22 : decode jdk_65_method_133_code 22 = .ok (.isub, 1) := by decide +kernel
theorem d42_23 : decode jdk_65_method_133_code 23 = .ok (.iload_n 3, 1) := by decide +kernel
theorem d42_24 : decode jdk_65_method_133_code 24 = .ok (.invokestatic 304, 3) := by decide +kernel
theorem d42_27 : decode jdk_65_method_133_code 27 = .ok (.invokestatic 150, 3) := by decide +kernel
theorem d42_30 : decode jdk_65_method_133_code 30 = .ok (.aload 4, 2) := by decide +kernel
theorem d42_32 : decode jdk_65_method_133_code 32 = .ok (.areturn, 1) := by decide +kernel
theorem ef_rmCb (m : MethodId) (v : Addr) (n : Int32) : entryFrame m #[(.ref v), (.int (0 : Int32)), (.int n)] 5 = mkF m 0 #[.val (.ref v), .val (.int (0 : Int32)), .val (.int n), .unset, .unset] [] := by first | (simp [entryFrame, mkF, argsToLocals, Value.category, maxLocals]; done) | rfl
set_option maxRecDepth 65536 in
set_option maxHeartbeats 40000000 in
theorem rmCb (l : Launch) (Z : State) (a0 : Array Value) (hw : ∀ d ∈ tables_1, d.before a0 Z = true) (ws : List Jvm.Cond) (v : Addr) (kv : ClassId) (vs : List Value) (n : Int32) (d : Nat) (h0 : Heap) (n0 : Nat) (Z0 : n0 ≤ h0.size) (V_v : OwnA Z h0 v kv .byte vs) (hl : vs.length = 16) (hfv : ∀ q ∈ vs, fits .byte q = true) (hnd : n.toInt = d) (hd : d ≤ 12) :
    MetFree l (⟨"java/util/Arrays", "copyOfRangeByte", "([BII)[B"⟩ : MethodName) (head1 (Jvm.Cond.code (⟨"java/util/Arrays", "copyOfRangeByte", "([BII)[B"⟩ : MethodName) jdk_65_method_133_code (5 : Nat) (Option.some (Jvm.ClassFile.FieldType.array Jvm.ClassFile.FieldType.byte)) :: ws) ({ frames := 1, cells := 1, slots := 12, locals := 40 } : Room)) (fun aZ UZ => aZ = #[(.ref v), (.int (0 : Int32)), (.int n)] ∧ Z.Warmed39 UZ.vm ∧ UZ.heap = h0) (fun _ _ _ _ _ => True) (fun _ UZ oZ VZ => ∃ vZ LZ, oZ = .returned vZ ∧ (QRf Z h0 n0) vZ VZ.heap LZ ∧ FrameEnd UZ oZ VZ LZ ({ frames := 1, cells := 1, slots := 12, locals := 40 } : Room).cells ({ frames := 1, cells := 1, slots := 12, locals := 40 } : Room).slots) := by
  refine MetFree.of_bodySF (plainFor_of_name pn_9) hisR ?_
  intro p e s m args below meth c s₁ Bd hml0 hP hK
  obtain ⟨rfl, hZ, hh⟩ := hP
  have hx := Bd.exec
  have hby := Bd.bytes
  have hml : c.maxLocals = 5 := hml0
  have hown : s.vm.findClass "java/util/Arrays" = some m.cls := findClass_of_methodNamed Bd.named
  have hnm := (name_of_methodNamed Bd.named Bd.method).1
  have X0 : Stand p l e ({ frames := 1, cells := 1, slots := 12, locals := 40 } : Room) s m #[(.ref v), (.int (0 : Int32)), (.int n)] below meth c s₁ [] 0 0 := Stand.of_body Bd
  have e0 : s₁.heap = h0 := by rw [← hh, Bd.state]; rfl
  have N0 := Fr.nil n0
  show OwnG p e below (OwnE s (QRf Z h0 n0) ({ frames := 1, cells := 1, slots := 12, locals := 40 } : Room).cells ({ frames := 1, cells := 1, slots := 12, locals := 40 } : Room).slots) _
  refine own_by (S' := s₁.setTop (mkF m 0 #[.val (.ref v), .val (.int (0 : Int32)), .val (.int n), .unset, .unset] [])) (fun tZ kZ => castTop (ef_rmCb m v n) kZ) ?_
  refine own_by (S' := s₁.setTop (mkF m 1 #[.val (.ref v), .val (.int (0 : Int32)), .val (.int n), .unset, .unset] [(.int (0 : Int32))])) (fun tZ kZ => XS.iloadN X0.here hx rfl (hb hby d42_0) rfl kZ) ?_
  refine own_by (S' := s₁.setTop (mkF m 2 #[.val (.ref v), .val (.int (0 : Int32)), .val (.int n), .unset, .unset] [(.int n), (.int (0 : Int32))])) (fun tZ kZ => XS.iloadN X0.here hx rfl (hb hby d42_1) rfl kZ) ?_
  obtain ⟨_, _, ⟨T1, L1, k1, n1⟩, -, X1, ⟨Lc1, hQ1, l1, y1, z1⟩, st1⟩ := Jvm.LawKit.callS X0 hx (y := (⟨"java/util/Arrays", "checkLength", "(II)V"⟩ : MethodName)) hown (mvT hZ (hw_ hw 232 rfl)) (mvT hZ (hw_ hw 233 rfl)) (mvT hZ (hw_ hw 227 rfl)) (mvT hZ (hw_ hw 234 rfl)) (by decide) (backOf (W := 0) (rmCl l Z a0 hw [] n h0 n0 Z0 (own_nneg hnd)) hZ (hw_ hw 234 rfl) (hw_ hw 227 rfl) (by decide) (by decide)) (g := (mkF m 2 #[.val (.ref v), .val (.int (0 : Int32)), .val (.int n), .unset, .unset] [(.int n), (.int (0 : Int32))])) rfl (by rw [hml]; rfl) (argsL := [(.int (0 : Int32)), (.int n)]) (rest := []) (lenOf pd_13 rfl) rfl (by show 2 * 0 + _ ≤ _; exact Nat.le_of_eq rfl) (hb hby d42_2) (fun _ _ => ⟨rfl, e0, (by decide : 0 + 0 ≤ _), (by decide : 0 + 0 ≤ _)⟩)
  dsimp only [Pt.U, Pt.locs, Pt.cells, Pt.slots] at X1 l1 y1 z1 st1 hQ1
  subst l1 y1 z1
  obtain ⟨rfl, N1q, heq1⟩ := hQ1
  have N1 := Fr.app N0 N1q
  refine own_by (S' := T1.setTop (mkF m 5 #[.val (.ref v), .val (.int (0 : Int32)), .val (.int n), .unset, .unset] [])) (fun tZ kZ => st1 _ kZ) ?_
  refine own_by (S' := T1.setTop (mkF m 6 #[.val (.ref v), .val (.int (0 : Int32)), .val (.int n), .unset, .unset] [(.int n)])) (fun tZ kZ => XS.iloadN X1.here hx rfl (hb hby d42_5) rfl kZ) ?_
  refine own_by (S' := T1.setTop (mkF m 7 #[.val (.ref v), .val (.int (0 : Int32)), .val (.int n), .unset, .unset] [(.int (0 : Int32)), (.int n)])) (fun tZ kZ => XS.iloadN X1.here hx rfl (hb hby d42_6) rfl kZ) ?_
  refine own_by (S' := T1.setTop (mkF m 8 #[.val (.ref v), .val (.int (0 : Int32)), .val (.int n), .unset, .unset] [(.int (n - (0 : Int32)))])) (fun tZ kZ => XS.isub X1.here hx rfl (hb hby d42_7) rfl kZ) ?_
  rw [own_sub0]
  refine own_by (S' := T1.setTop (mkF m 9 #[.val (.ref v), .val (.int (0 : Int32)), .val (.int n), .val (.int n), .unset] [])) (fun tZ kZ => XS.istoreN X1.here hx rfl (hb hby d42_8) rfl (l' := #[.val (.ref v), .val (.int (0 : Int32)), .val (.int n), .val (.int n), .unset]) rfl kZ) ?_
  refine own_by (S' := T1.setTop (mkF m 10 #[.val (.ref v), .val (.int (0 : Int32)), .val (.int n), .val (.int n), .unset] [(.int n)])) (fun tZ kZ => XS.iloadN X1.here hx rfl (hb hby d42_9) rfl kZ) ?_
  obtain ⟨T2, h2, k2, X2, e2, E2, A2, st2⟩ := newP X1 hx hZ (hw_ hw 63 rfl) heq1 (g := (mkF m 10 #[.val (.ref v), .val (.int (0 : Int32)), .val (.int n), .val (.int n), .unset] [(.int n)])) rfl (hb hby d42_10) rfl (own_nneg hnd) (cap := 12) (by rw [own_tnc hnd]; exact hd) (by decide) (by decide) (by decide)
  obtain ⟨b2, g2⟩ : ∃ z, z = h0.size := ⟨_, rfl⟩
  rw [← g2] at A2 st2
  have g_b2 : n0 ≤ b2 := Nat.le_trans Z0 (Nat.le_of_eq g2.symm)
  have sz_b2 : h0.size ≤ b2 := Nat.le_trans (Keep.refl h0 []).1 (Nat.le_of_eq g2.symm)
  have Zs2 : n0 ≤ h2.size := Nat.le_trans Z0 E2.1
  have K2 := (Keep.refl h0 []).ext E2
  have V_b2 := OwnA.new A2
  refine own_by (S' := T2.setTop (mkF m 12 #[.val (.ref v), .val (.int (0 : Int32)), .val (.int n), .val (.int n), .unset] [(.ref b2)])) st2 ?_
  refine own_by (S' := T2.setTop (mkF m 14 #[.val (.ref v), .val (.int (0 : Int32)), .val (.int n), .val (.int n), .val (.ref b2)] [])) (fun tZ kZ => XS.astore X2.here hx rfl (hb hby d42_12) rfl rfl (l' := #[.val (.ref v), .val (.int (0 : Int32)), .val (.int n), .val (.int n), .val (.ref b2)]) rfl kZ) ?_
  refine own_by (S' := T2.setTop (mkF m 15 #[.val (.ref v), .val (.int (0 : Int32)), .val (.int n), .val (.int n), .val (.ref b2)] [(.ref v)])) (fun tZ kZ => XS.aloadN X2.here hx rfl (hb hby d42_14) rfl rfl kZ) ?_
  refine own_by (S' := T2.setTop (mkF m 16 #[.val (.ref v), .val (.int (0 : Int32)), .val (.int n), .val (.int n), .val (.ref b2)] [(.int (0 : Int32)), (.ref v)])) (fun tZ kZ => XS.iloadN X2.here hx rfl (hb hby d42_15) rfl kZ) ?_
  refine own_by (S' := T2.setTop (mkF m 18 #[.val (.ref v), .val (.int (0 : Int32)), .val (.int n), .val (.int n), .val (.ref b2)] [(.ref b2), (.int (0 : Int32)), (.ref v)])) (fun tZ kZ => XS.aload X2.here hx rfl (hb hby d42_16) rfl rfl kZ) ?_
  refine own_by (S' := T2.setTop (mkF m 19 #[.val (.ref v), .val (.int (0 : Int32)), .val (.int n), .val (.int n), .val (.ref b2)] [(.int (0 : Int32)), (.ref b2), (.int (0 : Int32)), (.ref v)])) (fun tZ kZ => XS.iconst X2.here hx rfl (hb hby d42_18) kZ) ?_
  refine own_by (S' := T2.setTop (mkF m 20 #[.val (.ref v), .val (.int (0 : Int32)), .val (.int n), .val (.int n), .val (.ref b2)] [(.ref v), (.int (0 : Int32)), (.ref b2), (.int (0 : Int32)), (.ref v)])) (fun tZ kZ => XS.aloadN X2.here hx rfl (hb hby d42_19) rfl rfl kZ) ?_
  have ExK2 := own_ext0 K2
  obtain ⟨cc3, Ar3, hc3, hl3⟩ := id (V_v.ext ExK2)
  refine own_by (S' := T2.setTop (mkF m 21 #[.val (.ref v), .val (.int (0 : Int32)), .val (.int n), .val (.int n), .val (.ref b2)] [(.int (16 : Int32)), (.int (0 : Int32)), (.ref b2), (.int (0 : Int32)), (.ref v)])) (fun tZ kZ => X2.arraylength hx (by rw [e2]; exact Ar3.1) (State.isArrayOf_alike hZ.alike Ar3.2.1) (g := (mkF m 20 #[.val (.ref v), .val (.int (0 : Int32)), .val (.int n), .val (.int n), .val (.ref b2)] [(.ref v), (.int (0 : Int32)), (.ref b2), (.int (0 : Int32)), (.ref v)])) rfl rfl (hb hby d42_20) _ (by rw [len_of (OwnA.size (z := (16 : Int32)) hl3 hl) (by decide)]; exact kZ)) ?_
  refine own_by (S' := T2.setTop (mkF m 22 #[.val (.ref v), .val (.int (0 : Int32)), .val (.int n), .val (.int n), .val (.ref b2)] [(.int (0 : Int32)), (.int (16 : Int32)), (.int (0 : Int32)), (.ref b2), (.int (0 : Int32)), (.ref v)])) (fun tZ kZ => XS.iloadN X2.here hx rfl (hb hby d42_21) rfl kZ) ?_
  refine own_by (S' := T2.setTop (mkF m 23 #[.val (.ref v), .val (.int (0 : Int32)), .val (.int n), .val (.int n), .val (.ref b2)] [(.int ((16 : Int32) - (0 : Int32))), (.int (0 : Int32)), (.ref b2), (.int (0 : Int32)), (.ref v)])) (fun tZ kZ => XS.isub X2.here hx rfl (hb hby d42_22) rfl kZ) ?_
  rw [show (16 : Int32) - 0 = 16 from by decide]
  refine own_by (S' := T2.setTop (mkF m 24 #[.val (.ref v), .val (.int (0 : Int32)), .val (.int n), .val (.int n), .val (.ref b2)] [(.int n), (.int (16 : Int32)), (.int (0 : Int32)), (.ref b2), (.int (0 : Int32)), (.ref v)])) (fun tZ kZ => XS.iloadN X2.here hx rfl (hb hby d42_23) rfl kZ) ?_
  obtain ⟨_, _, ⟨T4, L4, k4, n4⟩, -, X4, ⟨Lc4, hQ4, l4, y4, z4⟩, st4⟩ := Jvm.LawKit.callS X2 hx (y := (⟨"java/lang/Math", "min", "(II)I"⟩ : MethodName)) hown (mvT hZ (hw_ hw 235 rfl)) (mvT hZ (hw_ hw 236 rfl)) (mvT hZ (hw_ hw 5 rfl)) (mvT hZ (hw_ hw 237 rfl)) (by decide) (backOf (W := 4) (rmMn l Z a0 hw [] (16 : Int32) n h2 n0 Zs2) hZ (hw_ hw 237 rfl) (hw_ hw 5 rfl) (by decide) (by decide)) (g := (mkF m 24 #[.val (.ref v), .val (.int (0 : Int32)), .val (.int n), .val (.int n), .val (.ref b2)] [(.int n), (.int (16 : Int32)), (.int (0 : Int32)), (.ref b2), (.int (0 : Int32)), (.ref v)])) rfl (by rw [hml]; rfl) (argsL := [(.int (16 : Int32)), (.int n)]) (rest := [(.int (0 : Int32)), (.ref b2), (.int (0 : Int32)), (.ref v)]) (lenOf pd_14 rfl) rfl (by show 2 * 0 + _ ≤ _; exact Nat.le_of_eq rfl) (hb hby d42_24) (fun _ _ => ⟨rfl, e2, (by decide : 1 + 0 ≤ _), (by decide : 12 + 0 ≤ _)⟩)
  dsimp only [Pt.U, Pt.locs, Pt.cells, Pt.slots] at X4 l4 y4 z4 st4 hQ4
  subst l4 y4 z4
  obtain ⟨rfl, N4q, heq4⟩ := hQ4
  have N4 := Fr.app N1 N4q
  refine own_by (S' := T4.setTop (mkF m 27 #[.val (.ref v), .val (.int (0 : Int32)), .val (.int n), .val (.int n), .val (.ref b2)] [(.int (if n < (16 : Int32) then n else 16)), (.int (0 : Int32)), (.ref b2), (.int (0 : Int32)), (.ref v)])) (fun tZ kZ => st4 _ kZ) ?_
  rw [own_min16 hnd hd]
  have V_b2' : OwnA Z h2 b2 k2 .byte (List.replicate d (.int 0)) := by
    have q := V_b2
    rw [own_tnc hnd] at q
    exact q
  obtain ⟨T5, h5, X5, e5, Kw5, V5, st5⟩ := own_acopy X4 hx hZ hown (hw_ hw 238 rfl) (hw_ hw 196 rfl) (hw_ hw 194 rfl) (hw_ hw 195 rfl) heq4 (V_v.ext ExK2) V_b2' rfl hfv (o := 0) (q := 0) (n := d) rfl rfl (own_ofn hnd) (by omega) (by rw [List.length_replicate]; omega) (by omega) (by rw [List.length_replicate]; omega) (g := (mkF m 27 #[.val (.ref v), .val (.int (0 : Int32)), .val (.int n), .val (.int n), .val (.ref b2)] [(.int n), (.int (0 : Int32)), (.ref b2), (.int (0 : Int32)), (.ref v)])) rfl (by rw [hml]; rfl) (rest := []) rfl (hb hby d42_27) (W := 0) (by show 2 * 0 + _ ≤ _; exact Nat.le_of_eq rfl) (by decide) (by decide)
  have N5 := Fr.app N4 (own_frcopy (b := b2) (q := 0) (n := d) g_b2)
  have Zs5 := Nat.le_trans Zs2 Kw5.1
  have K5 := K2.trans Kw5 (fun x hx => by
      obtain rfl := List.mem_singleton.mp hx
      exact Or.inr sz_b2)
  have V_b2_c5 := V5
  refine own_by (S' := T5.setTop (mkF m 30 #[.val (.ref v), .val (.int (0 : Int32)), .val (.int n), .val (.int n), .val (.ref b2)] [])) st5 ?_
  refine own_by (S' := T5.setTop (mkF m 32 #[.val (.ref v), .val (.int (0 : Int32)), .val (.int n), .val (.int n), .val (.ref b2)] [(.ref b2)])) (fun tZ kZ => XS.aload X5.here hx rfl (hb hby d42_30) rfl rfl kZ) ?_
  exact own_retA X5 hx Bd.returns rfl rfl (hb hby d42_32) Bd.notSynchronized (by decide) (by decide) (show QRf Z h0 n0 _ T5.heap _ from by rw [e5]; exact ⟨b2, _, _, rfl, N5, K5, sz_b2, V_b2_c5⟩)
theorem d41_0 : decode jdk_65_method_132_code 0 = .ok (.iload_n 1, 1) := by decide +kernel
theorem d41_1 : decode jdk_65_method_132_code 1 = .ok (.ifCond .ne 9, 3) := by decide +kernel
theorem d41_4 : decode jdk_65_method_132_code 4 = .ok (.iload_n 2, 1) := by decide +kernel
theorem d41_5 : decode jdk_65_method_132_code 5 = .ok (.aload_n 0, 1) := by decide +kernel
theorem d41_6 : decode jdk_65_method_132_code 6 = .ok (.arraylength, 1) := by decide +kernel
theorem d41_7 : decode jdk_65_method_132_code 7 = .ok (.if_icmp .eq 10, 3) := by decide +kernel
theorem d41_10 : decode jdk_65_method_132_code 10 = .ok (.aload_n 0, 1) := by decide +kernel
theorem d41_11 : decode jdk_65_method_132_code 11 = .ok (.iload_n 1, 1) := by decide +kernel
theorem d41_12 : decode jdk_65_method_132_code 12 = .ok (.iload_n 2, 1) := by decide +kernel
theorem d41_13 : decode jdk_65_method_132_code 13 = .ok (.invokestatic 339, 3) := by decide +kernel
theorem d41_16 : decode jdk_65_method_132_code 16 = .ok (.areturn, 1) := by decide +kernel
theorem d41_17 : decode jdk_65_method_132_code 17 = .ok (.aload_n 0, 1) := by decide +kernel
theorem d41_18 : decode jdk_65_method_132_code 18 = .ok (.invokevirtual 310, 3) := by decide +kernel
theorem d41_21 : decode jdk_65_method_132_code 21 = .ok (.checkcast 311, 3) := by decide +kernel
theorem d41_24 : decode jdk_65_method_132_code 24 = .ok (.areturn, 1) := by decide +kernel
theorem ef_rmCr (m : MethodId) (v : Addr) (n : Int32) : entryFrame m #[(.ref v), (.int (0 : Int32)), (.int n)] 3 = mkF m 0 #[.val (.ref v), .val (.int (0 : Int32)), .val (.int n)] [] := by first | (simp [entryFrame, mkF, argsToLocals, Value.category, maxLocals]; done) | rfl
set_option maxRecDepth 65536 in
set_option maxHeartbeats 40000000 in
theorem rmCr (l : Launch) (Z : State) (a0 : Array Value) (hw : ∀ d ∈ tables_1, d.before a0 Z = true) (ws : List Jvm.Cond) (v : Addr) (kv : ClassId) (vs : List Value) (n : Int32) (d : Nat) (h0 : Heap) (n0 : Nat) (Z0 : n0 ≤ h0.size) (V_v : OwnA Z h0 v kv .byte vs) (hl : vs.length = 16) (hfv : ∀ q ∈ vs, fits .byte q = true) (hnd : n.toInt = d) (hd : d ≤ 12) :
    MetFree l (⟨"java/util/Arrays", "copyOfRange", "([BII)[B"⟩ : MethodName) (head1 (Jvm.Cond.code (⟨"java/util/Arrays", "copyOfRange", "([BII)[B"⟩ : MethodName) jdk_65_method_132_code (3 : Nat) (Option.some (Jvm.ClassFile.FieldType.array Jvm.ClassFile.FieldType.byte)) :: ws) ({ frames := 2, cells := 1, slots := 12, locals := 56 } : Room)) (fun aZ UZ => aZ = #[(.ref v), (.int (0 : Int32)), (.int n)] ∧ Z.Warmed39 UZ.vm ∧ UZ.heap = h0) (fun _ _ _ _ _ => True) (fun _ UZ oZ VZ => ∃ vZ LZ, oZ = .returned vZ ∧ (QRf Z h0 n0) vZ VZ.heap LZ ∧ FrameEnd UZ oZ VZ LZ ({ frames := 2, cells := 1, slots := 12, locals := 56 } : Room).cells ({ frames := 2, cells := 1, slots := 12, locals := 56 } : Room).slots) := by
  refine MetFree.of_bodySF (plainFor_of_name pn_9) hisR ?_
  intro p e s m args below meth c s₁ Bd hml0 hP hK
  obtain ⟨rfl, hZ, hh⟩ := hP
  have hx := Bd.exec
  have hby := Bd.bytes
  have hml : c.maxLocals = 3 := hml0
  have hown : s.vm.findClass "java/util/Arrays" = some m.cls := findClass_of_methodNamed Bd.named
  have hnm := (name_of_methodNamed Bd.named Bd.method).1
  have X0 : Stand p l e ({ frames := 2, cells := 1, slots := 12, locals := 56 } : Room) s m #[(.ref v), (.int (0 : Int32)), (.int n)] below meth c s₁ [] 0 0 := Stand.of_body Bd
  have e0 : s₁.heap = h0 := by rw [← hh, Bd.state]; rfl
  have N0 := Fr.nil n0
  show OwnG p e below (OwnE s (QRf Z h0 n0) ({ frames := 2, cells := 1, slots := 12, locals := 56 } : Room).cells ({ frames := 2, cells := 1, slots := 12, locals := 56 } : Room).slots) _
  refine own_by (S' := s₁.setTop (mkF m 0 #[.val (.ref v), .val (.int (0 : Int32)), .val (.int n)] [])) (fun tZ kZ => castTop (ef_rmCr m v n) kZ) ?_
  refine own_by (S' := s₁.setTop (mkF m 1 #[.val (.ref v), .val (.int (0 : Int32)), .val (.int n)] [(.int (0 : Int32))])) (fun tZ kZ => XS.iloadN X0.here hx rfl (hb hby d41_0) rfl kZ) ?_
  refine own_by (S' := s₁.setTop (mkF m 4 #[.val (.ref v), .val (.int (0 : Int32)), .val (.int n)] [])) (fun tZ kZ => XS.ifNo X0.here hx rfl (hb hby d41_1) rfl ((if0 _ _).trans (teq rfl).2) kZ) ?_
  refine own_by (S' := s₁.setTop (mkF m 5 #[.val (.ref v), .val (.int (0 : Int32)), .val (.int n)] [(.int n)])) (fun tZ kZ => XS.iloadN X0.here hx rfl (hb hby d41_4) rfl kZ) ?_
  refine own_by (S' := s₁.setTop (mkF m 6 #[.val (.ref v), .val (.int (0 : Int32)), .val (.int n)] [(.ref v), (.int n)])) (fun tZ kZ => XS.aloadN X0.here hx rfl (hb hby d41_5) rfl rfl kZ) ?_
  obtain ⟨cc1, Ar1, hc1, hl1⟩ := id V_v
  refine own_by (S' := s₁.setTop (mkF m 7 #[.val (.ref v), .val (.int (0 : Int32)), .val (.int n)] [(.int (16 : Int32)), (.int n)])) (fun tZ kZ => X0.arraylength hx (by rw [e0]; exact Ar1.1) (State.isArrayOf_alike hZ.alike Ar1.2.1) (g := (mkF m 6 #[.val (.ref v), .val (.int (0 : Int32)), .val (.int n)] [(.ref v), (.int n)])) rfl rfl (hb hby d41_6) _ (by rw [len_of (OwnA.size (z := (16 : Int32)) hl1 hl) (by decide)]; exact kZ)) ?_
  refine own_by (S' := s₁.setTop (mkF m 10 #[.val (.ref v), .val (.int (0 : Int32)), .val (.int n)] [])) (fun tZ kZ => XS.icmpNo X0.here hx rfl (hb hby d41_7) rfl (feq (by intro q; rw [q] at hnd; have e : (16 : Int32).toInt = 16 := rfl; omega)).1 kZ) ?_
  refine own_by (S' := s₁.setTop (mkF m 11 #[.val (.ref v), .val (.int (0 : Int32)), .val (.int n)] [(.ref v)])) (fun tZ kZ => XS.aloadN X0.here hx rfl (hb hby d41_10) rfl rfl kZ) ?_
  refine own_by (S' := s₁.setTop (mkF m 12 #[.val (.ref v), .val (.int (0 : Int32)), .val (.int n)] [(.int (0 : Int32)), (.ref v)])) (fun tZ kZ => XS.iloadN X0.here hx rfl (hb hby d41_11) rfl kZ) ?_
  refine own_by (S' := s₁.setTop (mkF m 13 #[.val (.ref v), .val (.int (0 : Int32)), .val (.int n)] [(.int n), (.int (0 : Int32)), (.ref v)])) (fun tZ kZ => XS.iloadN X0.here hx rfl (hb hby d41_12) rfl kZ) ?_
  obtain ⟨_, _, ⟨T2, L2, k2, n2⟩, -, X2, ⟨Lc2, hQ2, l2, y2, z2⟩, st2⟩ := Jvm.LawKit.callS X0 hx (y := (⟨"java/util/Arrays", "copyOfRangeByte", "([BII)[B"⟩ : MethodName)) hown (mvT hZ (hw_ hw 229 rfl)) (mvT hZ (hw_ hw 230 rfl)) (mvT hZ (hw_ hw 227 rfl)) (mvT hZ (hw_ hw 231 rfl)) (by decide) (backOf (W := 0) (rmCb l Z a0 hw [] v kv vs n d h0 n0 Z0 V_v hl hfv hnd hd) hZ (hw_ hw 231 rfl) (hw_ hw 227 rfl) (by decide) (by decide)) (g := (mkF m 13 #[.val (.ref v), .val (.int (0 : Int32)), .val (.int n)] [(.int n), (.int (0 : Int32)), (.ref v)])) rfl (by rw [hml]; rfl) (argsL := [(.ref v), (.int (0 : Int32)), (.int n)]) (rest := []) (lenOf pd_15 rfl) rfl (by show 2 * 0 + _ ≤ _; exact Nat.le_of_eq rfl) (hb hby d41_13) (fun _ _ => ⟨rfl, e0, (by decide : 0 + 1 ≤ _), (by decide : 0 + 12 ≤ _)⟩)
  dsimp only [Pt.U, Pt.locs, Pt.cells, Pt.slots] at X2 l2 y2 z2 st2 hQ2
  subst l2 y2 z2
  obtain ⟨bb, kb, wb, rfl, N2q, Kc2, sb2, Vb2⟩ := hQ2
  have N2 := Fr.app N0 N2q
  have Zs2 := Nat.le_trans Z0 Kc2.1
  have Ec2 := own_ext0 Kc2
  have K2 := (Keep.refl h0 []).ext Ec2
  refine own_by (S' := T2.setTop (mkF m 16 #[.val (.ref v), .val (.int (0 : Int32)), .val (.int n)] [(.ref bb)])) (fun tZ kZ => st2 _ kZ) ?_
  exact own_retA X2 hx Bd.returns rfl rfl (hb hby d41_16) Bd.notSynchronized (by decide) (by decide) ⟨bb, kb, wb, rfl, N2, K2, sb2, Vb2⟩
theorem d37_0 : decode jdk_42_method_150_code 0 = .ok (.aload_n 0, 1) := by decide +kernel
theorem d37_1 : decode jdk_42_method_150_code 1 = .ok (.invokespecial 1, 3) := by decide +kernel
theorem d37_4 : decode jdk_42_method_150_code 4 = .ok (.aload_n 1, 1) := by decide +kernel
theorem d37_5 : decode jdk_42_method_150_code 5 = .ok (.invokevirtual 552, 3) := by decide +kernel
theorem d37_8 : decode jdk_42_method_150_code 8 = .ok (.astore_n 3, 1) := by decide +kernel
theorem d37_9 : decode jdk_42_method_150_code 9 = .ok (.aload_n 1, 1) := by decide +kernel
theorem d37_10 : decode jdk_42_method_150_code 10 = .ok (.invokevirtual 549, 3) := by decide +kernel
theorem d37_13 : decode jdk_42_method_150_code 13 = .ok (.istore 4, 2) := by decide +kernel
theorem d37_15 : decode jdk_42_method_150_code 15 = .ok (.aload_n 1, 1) := by decide +kernel
theorem d37_16 : decode jdk_42_method_150_code 16 = .ok (.invokevirtual 1047, 3) := by decide +kernel
theorem d37_19 : decode jdk_42_method_150_code 19 = .ok (.ifCond .eq 22, 3) := by decide +kernel
theorem d37_22 : decode jdk_42_method_150_code 22 = .ok (.aload_n 0, 1) := by decide +kernel
theorem d37_23 : decode jdk_42_method_150_code 23 = .ok (.iconst 0, 1) := by decide +kernel
theorem d37_24 : decode jdk_42_method_150_code 24 = .ok (.putfield 15, 3) := by decide +kernel
theorem d37_27 : decode jdk_42_method_150_code 27 = .ok (.aload_n 0, 1) := by decide +kernel
theorem d37_28 : decode jdk_42_method_150_code 28 = .ok (.aload_n 3, 1) := by decide +kernel
theorem d37_29 : decode jdk_42_method_150_code 29 = .ok (.iconst 0, 1) := by decide +kernel
theorem d37_30 : decode jdk_42_method_150_code 30 = .ok (.iload 4, 2) := by decide +kernel
theorem d37_32 : decode jdk_42_method_150_code 32 = .ok (.invokestatic 54, 3) := by decide +kernel
theorem d37_35 : decode jdk_42_method_150_code 35 = .ok (.putfield 9, 3) := by decide +kernel
theorem d37_38 : decode jdk_42_method_150_code 38 = .ok (.goto 59, 3) := by decide +kernel
theorem d37_41 : decode jdk_42_method_150_code 41 = .ok (.getstatic 38, 3) := by decide +kernel
theorem d37_44 : decode jdk_42_method_150_code 44 = .ok (.ifCond .eq 35, 3) := by decide +kernel
theorem d37_47 : decode jdk_42_method_150_code 47 = .ok (.aload_n 1, 1) := by decide +kernel
theorem d37_48 : decode jdk_42_method_150_code 48 = .ok (.getfield 1048, 3) := by decide +kernel
theorem d37_51 : decode jdk_42_method_150_code 51 = .ok (.ifCond .eq 28, 3) := by decide +kernel
theorem d37_54 : decode jdk_42_method_150_code 54 = .ok (.aload_n 0, 1) := by decide +kernel
theorem d37_55 : decode jdk_42_method_150_code 55 = .ok (.aload_n 3, 1) := by decide +kernel
theorem d37_56 : decode jdk_42_method_150_code 56 = .ok (.iconst 0, 1) := by decide +kernel
theorem d37_57 : decode jdk_42_method_150_code 57 = .ok (.iload 4, 2) := by decide +kernel
theorem d37_59 : decode jdk_42_method_150_code 59 = .ok (.invokestatic 1051, 3) := by decide +kernel
theorem d37_62 : decode jdk_42_method_150_code 62 = .ok (.putfield 9, 3) := by decide +kernel
theorem d37_65 : decode jdk_42_method_150_code 65 = .ok (.aload_n 0, 1) := by decide +kernel
theorem d37_66 : decode jdk_42_method_150_code 66 = .ok (.aload_n 0, 1) := by decide +kernel
theorem d37_67 : decode jdk_42_method_150_code 67 = .ok (.getfield 9, 3) := by decide +kernel
theorem d37_70 : decode jdk_42_method_150_code 70 = .ok (.iload 4, 2) := by decide +kernel
theorem d37_72 : decode jdk_42_method_150_code 72 = .ok (.invokestatic 47, 3) := by decide +kernel
theorem d37_75 : decode jdk_42_method_150_code 75 = .ok (.putfield 15, 3) := by decide +kernel
theorem d37_78 : decode jdk_42_method_150_code 78 = .ok (.return_, 1) := by decide +kernel
theorem d37_79 : decode jdk_42_method_150_code 79 = .ok (.aload_n 0, 1) := by decide +kernel
theorem d37_80 : decode jdk_42_method_150_code 80 = .ok (.iconst 1, 1) := by decide +kernel
theorem d37_81 : decode jdk_42_method_150_code 81 = .ok (.putfield 15, 3) := by decide +kernel
theorem d37_84 : decode jdk_42_method_150_code 84 = .ok (.aload_n 0, 1) := by decide +kernel
theorem d37_85 : decode jdk_42_method_150_code 85 = .ok (.aload_n 3, 1) := by decide +kernel
theorem d37_86 : decode jdk_42_method_150_code 86 = .ok (.iconst 0, 1) := by decide +kernel
theorem d37_87 : decode jdk_42_method_150_code 87 = .ok (.iload 4, 2) := by decide +kernel
theorem d37_89 : decode jdk_42_method_150_code 89 = .ok (.iconst 1, 1) := by decide +kernel
theorem d37_90 : decode jdk_42_method_150_code 90 = .ok (.ishl, 1) := by decide +kernel
theorem d37_91 : decode jdk_42_method_150_code 91 = .ok (.invokestatic 54, 3) := by decide +kernel
theorem d37_94 : decode jdk_42_method_150_code 94 = .ok (.putfield 9, 3) := by decide +kernel
theorem d37_97 : decode jdk_42_method_150_code 97 = .ok (.return_, 1) := by decide +kernel
theorem ef_rmS1 (m : MethodId) (r : Addr) (a : Addr) : entryFrame m #[(.ref r), (.ref a), .null] 5 = mkF m 0 #[.val (.ref r), .val (.ref a), .val .null, .unset, .unset] [] := by first | (simp [entryFrame, mkF, argsToLocals, Value.category, maxLocals]; done) | rfl
set_option maxRecDepth 65536 in
set_option maxHeartbeats 40000000 in
theorem rmS1 (l : Launch) (Z : State) (a0 : Array Value) (hw : ∀ d ∈ tables_1, d.before a0 Z = true) (ws : List Jvm.Cond) (r a v : Addr) (kv : ClassId) (n cz : Int32) (d : Nat) (h0 : Heap) (n0 : Nat) (Z0 : n0 ≤ h0.size) (Er : Exa Z h0 r "java/lang/String") (Rv : Fld Z h0 r "java/lang/String" "value" "[B" .null) (Rc : Fld Z h0 r "java/lang/String" "coder" "B" (.int 0)) (g_r : n0 ≤ r) (ne_a_r : a ≠ r) (ne_v_r : v ≠ r) (OS : OwnS Z h0 a v kv n d) (hd : d ≤ 12) (Sc : Sta Z h0 "java/lang/String" "COMPACT_STRINGS" "Z" (.int cz)) (hcz : ¬ cz = 0) :
    MetFree l (⟨"java/lang/String", "<init>", "(Ljava/lang/AbstractStringBuilder;Ljava/lang/Void;)V"⟩ : MethodName) (head1 (Jvm.Cond.code (⟨"java/lang/String", "<init>", "(Ljava/lang/AbstractStringBuilder;Ljava/lang/Void;)V"⟩ : MethodName) jdk_42_method_150_code (5 : Nat) (Option.none : Option Jvm.ClassFile.FieldType) :: ws) ({ frames := 3, cells := 1, slots := 12, locals := 71 } : Room)) (fun aZ UZ => aZ = #[(.ref r), (.ref a), .null] ∧ Z.Warmed39 UZ.vm ∧ UZ.heap = h0) (fun _ _ _ _ _ => True) (fun _ UZ oZ VZ => ∃ vZ LZ, oZ = .returned vZ ∧ (QK1 r h0 n0) vZ VZ.heap LZ ∧ FrameEnd UZ oZ VZ LZ ({ frames := 3, cells := 1, slots := 12, locals := 71 } : Room).cells ({ frames := 3, cells := 1, slots := 12, locals := 71 } : Room).slots) := by
  refine MetFree.of_bodySF (plainFor_of_name pn_7) hisR ?_
  intro p e s m args below meth c s₁ Bd hml0 hP hK
  obtain ⟨rfl, hZ, hh⟩ := hP
  have hx := Bd.exec
  have hby := Bd.bytes
  have hml : c.maxLocals = 5 := hml0
  have hown : s.vm.findClass "java/lang/String" = some m.cls := findClass_of_methodNamed Bd.named
  have hnm := (name_of_methodNamed Bd.named Bd.method).1
  have X0 : Stand p l e ({ frames := 3, cells := 1, slots := 12, locals := 71 } : Room) s m #[(.ref r), (.ref a), .null] below meth c s₁ [] 0 0 := Stand.of_body Bd
  have e0 : s₁.heap = h0 := by rw [← hh, Bd.state]; rfl
  have N0 := Fr.nil n0
  show OwnG p e below (OwnE s (QK1 r h0 n0) ({ frames := 3, cells := 1, slots := 12, locals := 71 } : Room).cells ({ frames := 3, cells := 1, slots := 12, locals := 71 } : Room).slots) _
  refine own_by (S' := s₁.setTop (mkF m 0 #[.val (.ref r), .val (.ref a), .val .null, .unset, .unset] [])) (fun tZ kZ => castTop (ef_rmS1 m r a) kZ) ?_
  obtain ⟨hnd, vs, B, hl, hfv⟩ := id OS
  obtain ⟨Ea, Fv, Fc, Fn, V_v, Ev⟩ := id B
  refine own_by (S' := s₁.setTop (mkF m 1 #[.val (.ref r), .val (.ref a), .val .null, .unset, .unset] [(.ref r)])) (fun tZ kZ => XS.aloadN X0.here hx rfl (hb hby d37_0) rfl rfl kZ) ?_
  obtain ⟨T1, X1, e1, st1⟩ := initO X0 hx hZ hown (hw_ hw 210 rfl) (hw_ hw 22 rfl) (hw_ hw 23 rfl) e0 (g := (mkF m 1 #[.val (.ref r), .val (.ref a), .val .null, .unset, .unset] [(.ref r)])) rfl (by rw [hml]; rfl) rfl (hb hby d37_1) (by decide) (W := 0) (by show 2 * 0 + _ ≤ _; exact Nat.le_of_eq rfl) (by decide)
  refine own_by (S' := T1.setTop (mkF m 4 #[.val (.ref r), .val (.ref a), .val .null, .unset, .unset] [])) st1 ?_
  refine own_by (S' := T1.setTop (mkF m 5 #[.val (.ref r), .val (.ref a), .val .null, .unset, .unset] [(.ref a)])) (fun tZ kZ => XS.aloadN X1.here hx rfl (hb hby d37_4) rfl rfl kZ) ?_
  obtain ⟨cq2, kq2, q2a, q2b, q2c⟩ := isOf hZ e1 Ea
  obtain ⟨_, _, ⟨T2, L2, k2, n2⟩, -, X2, ⟨Lc2, hQ2, l2, y2, z2⟩, st2⟩ := X1.virtualBack hx (y := (⟨"java/lang/AbstractStringBuilder", "getValue", "()[B"⟩ : MethodName)) (z := (⟨"java/lang/AbstractStringBuilder", "getValue", "()[B"⟩ : MethodName)) hown (mvT hZ (hw_ hw 211 rfl)) (mvT hZ (hw_ hw 212 rfl)) (notFace_of_selects (args := #[]) (mvT hZ (hw_ hw 214 rfl))) (mvT hZ (hw_ hw 214 rfl)) (mvT hZ (hw_ hw 213 rfl)) (by decide) (backOf (W := 0) (rmGV l Z a0 hw [] a v kv n vs h0 n0 Z0 B) hZ (hw_ hw 215 rfl) (hw_ hw 116 rfl) (by decide) (by decide)) q2a q2c (g := (mkF m 5 #[.val (.ref r), .val (.ref a), .val .null, .unset, .unset] [(.ref a)])) rfl (by rw [hml]; rfl) (Steps.refl _) (argsL := []) (rest := []) (lenOf pd_16 rfl) rfl (by show 2 * 0 + _ ≤ _; exact Nat.le_of_eq rfl) (hb hby d37_5) (fun _ _ => ⟨rfl, e1, (by decide : 0 + 0 ≤ _), (by decide : 0 + 0 ≤ _)⟩)
  dsimp only [Pt.U, Pt.locs, Pt.cells, Pt.slots] at X2 l2 y2 z2 st2 hQ2
  subst l2 y2 z2
  obtain ⟨rfl, N2q, heq2⟩ := hQ2
  have N2 := Fr.app N0 N2q
  refine own_by (S' := T2.setTop (mkF m 8 #[.val (.ref r), .val (.ref a), .val .null, .unset, .unset] [(.ref v)])) (fun tZ kZ => st2.trans kZ) ?_
  refine own_by (S' := T2.setTop (mkF m 9 #[.val (.ref r), .val (.ref a), .val .null, .val (.ref v), .unset] [])) (fun tZ kZ => XS.astoreN X2.here hx rfl (hb hby d37_8) rfl rfl (l' := #[.val (.ref r), .val (.ref a), .val .null, .val (.ref v), .unset]) rfl kZ) ?_
  refine own_by (S' := T2.setTop (mkF m 10 #[.val (.ref r), .val (.ref a), .val .null, .val (.ref v), .unset] [(.ref a)])) (fun tZ kZ => XS.aloadN X2.here hx rfl (hb hby d37_9) rfl rfl kZ) ?_
  obtain ⟨cq3, kq3, q3a, q3b, q3c⟩ := isOf hZ heq2 Ea
  obtain ⟨_, _, ⟨T3, L3, k3, n3⟩, -, X3, ⟨Lc3, hQ3, l3, y3, z3⟩, st3⟩ := X2.virtualBack hx (y := (⟨"java/lang/AbstractStringBuilder", "length", "()I"⟩ : MethodName)) (z := (⟨"java/lang/StringBuilder", "length", "()I"⟩ : MethodName)) hown (mvT hZ (hw_ hw 216 rfl)) (mvT hZ (hw_ hw 217 rfl)) (own_nf (mvT hZ (hw_ hw 148 rfl) (args := #[])) rfl) (mvT hZ (hw_ hw 219 rfl)) (mvT hZ (hw_ hw 220 rfl)) (by decide) (backOf (W := 0) (rmSN l Z a0 hw [] a v kv n vs h0 n0 Z0 B) hZ (hw_ hw 221 rfl) (hw_ hw 108 rfl) (by decide) (by decide)) q3a q3c (g := (mkF m 10 #[.val (.ref r), .val (.ref a), .val .null, .val (.ref v), .unset] [(.ref a)])) rfl (by rw [hml]; rfl) (Steps.refl _) (argsL := []) (rest := []) (lenOf pd_10 rfl) rfl (by show 2 * 0 + _ ≤ _; exact Nat.le_of_eq rfl) (hb hby d37_10) (fun _ _ => ⟨rfl, heq2, (by decide : 0 + 0 ≤ _), (by decide : 0 + 0 ≤ _)⟩)
  dsimp only [Pt.U, Pt.locs, Pt.cells, Pt.slots] at X3 l3 y3 z3 st3 hQ3
  subst l3 y3 z3
  obtain ⟨rfl, N3q, heq3⟩ := hQ3
  have N3 := Fr.app N2 N3q
  refine own_by (S' := T3.setTop (mkF m 13 #[.val (.ref r), .val (.ref a), .val .null, .val (.ref v), .unset] [(.int n)])) (fun tZ kZ => st3.trans kZ) ?_
  refine own_by (S' := T3.setTop (mkF m 15 #[.val (.ref r), .val (.ref a), .val .null, .val (.ref v), .val (.int n)] [])) (fun tZ kZ => XS.istore X3.here hx rfl (hb hby d37_13) rfl (l' := #[.val (.ref r), .val (.ref a), .val .null, .val (.ref v), .val (.int n)]) rfl kZ) ?_
  refine own_by (S' := T3.setTop (mkF m 16 #[.val (.ref r), .val (.ref a), .val .null, .val (.ref v), .val (.int n)] [(.ref a)])) (fun tZ kZ => XS.aloadN X3.here hx rfl (hb hby d37_15) rfl rfl kZ) ?_
  obtain ⟨cq4, kq4, q4a, q4b, q4c⟩ := isOf hZ heq3 Ea
  obtain ⟨_, _, ⟨T4, L4, k4, n4⟩, -, X4, ⟨Lc4, hQ4, l4, y4, z4⟩, st4⟩ := X3.virtualBack hx (y := (⟨"java/lang/AbstractStringBuilder", "isLatin1", "()Z"⟩ : MethodName)) (z := (⟨"java/lang/AbstractStringBuilder", "isLatin1", "()Z"⟩ : MethodName)) hown (mvT hZ (hw_ hw 224 rfl)) (mvT hZ (hw_ hw 146 rfl)) (notFace_of_selects (args := #[]) (mvT hZ (hw_ hw 148 rfl))) (mvT hZ (hw_ hw 148 rfl)) (mvT hZ (hw_ hw 147 rfl)) (by decide) (backOf (W := 0) (rmAL l Z a0 hw [] a cz h0 n0 Z0 Fc Sc hcz) hZ (hw_ hw 149 rfl) (hw_ hw 116 rfl) (by decide) (by decide)) q4a q4c (g := (mkF m 16 #[.val (.ref r), .val (.ref a), .val .null, .val (.ref v), .val (.int n)] [(.ref a)])) rfl (by rw [hml]; rfl) (Steps.refl _) (argsL := []) (rest := []) (lenOf pd_5 rfl) rfl (by show 2 * 0 + _ ≤ _; exact Nat.le_of_eq rfl) (hb hby d37_16) (fun _ _ => ⟨rfl, heq3, (by decide : 0 + 0 ≤ _), (by decide : 0 + 0 ≤ _)⟩)
  dsimp only [Pt.U, Pt.locs, Pt.cells, Pt.slots] at X4 l4 y4 z4 st4 hQ4
  subst l4 y4 z4
  obtain ⟨rfl, N4q, heq4⟩ := hQ4
  have N4 := Fr.app N3 N4q
  refine own_by (S' := T4.setTop (mkF m 19 #[.val (.ref r), .val (.ref a), .val .null, .val (.ref v), .val (.int n)] [(.int (1 : Int32))])) (fun tZ kZ => st4.trans kZ) ?_
  refine own_by (S' := T4.setTop (mkF m 22 #[.val (.ref r), .val (.ref a), .val .null, .val (.ref v), .val (.int n)] [])) (fun tZ kZ => XS.ifNo X4.here hx rfl (hb hby d37_19) rfl ((if0 _ _).trans (feq (by decide)).1) kZ) ?_
  refine own_by (S' := T4.setTop (mkF m 23 #[.val (.ref r), .val (.ref a), .val .null, .val (.ref v), .val (.int n)] [(.ref r)])) (fun tZ kZ => XS.aloadN X4.here hx rfl (hb hby d37_22) rfl rfl kZ) ?_
  refine own_by (S' := T4.setTop (mkF m 24 #[.val (.ref r), .val (.ref a), .val .null, .val (.ref v), .val (.int n)] [(.int (0 : Int32)), (.ref r)])) (fun tZ kZ => XS.iconst X4.here hx rfl (hb hby d37_23) kZ) ?_
  obtain ⟨T5, h5, X5, e5, W5, st5⟩ := putFN X4 hx hZ hown (hw_ hw 176 rfl) Via.refl heq4 Rc Er (Or.inr ⟨(hw_ hw 65 rfl), rfl, hnm⟩) (hw_ hw 62 rfl) (ty := .byte) (v' := (.int (0 : Int32))) (by decide) rfl rfl (g := (mkF m 24 #[.val (.ref r), .val (.ref a), .val .null, .val (.ref v), .val (.int n)] [(.int (0 : Int32)), (.ref r)])) rfl rfl (hb hby d37_24)
  have N5 := Fr.snoc X5 N4 g_r
  have Er_5 := Er.wr W5
  have Rv_5 := Rv.other W5 (Or.inr (slot_ne (Or.inr (hw_ hw 64 rfl)) (Or.inr (hw_ hw 65 rfl)) (by decide) (t := (.array .byte)) (t' := .byte) (by decide) (by decide)))
  have Rc_5 := Rc.same W5
  have V_v_5 := V_v.other W5 ne_v_r
  have Zs5 : n0 ≤ h5.size := Nat.le_trans Z0 (Keep.of_wr W5).1
  have K5 := (Keep.refl h0 [r]).wr W5 (Or.inl (List.mem_of_getElem? (i := 0) rfl))
  refine own_by (S' := T5.setTop (mkF m 27 #[.val (.ref r), .val (.ref a), .val .null, .val (.ref v), .val (.int n)] [])) st5 ?_
  refine own_by (S' := T5.setTop (mkF m 28 #[.val (.ref r), .val (.ref a), .val .null, .val (.ref v), .val (.int n)] [(.ref r)])) (fun tZ kZ => XS.aloadN X5.here hx rfl (hb hby d37_27) rfl rfl kZ) ?_
  refine own_by (S' := T5.setTop (mkF m 29 #[.val (.ref r), .val (.ref a), .val .null, .val (.ref v), .val (.int n)] [(.ref v), (.ref r)])) (fun tZ kZ => XS.aloadN X5.here hx rfl (hb hby d37_28) rfl rfl kZ) ?_
  refine own_by (S' := T5.setTop (mkF m 30 #[.val (.ref r), .val (.ref a), .val .null, .val (.ref v), .val (.int n)] [(.int (0 : Int32)), (.ref v), (.ref r)])) (fun tZ kZ => XS.iconst X5.here hx rfl (hb hby d37_29) kZ) ?_
  refine own_by (S' := T5.setTop (mkF m 32 #[.val (.ref r), .val (.ref a), .val .null, .val (.ref v), .val (.int n)] [(.int n), (.int (0 : Int32)), (.ref v), (.ref r)])) (fun tZ kZ => XS.iload X5.here hx rfl (hb hby d37_30) rfl kZ) ?_
  obtain ⟨_, _, ⟨T6, L6, k6, n6⟩, -, X6, ⟨Lc6, hQ6, l6, y6, z6⟩, st6⟩ := Jvm.LawKit.callS X5 hx (y := (⟨"java/util/Arrays", "copyOfRange", "([BII)[B"⟩ : MethodName)) hown (mvT hZ (hw_ hw 225 rfl)) (mvT hZ (hw_ hw 226 rfl)) (mvT hZ (hw_ hw 227 rfl)) (mvT hZ (hw_ hw 228 rfl)) (by decide) (backOf (W := 1) (rmCr l Z a0 hw [] v kv vs n d h5 n0 Zs5 V_v_5 hl hfv hnd hd) hZ (hw_ hw 228 rfl) (hw_ hw 227 rfl) (by decide) (by decide)) (g := (mkF m 32 #[.val (.ref r), .val (.ref a), .val .null, .val (.ref v), .val (.int n)] [(.int n), (.int (0 : Int32)), (.ref v), (.ref r)])) rfl (by rw [hml]; rfl) (argsL := [(.ref v), (.int (0 : Int32)), (.int n)]) (rest := [(.ref r)]) (lenOf pd_15 rfl) rfl (by show 2 * 0 + _ ≤ _; exact Nat.le_of_eq rfl) (hb hby d37_32) (fun _ _ => ⟨rfl, e5, (by decide : 0 + 1 ≤ _), (by decide : 0 + 12 ≤ _)⟩)
  dsimp only [Pt.U, Pt.locs, Pt.cells, Pt.slots] at X6 l6 y6 z6 st6 hQ6
  subst l6 y6 z6
  obtain ⟨bb, kb, wb, rfl, N6q, Kc6, sb6, Vb6⟩ := hQ6
  have N6 := Fr.app N5 N6q
  have Zs6 := Nat.le_trans Zs5 Kc6.1
  have Ec6 := own_ext0 Kc6
  have K6 := K5.ext Ec6
  have Er_6 := Er_5.ext Ec6
  have Rv_6 := Rv_5.ext Ec6
  have Rc_6 := Rc_5.ext Ec6
  have V_v_6 := V_v_5.ext Ec6
  refine own_by (S' := T6.setTop (mkF m 35 #[.val (.ref r), .val (.ref a), .val .null, .val (.ref v), .val (.int n)] [(.ref bb), (.ref r)])) (fun tZ kZ => st6 _ kZ) ?_
  obtain ⟨T7, h7, X7, e7, W7, st7⟩ := putF X6 hx hZ hown (host := "") (Or.inl (hw_ hw 169 rfl)) Via.refl rfl Rv_6 Er_6 (Or.inr ⟨(hw_ hw 64 rfl), rfl, hnm⟩) (hw_ hw 62 rfl) (ty := (.array .byte)) (by decide) rfl rfl (g := (mkF m 35 #[.val (.ref r), .val (.ref a), .val .null, .val (.ref v), .val (.int n)] [(.ref bb), (.ref r)])) rfl rfl (hb hby d37_35)
  have N7 := Fr.snoc X7 N6 g_r
  have Er_7 := Er_6.wr W7
  have Rv_7 := Rv_6.same W7
  have Rc_7 := Rc_6.other W7 (Or.inr (slot_ne (Or.inr (hw_ hw 65 rfl)) (Or.inr (hw_ hw 64 rfl)) (by decide) (t := .byte) (t' := (.array .byte)) (by decide) (by decide)))
  have V_v_7 := V_v_6.other W7 ne_v_r
  have Zs7 : n0 ≤ h7.size := Nat.le_trans Zs6 (Keep.of_wr W7).1
  have K7 := K6.wr W7 (Or.inl (List.mem_of_getElem? (i := 0) rfl))
  refine own_by (S' := T7.setTop (mkF m 38 #[.val (.ref r), .val (.ref a), .val .null, .val (.ref v), .val (.int n)] [])) st7 ?_
  refine own_by (S' := T7.setTop (mkF m 97 #[.val (.ref r), .val (.ref a), .val .null, .val (.ref v), .val (.int n)] [])) (fun tZ kZ => XS.goto X7.here hx rfl (pc0 := 38) (pc' := 97) rfl (hb hby d37_38) (by decide) (by decide) kZ) ?_
  exact own_ret0 X7 hx Bd.returns (hb hby d37_97) Bd.notSynchronized (by decide) (by decide) (show QK1 r h0 n0 none T7.heap _ from by rw [e7]; exact ⟨rfl, N7, K7⟩)
theorem d36_0 : decode jdk_42_method_53_code 0 = .ok (.aload_n 0, 1) := by decide +kernel
theorem d36_1 : decode jdk_42_method_53_code 1 = .ok (.aload_n 1, 1) := by decide +kernel
theorem d36_2 : decode jdk_42_method_53_code 2 = .ok (.aconst_null, 1) := by decide +kernel
theorem d36_3 : decode jdk_42_method_53_code 3 = .ok (.invokespecial 489, 3) := by decide +kernel
theorem d36_6 : decode jdk_42_method_53_code 6 = .ok (.return_, 1) := by decide +kernel
theorem ef_rmS2 (m : MethodId) (r : Addr) (a : Addr) : entryFrame m #[(.ref r), (.ref a)] 2 = mkF m 0 #[.val (.ref r), .val (.ref a)] [] := by first | (simp [entryFrame, mkF, argsToLocals, Value.category, maxLocals]; done) | rfl
set_option maxRecDepth 65536 in
set_option maxHeartbeats 40000000 in
theorem rmS2 (l : Launch) (Z : State) (a0 : Array Value) (hw : ∀ d ∈ tables_1, d.before a0 Z = true) (ws : List Jvm.Cond) (r a v : Addr) (kv : ClassId) (n cz : Int32) (d : Nat) (h0 : Heap) (n0 : Nat) (Z0 : n0 ≤ h0.size) (Er : Exa Z h0 r "java/lang/String") (Rv : Fld Z h0 r "java/lang/String" "value" "[B" .null) (Rc : Fld Z h0 r "java/lang/String" "coder" "B" (.int 0)) (g_r : n0 ≤ r) (ne_a_r : a ≠ r) (ne_v_r : v ≠ r) (OS : OwnS Z h0 a v kv n d) (hd : d ≤ 12) (Sc : Sta Z h0 "java/lang/String" "COMPACT_STRINGS" "Z" (.int cz)) (hcz : ¬ cz = 0) :
    MetFree l (⟨"java/lang/String", "<init>", "(Ljava/lang/StringBuilder;)V"⟩ : MethodName) (head1 (Jvm.Cond.code (⟨"java/lang/String", "<init>", "(Ljava/lang/StringBuilder;)V"⟩ : MethodName) jdk_42_method_53_code (2 : Nat) (Option.none : Option Jvm.ClassFile.FieldType) :: ws) ({ frames := 4, cells := 1, slots := 12, locals := 87 } : Room)) (fun aZ UZ => aZ = #[(.ref r), (.ref a)] ∧ Z.Warmed39 UZ.vm ∧ UZ.heap = h0) (fun _ _ _ _ _ => True) (fun _ UZ oZ VZ => ∃ vZ LZ, oZ = .returned vZ ∧ (QK1 r h0 n0) vZ VZ.heap LZ ∧ FrameEnd UZ oZ VZ LZ ({ frames := 4, cells := 1, slots := 12, locals := 87 } : Room).cells ({ frames := 4, cells := 1, slots := 12, locals := 87 } : Room).slots) := by
  refine MetFree.of_bodySF (plainFor_of_name pn_7) hisR ?_
  intro p e s m args below meth c s₁ Bd hml0 hP hK
  obtain ⟨rfl, hZ, hh⟩ := hP
  have hx := Bd.exec
  have hby := Bd.bytes
  have hml : c.maxLocals = 2 := hml0
  have hown : s.vm.findClass "java/lang/String" = some m.cls := findClass_of_methodNamed Bd.named
  have hnm := (name_of_methodNamed Bd.named Bd.method).1
  have X0 : Stand p l e ({ frames := 4, cells := 1, slots := 12, locals := 87 } : Room) s m #[(.ref r), (.ref a)] below meth c s₁ [] 0 0 := Stand.of_body Bd
  have e0 : s₁.heap = h0 := by rw [← hh, Bd.state]; rfl
  have N0 := Fr.nil n0
  show OwnG p e below (OwnE s (QK1 r h0 n0) ({ frames := 4, cells := 1, slots := 12, locals := 87 } : Room).cells ({ frames := 4, cells := 1, slots := 12, locals := 87 } : Room).slots) _
  refine own_by (S' := s₁.setTop (mkF m 0 #[.val (.ref r), .val (.ref a)] [])) (fun tZ kZ => castTop (ef_rmS2 m r a) kZ) ?_
  refine own_by (S' := s₁.setTop (mkF m 1 #[.val (.ref r), .val (.ref a)] [(.ref r)])) (fun tZ kZ => XS.aloadN X0.here hx rfl (hb hby d36_0) rfl rfl kZ) ?_
  refine own_by (S' := s₁.setTop (mkF m 2 #[.val (.ref r), .val (.ref a)] [(.ref a), (.ref r)])) (fun tZ kZ => XS.aloadN X0.here hx rfl (hb hby d36_1) rfl rfl kZ) ?_
  refine own_by (S' := s₁.setTop (mkF m 3 #[.val (.ref r), .val (.ref a)] [.null, (.ref a), (.ref r)])) (fun tZ kZ => XS.aconstNull X0.here hx rfl (hb hby d36_2) kZ) ?_
  obtain ⟨_, _, ⟨T1, L1, k1, n1⟩, -, X1, ⟨Lc1, hQ1, l1, y1, z1⟩, st1⟩ := X0.specialBack hx (y := (⟨"java/lang/String", "<init>", "(Ljava/lang/AbstractStringBuilder;Ljava/lang/Void;)V"⟩ : MethodName)) rfl hown (mvT hZ (hw_ hw 207 rfl)) (mvT hZ (hw_ hw 208 rfl)) (mvT hZ (hw_ hw 209 rfl)) (by decide) (backOf (W := 0) (rmS1 l Z a0 hw [] r a v kv n cz d h0 n0 Z0 Er Rv Rc g_r ne_a_r ne_v_r OS hd Sc hcz) hZ (hw_ hw 209 rfl) (hw_ hw 61 rfl) (by decide) (by decide)) (g := (mkF m 3 #[.val (.ref r), .val (.ref a)] [.null, (.ref a), (.ref r)])) rfl (by rw [hml]; rfl) (Steps.refl _) (a := r) (argsL := [(.ref a), .null]) (rest := []) (lenOf pd_17 rfl) rfl (by show 2 * 0 + _ ≤ _; exact Nat.le_of_eq rfl) (hb hby d36_3) (fun _ _ => ⟨rfl, e0, (by decide : 0 + 1 ≤ _), (by decide : 0 + 12 ≤ _)⟩)
  dsimp only [Pt.U, Pt.locs, Pt.cells, Pt.slots] at X1 l1 y1 z1 st1 hQ1
  subst l1 y1 z1
  obtain ⟨rfl, N1q, R1⟩ := hQ1
  have N1 := Fr.app N0 N1q
  refine own_by (S' := T1.setTop (mkF m 6 #[.val (.ref r), .val (.ref a)] [])) (fun tZ kZ => st1.trans kZ) ?_
  exact own_ret0 X1 hx Bd.returns (hb hby d36_6) Bd.notSynchronized (by decide) (by decide) ⟨rfl, N1, R1⟩
theorem d35_0 : decode jdk_67_method_42_code 0 = .ok (.new 18, 3) := by decide +kernel
theorem d35_3 : decode jdk_67_method_42_code 3 = .ok (.dup, 1) := by decide +kernel
theorem d35_4 : decode jdk_67_method_42_code 4 = .ok (.aload_n 0, 1) := by decide +kernel
theorem d35_5 : decode jdk_67_method_42_code 5 = .ok (.invokespecial 137, 3) := by decide +kernel
theorem d35_8 : decode jdk_67_method_42_code 8 = .ok (.areturn, 1) := by decide +kernel
theorem ef_rmTs (m : MethodId) (a : Addr) : entryFrame m #[(.ref a)] 1 = mkF m 0 #[.val (.ref a)] [] := by first | (simp [entryFrame, mkF, argsToLocals, Value.category, maxLocals]; done) | rfl
set_option maxRecDepth 65536 in
set_option maxHeartbeats 40000000 in
theorem rmTs (l : Launch) (Z : State) (a0 : Array Value) (hw : ∀ d ∈ tables_1, d.before a0 Z = true) (ws : List Jvm.Cond) (a v : Addr) (kv : ClassId) (n cz : Int32) (d : Nat) (h0 : Heap) (n0 : Nat) (Z0 : n0 ≤ h0.size) (OS : OwnS Z h0 a v kv n d) (hd : d ≤ 12) (Sc : Sta Z h0 "java/lang/String" "COMPACT_STRINGS" "Z" (.int cz)) (hcz : ¬ cz = 0) :
    MetFree l (⟨"java/lang/StringBuilder", "toString", "()Ljava/lang/String;"⟩ : MethodName) (head1 (Jvm.Cond.code (⟨"java/lang/StringBuilder", "toString", "()Ljava/lang/String;"⟩ : MethodName) jdk_67_method_42_code (1 : Nat) (Option.some (Jvm.ClassFile.FieldType.object "java/lang/String")) :: ws) ({ frames := 5, cells := 2, slots := 16, locals := 101 } : Room)) (fun aZ UZ => aZ = #[(.ref a)] ∧ Z.Warmed39 UZ.vm ∧ UZ.heap = h0) (fun _ _ _ _ _ => True) (fun _ UZ oZ VZ => ∃ vZ LZ, oZ = .returned vZ ∧ (QRef  h0 n0) vZ VZ.heap LZ ∧ FrameEnd UZ oZ VZ LZ ({ frames := 5, cells := 2, slots := 16, locals := 101 } : Room).cells ({ frames := 5, cells := 2, slots := 16, locals := 101 } : Room).slots) := by
  refine MetFree.of_bodySF (plainFor_of_name pn_8) hisR ?_
  intro p e s m args below meth c s₁ Bd hml0 hP hK
  obtain ⟨rfl, hZ, hh⟩ := hP
  have hx := Bd.exec
  have hby := Bd.bytes
  have hml : c.maxLocals = 1 := hml0
  have hown : s.vm.findClass "java/lang/StringBuilder" = some m.cls := findClass_of_methodNamed Bd.named
  have hnm := (name_of_methodNamed Bd.named Bd.method).1
  have X0 : Stand p l e ({ frames := 5, cells := 2, slots := 16, locals := 101 } : Room) s m #[(.ref a)] below meth c s₁ [] 0 0 := Stand.of_body Bd
  have e0 : s₁.heap = h0 := by rw [← hh, Bd.state]; rfl
  have N0 := Fr.nil n0
  show OwnG p e below (OwnE s (QRef  h0 n0) ({ frames := 5, cells := 2, slots := 16, locals := 101 } : Room).cells ({ frames := 5, cells := 2, slots := 16, locals := 101 } : Room).slots) _
  refine own_by (S' := s₁.setTop (mkF m 0 #[.val (.ref a)] [])) (fun tZ kZ => castTop (ef_rmTs m a) kZ) ?_
  obtain ⟨hnd, vs, B, hl, hfv⟩ := id OS
  obtain ⟨T1, h1, X1, e1, E1, A1, D1, U1, st1⟩ := newO X0 hx hZ hown (hw_ hw 202 rfl) (hw_ hw 62 rfl) (hw_ hw 61 rfl) e0 (g := (mkF m 0 #[.val (.ref a)] [])) rfl (hb hby d35_0) (by decide) (by decide)
  obtain ⟨b1, g1⟩ : ∃ z, z = h0.size := ⟨_, rfl⟩
  rw [← g1] at A1 D1 U1 st1
  have g_b1 : n0 ≤ b1 := Nat.le_trans Z0 (Nat.le_of_eq g1.symm)
  have sz_b1 : h0.size ≤ b1 := Nat.le_trans (Keep.refl h0 []).1 (Nat.le_of_eq g1.symm)
  have Zs1 : n0 ≤ h1.size := Nat.le_trans Z0 E1.1
  have K1 := (Keep.refl h0 []).ext E1
  have Ex_b1 := A1
  have F_value_b1 : Fld Z h1 b1 "java/lang/String" "value" "[B" .null := D1 (Or.inr (hw_ hw 64 rfl)) (ty := (.array .byte)) (by decide)
  have F_coder_b1 : Fld Z h1 b1 "java/lang/String" "coder" "B" (.int (0 : Int32)) := D1 (Or.inr (hw_ hw 65 rfl)) (ty := .byte) (by decide)
  refine own_by (S' := T1.setTop (mkF m 3 #[.val (.ref a)] [(.ref b1)])) st1 ?_
  refine own_by (S' := T1.setTop (mkF m 4 #[.val (.ref a)] [(.ref b1), (.ref b1)])) (fun tZ kZ => XS.dup X1.here hx rfl (hb hby d35_3) rfl rfl kZ) ?_
  refine own_by (S' := T1.setTop (mkF m 5 #[.val (.ref a)] [(.ref a), (.ref b1), (.ref b1)])) (fun tZ kZ => XS.aloadN X1.here hx rfl (hb hby d35_4) rfl rfl kZ) ?_
  have OSx : OwnS Z h1 a v kv n d := ⟨hnd, vs, B.ext E1, hl, hfv⟩
  have na : a ≠ b1 := Nat.ne_of_lt (Nat.lt_of_lt_of_le B.1.lt (Nat.le_of_eq g1.symm))
  have nv : v ≠ b1 := Nat.ne_of_lt (Nat.lt_of_lt_of_le B.2.2.2.2.1.lt (Nat.le_of_eq g1.symm))
  obtain ⟨_, _, ⟨T2, L2, k2, n2⟩, -, X2, ⟨Lc2, hQ2, l2, y2, z2⟩, st2⟩ := X1.specialBack hx (y := (⟨"java/lang/String", "<init>", "(Ljava/lang/StringBuilder;)V"⟩ : MethodName)) rfl hown (mvT hZ (hw_ hw 203 rfl)) (mvT hZ (hw_ hw 204 rfl)) (mvT hZ (hw_ hw 206 rfl)) (by decide) (backOf (W := 1) (rmS2 l Z a0 hw [] b1 a v kv n cz d h1 n0 Zs1 Ex_b1 F_value_b1 F_coder_b1 g_b1 na nv OSx hd (Sc.ext E1) hcz) hZ (hw_ hw 206 rfl) (hw_ hw 61 rfl) (by decide) (by decide)) (g := (mkF m 5 #[.val (.ref a)] [(.ref a), (.ref b1), (.ref b1)])) rfl (by rw [hml]; rfl) (Steps.refl _) (a := b1) (argsL := [(.ref a)]) (rest := [(.ref b1)]) (lenOf pd_18 rfl) rfl (by show 2 * 0 + _ ≤ _; exact Nat.le_of_eq rfl) (hb hby d35_5) (fun _ _ => ⟨rfl, e1, (by decide : 1 + 1 ≤ _), (by decide : 4 + 12 ≤ _)⟩)
  dsimp only [Pt.U, Pt.locs, Pt.cells, Pt.slots] at X2 l2 y2 z2 st2 hQ2
  subst l2 y2 z2
  obtain ⟨rfl, N2q, Kc2⟩ := hQ2
  have N2 := Fr.app N0 N2q
  have Zs2 := Nat.le_trans Zs1 Kc2.1
  have K2 := K1.trans Kc2 (fun x hx => by
      simp only [List.mem_cons, List.not_mem_nil, or_false] at hx
      rcases hx with rfl
      · exact Or.inr sz_b1)
  have Ex_b1_2 := Ex_b1.keep Kc2
  refine own_by (S' := T2.setTop (mkF m 8 #[.val (.ref a)] [(.ref b1)])) (fun tZ kZ => st2.trans kZ) ?_
  exact own_retA X2 hx Bd.returns rfl rfl (hb hby d35_8) Bd.notSynchronized (by decide) (by decide) ⟨b1, rfl, N2, K2⟩
def own_sig : Jvm.Lambda.Shape := (Jvm.Lambda.Shape.mk "java/util/function/IntConsumer" "accept" (Jvm.ClassFile.MethodDescriptor.mk ([Jvm.ClassFile.FieldType.int] : List Jvm.ClassFile.FieldType) (Option.none : Option Jvm.ClassFile.FieldType)) ([] : List Jvm.ClassFile.FieldType) (6 : Nat) "com/example/tidewatch/tidewatch/core/PolicySettings" "checkInterval" (Jvm.ClassFile.MethodDescriptor.mk ([Jvm.ClassFile.FieldType.int] : List Jvm.ClassFile.FieldType) (Option.none : Option Jvm.ClassFile.FieldType)) true (Jvm.ClassFile.MethodDescriptor.mk ([Jvm.ClassFile.FieldType.int] : List Jvm.ClassFile.FieldType) (Option.none : Option Jvm.ClassFile.FieldType)))
set_option maxRecDepth 100000 in
def own_fc : ByteArray := ⟨#[0x1b, 0xb8, 0x00, 0x11, 0xb1]⟩
set_option maxRecDepth 100000 in
theorem own_fok : ownOkI own_sig "com/example/tidewatch/tidewatch/core/TidewatchPolicy$Settings" own_fc 2 none 17 14 = true := by decide +kernel
theorem own_f0 : decode own_fc 0 = .ok (.iload_n 1, 1) := by decide +kernel
theorem own_f1 : decode own_fc 1 = .ok (.invokestatic 17, 3) := by decide +kernel
theorem own_f4 : decode own_fc 4 = .ok (.return_, 1) := by decide +kernel
theorem OwnS.ext {Z : State} {h h' : Heap} {a v : Addr} {kv : ClassId} {n : Int32} {d : Nat} (F : OwnS Z h a v kv n d) (E : Ext h h') : OwnS Z h' a v kv n d := by
  obtain ⟨h1, vs, B, h2, h3⟩ := F
  exact ⟨h1, vs, B.ext E, h2, h3⟩
theorem OwnS.lt {Z : State} {h : Heap} {a v : Addr} {kv : ClassId} {n : Int32} {d : Nat} (F : OwnS Z h a v kv n d) : a < h.size := by
  obtain ⟨h1, vs, B, h2, h3⟩ := F
  exact B.1.lt
theorem own_ntu {Z : State} {h : Heap} {a v tu : Addr} {kv ku : ClassId} {n : Int32} {d : Nat} (F : OwnS Z h a v kv n d) (V : OwnA Z h tu ku .byte [.int 32, .int 115]) : tu ≠ v := by
  obtain ⟨h1, vs, B, h2, h3⟩ := F
  intro q
  subst q
  have r := V.one B.2.2.2.2.1
  rw [← r] at h2
  simp at h2
theorem own_ge1 {x : Int32} (h : 1 ≤ x.toInt) : ¬ x.toInt64 < 1 := by
  rw [own_ltL, c_i2l]
  have e : (1 : Int64).toInt = 1 := rfl
  omega
theorem own_i2l0 {x y : Int32} : x = x := rfl
theorem d11_0 : decode prog_52_method_2_code 0 = .ok (.ldc 3, 2) := by decide +kernel
theorem d11_2 : decode prog_52_method_2_code 2 = .ok (.iload_n 0, 1) := by decide +kernel
theorem d11_3 : decode prog_52_method_2_code 3 = .ok (.i2l, 1) := by decide +kernel
theorem d11_4 : decode prog_52_method_2_code 4 = .ok (.invokestatic 5, 3) := by decide +kernel
theorem d11_7 : decode prog_52_method_2_code 7 = .ok (.return_, 1) := by decide +kernel
theorem pn_10 : plainName "com/example/tidewatch/tidewatch/core/PolicySettings" = true := by first | (simp [plainName, overriddenIn]; done) | decide +kernel
theorem ef_rmCI (m : MethodId) (x : Int32) : entryFrame m #[(.int x)] 1 = mkF m 0 #[.val (.int x)] [] := by first | (simp [entryFrame, mkF, argsToLocals, Value.category, maxLocals]; done) | rfl
set_option maxRecDepth 65536 in
set_option maxHeartbeats 40000000 in
theorem rmCI (l : Launch) (Z : State) (a0 : Array Value) (hw : ∀ d ∈ tables_1, d.before a0 Z = true) (ws : List Jvm.Cond) (x : Int32) (h0 : Heap) (n0 : Nat) (Z0 : n0 ≤ h0.size) (EZ : Ext Z.heap h0) (HC : ∀ q ∈ consts_1, Jvm.Lit.constHeld Z q.1 q.2) (hcw : Jvm.Lit.compactW.before a0 Z = true) (hn0 : n0 = h0.size) (hx1 : 1 ≤ x.toInt) :
    MetFree l (⟨"com/example/tidewatch/tidewatch/core/PolicySettings", "checkInterval", "(I)V"⟩ : MethodName) (head1 (Jvm.Cond.code (⟨"com/example/tidewatch/tidewatch/core/PolicySettings", "checkInterval", "(I)V"⟩ : MethodName) prog_52_method_2_code (1 : Nat) (Option.none : Option Jvm.ClassFile.FieldType) :: ws) ({ frames := 1, cells := 2, slots := 64, locals := 14 } : Room)) (fun aZ UZ => aZ = #[(.int x)] ∧ Z.WarmedH UZ.vm ∧ UZ.heap = h0) (fun _ _ _ _ _ => True) (fun _ UZ oZ VZ => ∃ vZ LZ, oZ = .returned vZ ∧ ((QK0  h0 n0) vZ VZ.heap LZ ∧ IB Z VZ.vm ["intervalSeconds"]) ∧ ReturnedEndW UZ oZ VZ LZ ({ frames := 1, cells := 2, slots := 64, locals := 14 } : Room).cells ({ frames := 1, cells := 2, slots := 64, locals := 14 } : Room).slots) := by
  refine MetFree.of_bodySF (plainFor_of_name pn_10) hisR ?_
  intro p e s m args below meth c s₁ Bd hml0 hP hK
  obtain ⟨rfl, hZH, hh⟩ := hP
  have hZ : Z.Warmed39 s.vm := hZH.wide
  have hx := Bd.exec
  have hby := Bd.bytes
  have hml : c.maxLocals = 1 := hml0
  have hown : s.vm.findClass "com/example/tidewatch/tidewatch/core/PolicySettings" = some m.cls := findClass_of_methodNamed Bd.named
  have hnm := (name_of_methodNamed Bd.named Bd.method).1
  have X0 : Stand p l e ({ frames := 1, cells := 2, slots := 64, locals := 14 } : Room) (s.setVm s.vm) m #[(.int x)] below meth c s₁ [] 0 0 := Stand.of_body Bd
  have e0 : s₁.heap = h0 := by rw [← hh, Bd.state]; rfl
  have N0 := Fr.nil n0
  show OwnG p e below (OwnEV s (QK0  h0 n0) (fun vZ => IB Z vZ ["intervalSeconds"]) ({ frames := 1, cells := 2, slots := 64, locals := 14 } : Room).cells ({ frames := 1, cells := 2, slots := 64, locals := 14 } : Room).slots) _
  refine own_by (S' := s₁.setTop (mkF m 0 #[.val (.int x)] [])) (fun tZ kZ => castTop (ef_rmCI m x) kZ) ?_
  have hS0 : s.Since s.vm 0 := State.WarmedH.since (State.WarmedH.refl s) 0
  have hk0 : 0 ≤ h0.size := Nat.zero_le _
  have hZ0 : Z.Warmed39 (s.setVm s.vm).vm := hZ
  have hown0 : (s.setVm s.vm).vm.findClass "com/example/tidewatch/tidewatch/core/PolicySettings" = some m.cls := hown
  have hZH0 : Z.WarmedH (s.setVm s.vm).vm := hZH
  have hI0 : IB Z (s.setVm s.vm).vm [] := own_ib0 hZH
  obtain ⟨sy, T1, h1, k1, t_sy, kc_sy, X1, e1, E1, hS1, hk1, hZ1, hown1, Ge_sy, Co_sy, Va_sy, Ar_sy, -, -, hI1, st1⟩ := ldcSV X0 hx hZ0 hown0 (hw_ hw 60 rfl) (own_str hw) e0 hS0 hk0 (by rw [hh, ← hn0]; exact N0) (fun bZ cZ qZ => by rw [hh]; exact EZ.2 bZ cZ qZ) hI0 (by decide) (HC ("com/example/tidewatch/tidewatch/core/PolicySettings", 3) (List.mem_of_getElem? (i := 0) rfl)) hcw (vs := [.int 105, .int 110, .int 116, .int 101, .int 114, .int 118, .int 97, .int 108, .int 83, .int 101, .int 99, .int 111, .int 110, .int 100, .int 115]) (z := 15) ⟨by decide +kernel, by decide +kernel⟩ (by decide) (by decide) (g := (mkF m 0 #[.val (.int x)] [])) rfl (hb hby d11_0) (n := 60) (by decide) (by decide) (by decide) (by decide)
  have Zs1 : n0 ≤ h1.size := Nat.le_trans Z0 E1.1
  have K1 := (Keep.refl h0 []).ext E1
  refine own_by (S' := T1.setTop (mkF m 2 #[.val (.int x)] [(.ref sy)])) st1 ?_
  refine own_by (S' := T1.setTop (mkF m 3 #[.val (.int x)] [(.int x), (.ref sy)])) (fun tZ kZ => XS.iloadN X1.here hx rfl (hb hby d11_2) rfl kZ) ?_
  refine own_by (S' := T1.setTop (mkF m 4 #[.val (.int x)] [(.long (x.toInt64)), (.ref sy)])) (fun tZ kZ => XS.i2l X1.here hx rfl (hb hby d11_3) rfl kZ) ?_
  obtain ⟨_, _, ⟨T2, L2, k2, n2⟩, -, X2, ⟨Lc2, hQ2, l2, y2, z2⟩, st2⟩ := Jvm.LawKit.callS X1 hx (y := (⟨"com/example/tidewatch/tidewatch/core/SettingChecks", "atLeastOne", "(Ljava/lang/String;J)V"⟩ : MethodName)) hown1 (mvT hZ1 (hw_ hw 68 rfl)) (mvT hZ1 (hw_ hw 69 rfl)) (mvT hZ1 (hw_ hw 70 rfl)) (mvT hZ1 (hw_ hw 71 rfl)) (by decide) (backOf (W := 0) (rmAl l Z a0 hw [] sy x.toInt64 h1 n0 Zs1 (own_ge1 hx1)) hZ1 (hw_ hw 71 rfl) (hw_ hw 70 rfl) (by decide) (by decide)) (g := (mkF m 4 #[.val (.int x)] [(.long (x.toInt64)), (.ref sy)])) rfl (by rw [hml]; rfl) (argsL := [(.ref sy), (.long (x.toInt64))]) (rest := []) (lenOf pd_19 rfl) rfl (by show 2 * 0 + _ ≤ _; exact Nat.le_of_eq rfl) (hb hby d11_4) (fun _ _ => ⟨rfl, e1, (by decide : 2 + 0 ≤ _), (by decide : 64 + 0 ≤ _)⟩)
  dsimp only [Pt.U, Pt.locs, Pt.cells, Pt.slots] at X2 l2 y2 z2 st2 hQ2
  subst l2 y2 z2
  obtain ⟨rfl, N2q, heq2⟩ := hQ2
  have N2 := Fr.app N0 N2q
  refine own_by (S' := T2.setTop (mkF m 7 #[.val (.int x)] [])) (fun tZ kZ => st2 _ kZ) ?_
  exact own_ret0V X2 hS1 (by rw [heq2]; exact hk1) hx Bd.returns (hb hby d11_7) Bd.notSynchronized (by decide) (by decide) (show QK0 h0 n0 none T2.heap _ from by rw [heq2]; exact ⟨rfl, N2, K1⟩) (own_ib hI1 X2.warmed)
theorem d10_0 : decode jdk_2649_method_8_code 0 = .ok (.aload_n 0, 1) := by decide +kernel
theorem d10_1 : decode jdk_2649_method_8_code 1 = .ok (.getfield 7, 3) := by decide +kernel
theorem d10_4 : decode jdk_2649_method_8_code 4 = .ok (.ifCond .eq 13, 3) := by decide +kernel
theorem d10_7 : decode jdk_2649_method_8_code 7 = .ok (.aload_n 1, 1) := by decide +kernel
theorem d10_8 : decode jdk_2649_method_8_code 8 = .ok (.aload_n 0, 1) := by decide +kernel
theorem d10_9 : decode jdk_2649_method_8_code 9 = .ok (.getfield 13, 3) := by decide +kernel
theorem d10_12 : decode jdk_2649_method_8_code 12 = .ok (.invokeinterface 31 2, 5) := by decide +kernel
theorem d10_17 : decode jdk_2649_method_8_code 17 = .ok (.return_, 1) := by decide +kernel
theorem ef_rmIP (m : MethodId) (o : Addr) (fn : Addr) : entryFrame m #[(.ref o), (.ref fn)] 2 = mkF m 0 #[.val (.ref o), .val (.ref fn)] [] := by first | (simp [entryFrame, mkF, argsToLocals, Value.category, maxLocals]; done) | rfl
set_option maxRecDepth 65536 in
set_option maxHeartbeats 40000000 in
theorem rmIP (l : Launch) (Z : State) (a0 : Array Value) (hw : ∀ d ∈ tables_1, d.before a0 Z = true) (ws : List Jvm.Cond) (o fn : Addr) (x : Int32) (cK : ClassId) (h0 : Heap) (n0 : Nat) (Z0 : n0 ≤ h0.size) (EZ : Ext Z.heap h0) (HC : ∀ q ∈ consts_1, Jvm.Lit.constHeld Z q.1 q.2) (hcw : Jvm.Lit.compactW.before a0 Z = true) (O : OwnOp Z h0 o x) (hx1 : 1 ≤ x.toInt) (hmd : Jvm.LamKit.Made Z "com/example/tidewatch/tidewatch/core/TidewatchPolicy$Settings" own_sig cK) (hfn : Jvm.LamKit.FnAt h0 fn cK) :
    MetFree l (⟨"java/util/OptionalInt", "ifPresent", "(Ljava/util/function/IntConsumer;)V"⟩ : MethodName) (head1 (Jvm.Cond.code (⟨"java/util/OptionalInt", "ifPresent", "(Ljava/util/function/IntConsumer;)V"⟩ : MethodName) jdk_2649_method_8_code (2 : Nat) (Option.none : Option Jvm.ClassFile.FieldType) :: ws) ({ frames := 3, cells := 2, slots := 64, locals := 39 } : Room)) (fun aZ UZ => aZ = #[(.ref o), (.ref fn)] ∧ Z.WarmedH UZ.vm ∧ UZ.heap = h0) (fun _ _ _ _ _ => True) (fun _ UZ oZ VZ => ∃ vZ LZ, oZ = .returned vZ ∧ ((QK0  h0 n0) vZ VZ.heap LZ ∧ IB Z VZ.vm ["intervalSeconds"]) ∧ ReturnedEndW UZ oZ VZ LZ ({ frames := 3, cells := 2, slots := 64, locals := 39 } : Room).cells ({ frames := 3, cells := 2, slots := 64, locals := 39 } : Room).slots) := by
  refine MetFree.of_bodySF (plainFor_of_name pn_1) hisR ?_
  intro p e s m args below meth c s₁ Bd hml0 hP hK
  obtain ⟨rfl, hZH, hh⟩ := hP
  have hZ : Z.Warmed39 s.vm := hZH.wide
  have hx := Bd.exec
  have hby := Bd.bytes
  have hml : c.maxLocals = 2 := hml0
  have hown : s.vm.findClass "java/util/OptionalInt" = some m.cls := findClass_of_methodNamed Bd.named
  have hnm := (name_of_methodNamed Bd.named Bd.method).1
  have X0 : Stand p l e ({ frames := 3, cells := 2, slots := 64, locals := 39 } : Room) (s.setVm s.vm) m #[(.ref o), (.ref fn)] below meth c s₁ [] 0 0 := Stand.of_body Bd
  have e0 : s₁.heap = h0 := by rw [← hh, Bd.state]; rfl
  have N0 := Fr.nil n0
  show OwnG p e below (OwnEV s (QK0  h0 n0) (fun vZ => IB Z vZ ["intervalSeconds"]) ({ frames := 3, cells := 2, slots := 64, locals := 39 } : Room).cells ({ frames := 3, cells := 2, slots := 64, locals := 39 } : Room).slots) _
  refine own_by (S' := s₁.setTop (mkF m 0 #[.val (.ref o), .val (.ref fn)] [])) (fun tZ kZ => castTop (ef_rmIP m o fn) kZ) ?_
  have hS0 : s.Since s.vm 0 := State.WarmedH.since (State.WarmedH.refl s) 0
  have hk0 : 0 ≤ h0.size := Nat.zero_le _
  have hZ0 : Z.Warmed39 (s.setVm s.vm).vm := hZ
  have hown0 : (s.setVm s.vm).vm.findClass "java/util/OptionalInt" = some m.cls := hown
  have hZH0 : Z.WarmedH (s.setVm s.vm).vm := hZH
  have hI0 : IB Z (s.setVm s.vm).vm [] := own_ib0 hZH
  refine own_by (S' := s₁.setTop (mkF m 1 #[.val (.ref o), .val (.ref fn)] [(.ref o)])) (fun tZ kZ => XS.aloadN X0.here hx rfl (hb hby d10_0) rfl rfl kZ) ?_
  obtain ⟨T1, X1, e1, st1⟩ := getF X0 hx hZ0 hown0 (host := "") (Or.inl (hw_ hw 35 rfl)) Via.refl e0 O.2.1 (g := (mkF m 1 #[.val (.ref o), .val (.ref fn)] [(.ref o)])) rfl rfl (hb hby d10_1)
  refine own_by (S' := T1.setTop (mkF m 4 #[.val (.ref o), .val (.ref fn)] [(.int (1 : Int32))])) st1 ?_
  refine own_by (S' := T1.setTop (mkF m 7 #[.val (.ref o), .val (.ref fn)] [])) (fun tZ kZ => XS.ifNo X1.here hx rfl (hb hby d10_4) rfl ((if0 _ _).trans (feq (by decide)).1) kZ) ?_
  refine own_by (S' := T1.setTop (mkF m 8 #[.val (.ref o), .val (.ref fn)] [(.ref fn)])) (fun tZ kZ => XS.aloadN X1.here hx rfl (hb hby d10_7) rfl rfl kZ) ?_
  refine own_by (S' := T1.setTop (mkF m 9 #[.val (.ref o), .val (.ref fn)] [(.ref o), (.ref fn)])) (fun tZ kZ => XS.aloadN X1.here hx rfl (hb hby d10_8) rfl rfl kZ) ?_
  obtain ⟨T2, X2, e2, st2⟩ := getF X1 hx hZ0 hown0 (host := "") (Or.inl (hw_ hw 37 rfl)) Via.refl e1 O.2.2 (g := (mkF m 9 #[.val (.ref o), .val (.ref fn)] [(.ref o), (.ref fn)])) rfl rfl (hb hby d10_9)
  refine own_by (S' := T2.setTop (mkF m 12 #[.val (.ref o), .val (.ref fn)] [(.int x), (.ref fn)])) st2 ?_
  obtain ⟨T3, L3, X3, hS3, hg3, ⟨-, M3q, Kc3⟩, hI3, st3⟩ := own_lam (Q := QK0 h0 h0.size) (I := fun vZ => IB Z vZ ["intervalSeconds"]) X2 hx hZH0 (own := "java/util/OptionalInt") (host := "com/example/tidewatch/tidewatch/core/TidewatchPolicy$Settings") (index := 31) (count := 2) (xi := (⟨"java/util/function/IntConsumer", "accept", "(I)V"⟩ : MethodName)) (y := (⟨"com/example/tidewatch/tidewatch/core/PolicySettings", "checkInterval", "(I)V"⟩ : MethodName)) (σ := own_sig) hown0 (hw_ hw 54 rfl) (hw_ hw 55 rfl) (mvT hZ0 (hw_ hw 56 rfl)) ⟨rfl, rfl, by decide +kernel⟩ (by decide) pd_0 (rmCI l Z a0 hw [] x h0 h0.size (Nat.le_refl _) EZ HC hcw rfl hx1) (fun _ _ _ q => q.1) (hw_ hw 59 rfl) (hw_ hw 57 rfl) (hw_ hw 58 rfl) ⟨rfl, rfl, by decide +kernel⟩ (by decide) pd_0 e2 hmd hfn own_fok own_f0 own_f1 own_f4 (g := (mkF m 12 #[.val (.ref o), .val (.ref fn)] [(.int x), (.ref fn)])) rfl (by rw [hml]; rfl) rfl rfl (hb hby d10_12) (by decide) (by decide) (by decide) (by decide)
  have N3q := own_frm M3q Z0
  have N3 := Fr.app N0 N3q
  obtain ⟨X3, hS3, hZ3, hown3⟩ := rebS hS0 hk0 X3 hS3 (by rw [← e2]; exact hg3) hZ0 hown0
  have K3 := (Keep.refl h0 []).ext (own_ext0 Kc3)
  refine own_by (S' := T3.setTop (mkF m 17 #[.val (.ref o), .val (.ref fn)] [])) st3 ?_
  exact own_ret0V X3 hS3 (Nat.le_refl _) hx Bd.returns (hb hby d10_17) Bd.notSynchronized (by decide) (by decide) ⟨rfl, N3, K3⟩ (own_ib hI3 X3.warmed)
theorem d8_0 : decode prog_74_method_3_code 0 = .ok (.dload_n 0, 1) := by decide +kernel
theorem d8_1 : decode prog_74_method_3_code 1 = .ok (.invokestatic 63, 3) := by decide +kernel
theorem d8_4 : decode prog_74_method_3_code 4 = .ok (.aload_n 2, 1) := by decide +kernel
theorem d8_5 : decode prog_74_method_3_code 5 = .ok (.invokedynamic 68, 5) := by decide +kernel
theorem d8_10 : decode prog_74_method_3_code 10 = .ok (.invokevirtual 72, 3) := by decide +kernel
theorem d8_13 : decode prog_74_method_3_code 13 = .ok (.ldc 76, 2) := by decide +kernel
theorem d8_15 : decode prog_74_method_3_code 15 = .ok (.dload_n 3, 1) := by decide +kernel
theorem d8_16 : decode prog_74_method_3_code 16 = .ok (.invokestatic 77, 3) := by decide +kernel
theorem d8_19 : decode prog_74_method_3_code 19 = .ok (.ldc 83, 2) := by decide +kernel
theorem d8_21 : decode prog_74_method_3_code 21 = .ok (.dload 5, 2) := by decide +kernel
theorem d8_23 : decode prog_74_method_3_code 23 = .ok (.invokestatic 84, 3) := by decide +kernel
theorem d8_26 : decode prog_74_method_3_code 26 = .ok (.ldc 87, 2) := by decide +kernel
theorem d8_28 : decode prog_74_method_3_code 28 = .ok (.dload 7, 2) := by decide +kernel
theorem d8_30 : decode prog_74_method_3_code 30 = .ok (.invokestatic 77, 3) := by decide +kernel
theorem d8_33 : decode prog_74_method_3_code 33 = .ok (.ldc 88, 2) := by decide +kernel
theorem d8_35 : decode prog_74_method_3_code 35 = .ok (.dload 9, 2) := by decide +kernel
theorem d8_37 : decode prog_74_method_3_code 37 = .ok (.invokestatic 77, 3) := by decide +kernel
theorem d8_40 : decode prog_74_method_3_code 40 = .ok (.ldc 89, 2) := by decide +kernel
theorem d8_42 : decode prog_74_method_3_code 42 = .ok (.dload 11, 2) := by decide +kernel
theorem d8_44 : decode prog_74_method_3_code 44 = .ok (.invokestatic 77, 3) := by decide +kernel
theorem d8_47 : decode prog_74_method_3_code 47 = .ok (.ldc 90, 2) := by decide +kernel
theorem d8_49 : decode prog_74_method_3_code 49 = .ok (.dload 13, 2) := by decide +kernel
theorem d8_51 : decode prog_74_method_3_code 51 = .ok (.invokestatic 77, 3) := by decide +kernel
theorem d8_54 : decode prog_74_method_3_code 54 = .ok (.ldc 91, 2) := by decide +kernel
theorem d8_56 : decode prog_74_method_3_code 56 = .ok (.dload 15, 2) := by decide +kernel
theorem d8_58 : decode prog_74_method_3_code 58 = .ok (.invokestatic 77, 3) := by decide +kernel
theorem d8_61 : decode prog_74_method_3_code 61 = .ok (.aload_n 2, 1) := by decide +kernel
theorem d8_62 : decode prog_74_method_3_code 62 = .ok (.invokevirtual 92, 3) := by decide +kernel
theorem d8_65 : decode prog_74_method_3_code 65 = .ok (.ifCond .eq 34, 3) := by decide +kernel
theorem d8_68 : decode prog_74_method_3_code 68 = .ok (.aload_n 2, 1) := by decide +kernel
theorem d8_69 : decode prog_74_method_3_code 69 = .ok (.invokevirtual 96, 3) := by decide +kernel
theorem d8_72 : decode prog_74_method_3_code 72 = .ok (.istore 20, 2) := by decide +kernel
theorem d8_74 : decode prog_74_method_3_code 74 = .ok (.new 100, 3) := by decide +kernel
theorem d8_77 : decode prog_74_method_3_code 77 = .ok (.dup, 1) := by decide +kernel
theorem d8_78 : decode prog_74_method_3_code 78 = .ok (.invokespecial 102, 3) := by decide +kernel
theorem d8_81 : decode prog_74_method_3_code 81 = .ok (.iload 20, 2) := by decide +kernel
theorem d8_83 : decode prog_74_method_3_code 83 = .ok (.invokevirtual 103, 3) := by decide +kernel
theorem d8_86 : decode prog_74_method_3_code 86 = .ok (.ldc 107, 2) := by decide +kernel
theorem d8_88 : decode prog_74_method_3_code 88 = .ok (.invokevirtual 109, 3) := by decide +kernel
theorem d8_91 : decode prog_74_method_3_code 91 = .ok (.invokevirtual 112, 3) := by decide +kernel
theorem d8_94 : decode prog_74_method_3_code 94 = .ok (.astore 21, 2) := by decide +kernel
theorem d8_96 : decode prog_74_method_3_code 96 = .ok (.goto 78, 3) := by decide +kernel
theorem d8_99 : decode prog_74_method_3_code 99 = .ok (.lconst 1, 1) := by decide +kernel
theorem d8_100 : decode prog_74_method_3_code 100 = .ok (.iload 17, 2) := by decide +kernel
theorem d8_102 : decode prog_74_method_3_code 102 = .ok (.i2l, 1) := by decide +kernel
theorem d8_103 : decode prog_74_method_3_code 103 = .ok (.ldc2_w 116, 3) := by decide +kernel
theorem d8_106 : decode prog_74_method_3_code 106 = .ok (.ladd, 1) := by decide +kernel
theorem d8_107 : decode prog_74_method_3_code 107 = .ok (.lconst 1, 1) := by decide +kernel
theorem d8_108 : decode prog_74_method_3_code 108 = .ok (.lsub, 1) := by decide +kernel
theorem d8_109 : decode prog_74_method_3_code 109 = .ok (.ldc2_w 116, 3) := by decide +kernel
theorem d8_112 : decode prog_74_method_3_code 112 = .ok (.ldiv, 1) := by decide +kernel
theorem d8_113 : decode prog_74_method_3_code 113 = .ok (.invokestatic 118, 3) := by decide +kernel
theorem d8_116 : decode prog_74_method_3_code 116 = .ok (.l2i, 1) := by decide +kernel
theorem d8_117 : decode prog_74_method_3_code 117 = .ok (.istore 20, 2) := by decide +kernel
theorem d8_119 : decode prog_74_method_3_code 119 = .ok (.new 100, 3) := by decide +kernel
theorem d8_122 : decode prog_74_method_3_code 122 = .ok (.dup, 1) := by decide +kernel
theorem d8_123 : decode prog_74_method_3_code 123 = .ok (.invokespecial 102, 3) := by decide +kernel
theorem d8_126 : decode prog_74_method_3_code 126 = .ok (.ldc 124, 2) := by decide +kernel
theorem d8_128 : decode prog_74_method_3_code 128 = .ok (.invokevirtual 109, 3) := by decide +kernel
theorem d8_131 : decode prog_74_method_3_code 131 = .ok (.iload 20, 2) := by decide +kernel
theorem d8_133 : decode prog_74_method_3_code 133 = .ok (.invokevirtual 103, 3) := by decide +kernel
theorem d8_136 : decode prog_74_method_3_code 136 = .ok (.ldc 107, 2) := by decide +kernel
theorem d8_138 : decode prog_74_method_3_code 138 = .ok (.invokevirtual 109, 3) := by decide +kernel
theorem d8_141 : decode prog_74_method_3_code 141 = .ok (.invokevirtual 112, 3) := by decide +kernel
theorem d8_144 : decode prog_74_method_3_code 144 = .ok (.astore 21, 2) := by decide +kernel
theorem d8_146 : decode prog_74_method_3_code 146 = .ok (.iload 20, 2) := by decide +kernel
theorem d8_148 : decode prog_74_method_3_code 148 = .ok (.iconst 1, 1) := by decide +kernel
theorem d8_149 : decode prog_74_method_3_code 149 = .ok (.if_icmp .le 25, 3) := by decide +kernel
theorem d8_152 : decode prog_74_method_3_code 152 = .ok (.new 100, 3) := by decide +kernel
theorem d8_155 : decode prog_74_method_3_code 155 = .ok (.dup, 1) := by decide +kernel
theorem d8_156 : decode prog_74_method_3_code 156 = .ok (.invokespecial 102, 3) := by decide +kernel
theorem d8_159 : decode prog_74_method_3_code 159 = .ok (.aload 21, 2) := by decide +kernel
theorem d8_161 : decode prog_74_method_3_code 161 = .ok (.invokevirtual 109, 3) := by decide +kernel
theorem d8_164 : decode prog_74_method_3_code 164 = .ok (.ldc 126, 2) := by decide +kernel
theorem d8_166 : decode prog_74_method_3_code 166 = .ok (.invokevirtual 109, 3) := by decide +kernel
theorem d8_169 : decode prog_74_method_3_code 169 = .ok (.invokevirtual 112, 3) := by decide +kernel
theorem d8_172 : decode prog_74_method_3_code 172 = .ok (.astore 21, 2) := by decide +kernel
theorem d8_174 : decode prog_74_method_3_code 174 = .ok (.iload 17, 2) := by decide +kernel
theorem d8_176 : decode prog_74_method_3_code 176 = .ok (.iload 20, 2) := by decide +kernel
theorem d8_178 : decode prog_74_method_3_code 178 = .ok (.if_icmp .ge 43, 3) := by decide +kernel
theorem d8_181 : decode prog_74_method_3_code 181 = .ok (.new 128, 3) := by decide +kernel
theorem d8_184 : decode prog_74_method_3_code 184 = .ok (.dup, 1) := by decide +kernel
theorem d8_185 : decode prog_74_method_3_code 185 = .ok (.ldc 130, 2) := by decide +kernel
theorem d8_187 : decode prog_74_method_3_code 187 = .ok (.new 100, 3) := by decide +kernel
theorem d8_190 : decode prog_74_method_3_code 190 = .ok (.dup, 1) := by decide +kernel
theorem d8_191 : decode prog_74_method_3_code 191 = .ok (.invokespecial 102, 3) := by decide +kernel
theorem d8_194 : decode prog_74_method_3_code 194 = .ok (.ldc 131, 2) := by decide +kernel
theorem d8_196 : decode prog_74_method_3_code 196 = .ok (.invokevirtual 109, 3) := by decide +kernel
theorem d8_199 : decode prog_74_method_3_code 199 = .ok (.aload 21, 2) := by decide +kernel
theorem d8_201 : decode prog_74_method_3_code 201 = .ok (.invokevirtual 109, 3) := by decide +kernel
theorem d8_204 : decode prog_74_method_3_code 204 = .ok (.ldc 133, 2) := by decide +kernel
theorem d8_206 : decode prog_74_method_3_code 206 = .ok (.invokevirtual 109, 3) := by decide +kernel
theorem d8_209 : decode prog_74_method_3_code 209 = .ok (.iload 17, 2) := by decide +kernel
theorem d8_211 : decode prog_74_method_3_code 211 = .ok (.invokevirtual 103, 3) := by decide +kernel
theorem d8_214 : decode prog_74_method_3_code 214 = .ok (.invokevirtual 112, 3) := by decide +kernel
theorem d8_217 : decode prog_74_method_3_code 217 = .ok (.invokespecial 135, 3) := by decide +kernel
theorem d8_220 : decode prog_74_method_3_code 220 = .ok (.athrow, 1) := by decide +kernel
theorem d8_221 : decode prog_74_method_3_code 221 = .ok (.aload_n 2, 1) := by decide +kernel
theorem d8_222 : decode prog_74_method_3_code 222 = .ok (.invokevirtual 92, 3) := by decide +kernel
theorem d8_225 : decode prog_74_method_3_code 225 = .ok (.ifCond .eq 59, 3) := by decide +kernel
theorem d8_228 : decode prog_74_method_3_code 228 = .ok (.iload 17, 2) := by decide +kernel
theorem d8_230 : decode prog_74_method_3_code 230 = .ok (.i2l, 1) := by decide +kernel
theorem d8_231 : decode prog_74_method_3_code 231 = .ok (.ldc2_w 116, 3) := by decide +kernel
theorem d8_234 : decode prog_74_method_3_code 234 = .ok (.aload_n 2, 1) := by decide +kernel
theorem d8_235 : decode prog_74_method_3_code 235 = .ok (.invokevirtual 96, 3) := by decide +kernel
theorem d8_238 : decode prog_74_method_3_code 238 = .ok (.i2l, 1) := by decide +kernel
theorem d8_239 : decode prog_74_method_3_code 239 = .ok (.lmul, 1) := by decide +kernel
theorem d8_240 : decode prog_74_method_3_code 240 = .ok (.lcmp, 1) := by decide +kernel
theorem d8_241 : decode prog_74_method_3_code 241 = .ok (.ifCond .le 43, 3) := by decide +kernel
theorem d8_244 : decode prog_74_method_3_code 244 = .ok (.new 128, 3) := by decide +kernel
theorem d8_247 : decode prog_74_method_3_code 247 = .ok (.dup, 1) := by decide +kernel
theorem d8_248 : decode prog_74_method_3_code 248 = .ok (.ldc 130, 2) := by decide +kernel
theorem d8_250 : decode prog_74_method_3_code 250 = .ok (.new 100, 3) := by decide +kernel
theorem d8_253 : decode prog_74_method_3_code 253 = .ok (.dup, 1) := by decide +kernel
theorem d8_254 : decode prog_74_method_3_code 254 = .ok (.invokespecial 102, 3) := by decide +kernel
theorem d8_257 : decode prog_74_method_3_code 257 = .ok (.ldc 138, 2) := by decide +kernel
theorem d8_259 : decode prog_74_method_3_code 259 = .ok (.invokevirtual 109, 3) := by decide +kernel
theorem d8_262 : decode prog_74_method_3_code 262 = .ok (.aload 21, 2) := by decide +kernel
theorem d8_264 : decode prog_74_method_3_code 264 = .ok (.invokevirtual 109, 3) := by decide +kernel
theorem d8_267 : decode prog_74_method_3_code 267 = .ok (.ldc 133, 2) := by decide +kernel
theorem d8_269 : decode prog_74_method_3_code 269 = .ok (.invokevirtual 109, 3) := by decide +kernel
theorem d8_272 : decode prog_74_method_3_code 272 = .ok (.iload 17, 2) := by decide +kernel
theorem d8_274 : decode prog_74_method_3_code 274 = .ok (.invokevirtual 103, 3) := by decide +kernel
theorem d8_277 : decode prog_74_method_3_code 277 = .ok (.invokevirtual 112, 3) := by decide +kernel
theorem d8_280 : decode prog_74_method_3_code 280 = .ok (.invokespecial 135, 3) := by decide +kernel
theorem d8_283 : decode prog_74_method_3_code 283 = .ok (.athrow, 1) := by decide +kernel
theorem d8_284 : decode prog_74_method_3_code 284 = .ok (.iload 18, 2) := by decide +kernel
theorem d8_286 : decode prog_74_method_3_code 286 = .ok (.ifCond .eq 67, 3) := by decide +kernel
theorem d8_289 : decode prog_74_method_3_code 289 = .ok (.iload 18, 2) := by decide +kernel
theorem d8_291 : decode prog_74_method_3_code 291 = .ok (.iload 20, 2) := by decide +kernel
theorem d8_293 : decode prog_74_method_3_code 293 = .ok (.if_icmp .lt 10, 3) := by decide +kernel
theorem d8_296 : decode prog_74_method_3_code 296 = .ok (.iload 18, 2) := by decide +kernel
theorem d8_298 : decode prog_74_method_3_code 298 = .ok (.iload 17, 2) := by decide +kernel
theorem d8_300 : decode prog_74_method_3_code 300 = .ok (.if_icmp .le 53, 3) := by decide +kernel
theorem d8_303 : decode prog_74_method_3_code 303 = .ok (.new 128, 3) := by decide +kernel
theorem d8_306 : decode prog_74_method_3_code 306 = .ok (.dup, 1) := by decide +kernel
theorem d8_307 : decode prog_74_method_3_code 307 = .ok (.ldc 140, 2) := by decide +kernel
theorem d8_309 : decode prog_74_method_3_code 309 = .ok (.new 100, 3) := by decide +kernel
theorem d8_312 : decode prog_74_method_3_code 312 = .ok (.dup, 1) := by decide +kernel
theorem d8_313 : decode prog_74_method_3_code 313 = .ok (.invokespecial 102, 3) := by decide +kernel
theorem d8_316 : decode prog_74_method_3_code 316 = .ok (.ldc 141, 2) := by decide +kernel
theorem d8_318 : decode prog_74_method_3_code 318 = .ok (.invokevirtual 109, 3) := by decide +kernel
theorem d8_321 : decode prog_74_method_3_code 321 = .ok (.aload 21, 2) := by decide +kernel
theorem d8_323 : decode prog_74_method_3_code 323 = .ok (.invokevirtual 109, 3) := by decide +kernel
theorem d8_326 : decode prog_74_method_3_code 326 = .ok (.ldc 143, 2) := by decide +kernel
theorem d8_328 : decode prog_74_method_3_code 328 = .ok (.invokevirtual 109, 3) := by decide +kernel
theorem d8_331 : decode prog_74_method_3_code 331 = .ok (.iload 17, 2) := by decide +kernel
theorem d8_333 : decode prog_74_method_3_code 333 = .ok (.invokevirtual 103, 3) := by decide +kernel
theorem d8_336 : decode prog_74_method_3_code 336 = .ok (.ldc 145, 2) := by decide +kernel
theorem d8_338 : decode prog_74_method_3_code 338 = .ok (.invokevirtual 109, 3) := by decide +kernel
theorem d8_341 : decode prog_74_method_3_code 341 = .ok (.iload 18, 2) := by decide +kernel
theorem d8_343 : decode prog_74_method_3_code 343 = .ok (.invokevirtual 103, 3) := by decide +kernel
theorem d8_346 : decode prog_74_method_3_code 346 = .ok (.invokevirtual 112, 3) := by decide +kernel
theorem d8_349 : decode prog_74_method_3_code 349 = .ok (.invokespecial 135, 3) := by decide +kernel
theorem d8_352 : decode prog_74_method_3_code 352 = .ok (.athrow, 1) := by decide +kernel
theorem d8_353 : decode prog_74_method_3_code 353 = .ok (.ldc 147, 2) := by decide +kernel
theorem d8_355 : decode prog_74_method_3_code 355 = .ok (.iload 19, 2) := by decide +kernel
theorem d8_357 : decode prog_74_method_3_code 357 = .ok (.i2l, 1) := by decide +kernel
theorem d8_358 : decode prog_74_method_3_code 358 = .ok (.invokestatic 148, 3) := by decide +kernel
theorem d8_361 : decode prog_74_method_3_code 361 = .ok (.iload 19, 2) := by decide +kernel
theorem d8_363 : decode prog_74_method_3_code 363 = .ok (.iload 17, 2) := by decide +kernel
theorem d8_365 : decode prog_74_method_3_code 365 = .ok (.if_icmp .le 43, 3) := by decide +kernel
theorem d8_368 : decode prog_74_method_3_code 368 = .ok (.new 128, 3) := by decide +kernel
theorem d8_371 : decode prog_74_method_3_code 371 = .ok (.dup, 1) := by decide +kernel
theorem d8_372 : decode prog_74_method_3_code 372 = .ok (.ldc 147, 2) := by decide +kernel
theorem d8_374 : decode prog_74_method_3_code 374 = .ok (.new 100, 3) := by decide +kernel
theorem d8_377 : decode prog_74_method_3_code 377 = .ok (.dup, 1) := by decide +kernel
theorem d8_378 : decode prog_74_method_3_code 378 = .ok (.invokespecial 102, 3) := by decide +kernel
theorem d8_381 : decode prog_74_method_3_code 381 = .ok (.ldc 152, 2) := by decide +kernel
theorem d8_383 : decode prog_74_method_3_code 383 = .ok (.invokevirtual 109, 3) := by decide +kernel
theorem d8_386 : decode prog_74_method_3_code 386 = .ok (.iload 17, 2) := by decide +kernel
theorem d8_388 : decode prog_74_method_3_code 388 = .ok (.invokevirtual 103, 3) := by decide +kernel
theorem d8_391 : decode prog_74_method_3_code 391 = .ok (.ldc 145, 2) := by decide +kernel
theorem d8_393 : decode prog_74_method_3_code 393 = .ok (.invokevirtual 109, 3) := by decide +kernel
theorem d8_396 : decode prog_74_method_3_code 396 = .ok (.iload 19, 2) := by decide +kernel
theorem d8_398 : decode prog_74_method_3_code 398 = .ok (.invokevirtual 103, 3) := by decide +kernel
theorem d8_401 : decode prog_74_method_3_code 401 = .ok (.invokevirtual 112, 3) := by decide +kernel
theorem d8_404 : decode prog_74_method_3_code 404 = .ok (.invokespecial 135, 3) := by decide +kernel
theorem d8_407 : decode prog_74_method_3_code 407 = .ok (.athrow, 1) := by decide +kernel
theorem d8_408 : decode prog_74_method_3_code 408 = .ok (.return_, 1) := by decide +kernel
theorem pn_11 : plainName "com/example/tidewatch/tidewatch/core/TidewatchPolicy$Settings" = true := by first | (simp [plainName, overriddenIn]; done) | decide +kernel
theorem ef_rmCk (m : MethodId) (o : Addr) (sn : Int32) (hz : Int32) : entryFrame m #[(.double (FP.l2d 1)), (.ref o), (.double (FP.l2d 0)), (.double (FP.l2d 1)), (.double (FP.l2d 0)), (.double (FP.l2d 0)), (.double (FP.l2d 0)), (.double (FP.l2d 0)), (.double (FP.l2d 0)), (.int sn), (.int (0 : Int32)), (.int hz)] 22 = mkF m 0 #[.val (.double (FP.l2d 1)), .second, .val (.ref o), .val (.double (FP.l2d 0)), .second, .val (.double (FP.l2d 1)), .second, .val (.double (FP.l2d 0)), .second, .val (.double (FP.l2d 0)), .second, .val (.double (FP.l2d 0)), .second, .val (.double (FP.l2d 0)), .second, .val (.double (FP.l2d 0)), .second, .val (.int sn), .val (.int (0 : Int32)), .val (.int hz), .unset, .unset] [] := by first | (simp [entryFrame, mkF, argsToLocals, Value.category, maxLocals]; done) | rfl
set_option maxRecDepth 65536 in
set_option maxHeartbeats 40000000 in
theorem rmCk (l : Launch) (Z : State) (a0 : Array Value) (hw : ∀ d ∈ tables_1, d.before a0 Z = true) (ws : List Jvm.Cond) (o : Addr) (x sn hz cz : Int32) (do_ dt : Addr) (co ct : Cell) (h0 : Heap) (n0 : Nat) (Z0 : n0 ≤ h0.size) (EZ : Ext Z.heap h0) (HC : ∀ q ∈ consts_1, Jvm.Lit.constHeld Z q.1 q.2) (hcw : Jvm.Lit.compactW.before a0 Z = true) (Sc : Sta Z h0 "java/lang/String" "COMPACT_STRINGS" "Z" (.int cz)) (hcz : ¬ cz = 0) (S_o : Sta Z h0 "java/lang/Integer" "DigitOnes" "[B" (.ref do_)) (A_o : Arr Z h0 do_ co .byte) (z_o : co.slots.size = 100) (e_o : ∀ k : Nat, k < 100 → ∃ z : Int32, co.slots[k]? = some (.int z)) (S_t : Sta Z h0 "java/lang/Integer" "DigitTens" "[B" (.ref dt)) (A_t : Arr Z h0 dt ct .byte) (z_t : ct.slots.size = 100) (e_t : ∀ k : Nat, k < 100 → ∃ z : Int32, ct.slots[k]? = some (.int z)) (hn0 : n0 = h0.size) (O : OwnOp Z h0 o x) (hx1 : 1 ≤ x.toInt) (hs1 : ¬ sn < x) (hs2 : ¬ 0 < lcmpW sn.toInt64 ((1000000 : Int64) * x.toInt64)) (hz1 : 1 ≤ hz.toInt) (hzs : ¬ sn < hz) :
    MetFree l (⟨"com/example/tidewatch/tidewatch/core/TidewatchPolicy$Settings", "check", "(DLjava/util/OptionalInt;DDDDDDDIII)V"⟩ : MethodName) (head1 (Jvm.Cond.code (⟨"com/example/tidewatch/tidewatch/core/TidewatchPolicy$Settings", "check", "(DLjava/util/OptionalInt;DDDDDDDIII)V"⟩ : MethodName) prog_74_method_3_code (22 : Nat) (Option.none : Option Jvm.ClassFile.FieldType) :: ws) ({ frames := 6, cells := 24, slots := 648, locals := 3080 } : Room)) (fun aZ UZ => aZ = #[(.double (FP.l2d 1)), (.ref o), (.double (FP.l2d 0)), (.double (FP.l2d 1)), (.double (FP.l2d 0)), (.double (FP.l2d 0)), (.double (FP.l2d 0)), (.double (FP.l2d 0)), (.double (FP.l2d 0)), (.int sn), (.int (0 : Int32)), (.int hz)] ∧ Z.WarmedH UZ.vm ∧ UZ.heap = h0) (fun _ _ _ _ _ => True) (fun _ UZ oZ VZ => ∃ vZ LZ, oZ = .returned vZ ∧ ((QK0  h0 n0) vZ VZ.heap LZ ∧ IB Z VZ.vm ["horizonSeconds", " s", "forecastMargin", "underProvisionedCost", "shortfallCost", "rescaleCost", "holdSeconds", "targetRecoverySeconds", "expectedRestartSeconds", "intervalSeconds"]) ∧ ReturnedEndW UZ oZ VZ LZ ({ frames := 6, cells := 24, slots := 648, locals := 3080 } : Room).cells ({ frames := 6, cells := 24, slots := 648, locals := 3080 } : Room).slots) := by
  refine MetFree.of_bodySF (plainFor_of_name pn_11) hisR ?_
  intro p e s m args below meth c s₁ Bd hml0 hP hK
  obtain ⟨rfl, hZH, hh⟩ := hP
  have hZ : Z.Warmed39 s.vm := hZH.wide
  have hx := Bd.exec
  have hby := Bd.bytes
  have hml : c.maxLocals = 22 := hml0
  have hown : s.vm.findClass "com/example/tidewatch/tidewatch/core/TidewatchPolicy$Settings" = some m.cls := findClass_of_methodNamed Bd.named
  have hnm := (name_of_methodNamed Bd.named Bd.method).1
  have X0 : Stand p l e ({ frames := 6, cells := 24, slots := 648, locals := 3080 } : Room) (s.setVm s.vm) m #[(.double (FP.l2d 1)), (.ref o), (.double (FP.l2d 0)), (.double (FP.l2d 1)), (.double (FP.l2d 0)), (.double (FP.l2d 0)), (.double (FP.l2d 0)), (.double (FP.l2d 0)), (.double (FP.l2d 0)), (.int sn), (.int (0 : Int32)), (.int hz)] below meth c s₁ [] 0 0 := Stand.of_body Bd
  have e0 : s₁.heap = h0 := by rw [← hh, Bd.state]; rfl
  have N0 := Fr.nil n0
  show OwnG p e below (OwnEV s (QK0  h0 n0) (fun vZ => IB Z vZ ["horizonSeconds", " s", "forecastMargin", "underProvisionedCost", "shortfallCost", "rescaleCost", "holdSeconds", "targetRecoverySeconds", "expectedRestartSeconds", "intervalSeconds"]) ({ frames := 6, cells := 24, slots := 648, locals := 3080 } : Room).cells ({ frames := 6, cells := 24, slots := 648, locals := 3080 } : Room).slots) _
  refine own_by (S' := s₁.setTop (mkF m 0 #[.val (.double (FP.l2d 1)), .second, .val (.ref o), .val (.double (FP.l2d 0)), .second, .val (.double (FP.l2d 1)), .second, .val (.double (FP.l2d 0)), .second, .val (.double (FP.l2d 0)), .second, .val (.double (FP.l2d 0)), .second, .val (.double (FP.l2d 0)), .second, .val (.double (FP.l2d 0)), .second, .val (.int sn), .val (.int (0 : Int32)), .val (.int hz), .unset, .unset] [])) (fun tZ kZ => castTop (ef_rmCk m o sn hz) kZ) ?_
  have hS0 : s.Since s.vm 0 := State.WarmedH.since (State.WarmedH.refl s) 0
  have hk0 : 0 ≤ h0.size := Nat.zero_le _
  have hZ0 : Z.Warmed39 (s.setVm s.vm).vm := hZ
  have hown0 : (s.setVm s.vm).vm.findClass "com/example/tidewatch/tidewatch/core/TidewatchPolicy$Settings" = some m.cls := hown
  have hZH0 : Z.WarmedH (s.setVm s.vm).vm := hZH
  have hI0 : IB Z (s.setVm s.vm).vm [] := own_ib0 hZH
  refine own_by (S' := s₁.setTop (mkF m 1 #[.val (.double (FP.l2d 1)), .second, .val (.ref o), .val (.double (FP.l2d 0)), .second, .val (.double (FP.l2d 1)), .second, .val (.double (FP.l2d 0)), .second, .val (.double (FP.l2d 0)), .second, .val (.double (FP.l2d 0)), .second, .val (.double (FP.l2d 0)), .second, .val (.double (FP.l2d 0)), .second, .val (.int sn), .val (.int (0 : Int32)), .val (.int hz), .unset, .unset] [(.double (FP.l2d 1))])) (fun tZ kZ => XS.dloadN X0.here hx rfl (hb hby d8_0) rfl kZ) ?_
  obtain ⟨_, _, ⟨T1, L1, k1, n1⟩, -, X1, ⟨Lc1, hQ1, l1, y1, z1⟩, st1⟩ := Jvm.LawKit.callS X0 hx (y := (⟨"com/example/tidewatch/tidewatch/core/TargetUtilization", "check", "(D)V"⟩ : MethodName)) hown0 (mvT hZ0 (hw_ hw 42 rfl)) (mvT hZ0 (hw_ hw 43 rfl)) (mvT hZ0 (hw_ hw 44 rfl)) (mvT hZ0 (hw_ hw 45 rfl)) (by decide) (backOf (W := 0) (rmTU l Z a0 hw [] h0 n0 Z0) hZ0 (hw_ hw 45 rfl) (hw_ hw 44 rfl) (by decide) (by decide)) (g := (mkF m 1 #[.val (.double (FP.l2d 1)), .second, .val (.ref o), .val (.double (FP.l2d 0)), .second, .val (.double (FP.l2d 1)), .second, .val (.double (FP.l2d 0)), .second, .val (.double (FP.l2d 0)), .second, .val (.double (FP.l2d 0)), .second, .val (.double (FP.l2d 0)), .second, .val (.double (FP.l2d 0)), .second, .val (.int sn), .val (.int (0 : Int32)), .val (.int hz), .unset, .unset] [(.double (FP.l2d 1))])) rfl (by rw [hml]; rfl) (argsL := [(.double (FP.l2d 1))]) (rest := []) (lenOf pd_20 rfl) rfl (by show 2 * 0 + _ ≤ _; exact Nat.le_of_eq rfl) (hb hby d8_1) (fun _ _ => ⟨rfl, e0, (by decide : 0 + 0 ≤ _), (by decide : 0 + 0 ≤ _)⟩)
  dsimp only [Pt.U, Pt.locs, Pt.cells, Pt.slots] at X1 l1 y1 z1 st1 hQ1
  subst l1 y1 z1
  obtain ⟨rfl, N1q, heq1⟩ := hQ1
  have N1 := Fr.app N0 N1q
  refine own_by (S' := T1.setTop (mkF m 4 #[.val (.double (FP.l2d 1)), .second, .val (.ref o), .val (.double (FP.l2d 0)), .second, .val (.double (FP.l2d 1)), .second, .val (.double (FP.l2d 0)), .second, .val (.double (FP.l2d 0)), .second, .val (.double (FP.l2d 0)), .second, .val (.double (FP.l2d 0)), .second, .val (.double (FP.l2d 0)), .second, .val (.int sn), .val (.int (0 : Int32)), .val (.int hz), .unset, .unset] [])) (fun tZ kZ => st1 _ kZ) ?_
  refine own_by (S' := T1.setTop (mkF m 5 #[.val (.double (FP.l2d 1)), .second, .val (.ref o), .val (.double (FP.l2d 0)), .second, .val (.double (FP.l2d 1)), .second, .val (.double (FP.l2d 0)), .second, .val (.double (FP.l2d 0)), .second, .val (.double (FP.l2d 0)), .second, .val (.double (FP.l2d 0)), .second, .val (.double (FP.l2d 0)), .second, .val (.int sn), .val (.int (0 : Int32)), .val (.int hz), .unset, .unset] [(.ref o)])) (fun tZ kZ => XS.aloadN X1.here hx rfl (hb hby d8_4) rfl rfl kZ) ?_
  obtain ⟨fn, cK, hmd, hfnZ, st2⟩ := own_site X1 hx hZ0 heq1 EZ (y := (⟨"com/example/tidewatch/tidewatch/core/TidewatchPolicy$Settings", "check", "(DLjava/util/OptionalInt;DDDDDDDIII)V"⟩ : MethodName)) (pc := 5) (index := 68) (σ := own_sig) Bd.named (hw_ hw 46 rfl) rfl (g := (mkF m 5 #[.val (.double (FP.l2d 1)), .second, .val (.ref o), .val (.double (FP.l2d 0)), .second, .val (.double (FP.l2d 1)), .second, .val (.double (FP.l2d 0)), .second, .val (.double (FP.l2d 0)), .second, .val (.double (FP.l2d 0)), .second, .val (.double (FP.l2d 0)), .second, .val (.double (FP.l2d 0)), .second, .val (.int sn), .val (.int (0 : Int32)), .val (.int hz), .unset, .unset] [(.ref o)])) rfl rfl (by rw [hml]; rfl) (hb hby d8_5) (by show 2 * 0 + 1 + 3072 ≤ _; decide)
  have hfn : Jvm.LamKit.FnAt h0 fn cK := by
    obtain ⟨cf, q1, q2⟩ := hfnZ
    exact ⟨cf, EZ.2 _ _ q1, q2⟩
  refine own_by (S' := T1.setTop (mkF m 10 #[.val (.double (FP.l2d 1)), .second, .val (.ref o), .val (.double (FP.l2d 0)), .second, .val (.double (FP.l2d 1)), .second, .val (.double (FP.l2d 0)), .second, .val (.double (FP.l2d 0)), .second, .val (.double (FP.l2d 0)), .second, .val (.double (FP.l2d 0)), .second, .val (.double (FP.l2d 0)), .second, .val (.int sn), .val (.int (0 : Int32)), .val (.int hz), .unset, .unset] [(.ref fn), (.ref o)])) st2 ?_
  obtain ⟨cq3, kq3, q3a, q3b, q3c⟩ := isOf hZ0 heq1 O.1
  obtain ⟨_, _, ⟨T3, L3, k3, n3⟩, -, X3, hS3, hg3, ⟨Lc3, hQ3, l3, y3, z3⟩, st3⟩ := X1.virtualBackS hx (y := (⟨"java/util/OptionalInt", "ifPresent", "(Ljava/util/function/IntConsumer;)V"⟩ : MethodName)) (z := (⟨"java/util/OptionalInt", "ifPresent", "(Ljava/util/function/IntConsumer;)V"⟩ : MethodName)) hown0 (mvT hZ0 (hw_ hw 49 rfl)) (mvT hZ0 (hw_ hw 50 rfl)) (notFace_of_selects (args := #[]) (mvT hZ0 (hw_ hw 52 rfl))) (mvT hZ0 (hw_ hw 52 rfl)) (mvT hZ0 (hw_ hw 51 rfl)) (by decide) (own_backH (Q := QK0 h0 n0) (I := fun vZ => IB Z vZ ["intervalSeconds"]) (W := 0) (rmIP l Z a0 hw [] o fn x cK h0 n0 Z0 EZ HC hcw O hx1 hmd hfn) hZH0 (hw_ hw 53 rfl) (hw_ hw 26 rfl) (by decide) (by decide)) q3a q3c (g := (mkF m 10 #[.val (.double (FP.l2d 1)), .second, .val (.ref o), .val (.double (FP.l2d 0)), .second, .val (.double (FP.l2d 1)), .second, .val (.double (FP.l2d 0)), .second, .val (.double (FP.l2d 0)), .second, .val (.double (FP.l2d 0)), .second, .val (.double (FP.l2d 0)), .second, .val (.double (FP.l2d 0)), .second, .val (.int sn), .val (.int (0 : Int32)), .val (.int hz), .unset, .unset] [(.ref fn), (.ref o)])) rfl (by rw [hml]; rfl) (Steps.refl _) (argsL := [(.ref fn)]) (rest := []) (lenOf pd_21 rfl) rfl (by show 2 * 0 + _ ≤ _; exact Nat.le_of_eq rfl) (hb hby d8_10) (fun _ _ => ⟨rfl, heq1, (by decide : 0 + 2 ≤ _), (by decide : 0 + 64 ≤ _)⟩)
  dsimp only [Pt.U, Pt.locs, Pt.cells, Pt.slots] at X3 l3 y3 z3 st3 hQ3 hS3 hg3
  subst l3 y3 z3
  obtain ⟨⟨rfl, N3q, Kc3⟩, hI3⟩ := hQ3
  have N3 := Fr.app N1 N3q
  obtain ⟨X3, hS3, hZ3, hown3⟩ := rebS hS0 hk0 X3 hS3 (by rw [← heq1]; exact hg3) hZ0 hown0
  have Zs3 := Nat.le_trans Z0 Kc3.1
  have Ec3 := own_ext0 Kc3
  have K3 := (Keep.refl h0 []).ext Ec3
  refine own_by (S' := T3.setTop (mkF m 13 #[.val (.double (FP.l2d 1)), .second, .val (.ref o), .val (.double (FP.l2d 0)), .second, .val (.double (FP.l2d 1)), .second, .val (.double (FP.l2d 0)), .second, .val (.double (FP.l2d 0)), .second, .val (.double (FP.l2d 0)), .second, .val (.double (FP.l2d 0)), .second, .val (.double (FP.l2d 0)), .second, .val (.int sn), .val (.int (0 : Int32)), .val (.int hz), .unset, .unset] [])) (fun tZ kZ => st3.trans kZ) ?_
  obtain ⟨y0_, T4, h4, k4, t_y0_, kc_y0_, X4, e4, E4, hS4, hk4, hZ4, hown4, Ge_y0_, Co_y0_, Va_y0_, Ar_y0_, -, -, hI4, st4⟩ := ldcSV X3 hx hZ3 hown3 (hw_ hw 72 rfl) (own_str hw) rfl hS3 (Nat.le_refl _) (by rw [hh, ← hn0]; exact N3) (fun bZ cZ qZ => by rw [hh]; exact EZ.2 bZ cZ qZ) hI3 (by decide) (HC ("com/example/tidewatch/tidewatch/core/TidewatchPolicy$Settings", 76) (List.mem_of_getElem? (i := 1) rfl)) hcw (vs := [.int 101, .int 120, .int 112, .int 101, .int 99, .int 116, .int 101, .int 100, .int 82, .int 101, .int 115, .int 116, .int 97, .int 114, .int 116, .int 83, .int 101, .int 99, .int 111, .int 110, .int 100, .int 115]) (z := 22) ⟨by decide +kernel, by decide +kernel⟩ (by decide) (by decide) (g := (mkF m 13 #[.val (.double (FP.l2d 1)), .second, .val (.ref o), .val (.double (FP.l2d 0)), .second, .val (.double (FP.l2d 1)), .second, .val (.double (FP.l2d 0)), .second, .val (.double (FP.l2d 0)), .second, .val (.double (FP.l2d 0)), .second, .val (.double (FP.l2d 0)), .second, .val (.double (FP.l2d 0)), .second, .val (.int sn), .val (.int (0 : Int32)), .val (.int hz), .unset, .unset] [])) rfl (hb hby d8_13) (n := 88) (by decide) (by decide) (by decide) (by decide)
  have Zs4 : n0 ≤ h4.size := Nat.le_trans Zs3 E4.1
  have K4 := K3.ext E4
  refine own_by (S' := T4.setTop (mkF m 15 #[.val (.double (FP.l2d 1)), .second, .val (.ref o), .val (.double (FP.l2d 0)), .second, .val (.double (FP.l2d 1)), .second, .val (.double (FP.l2d 0)), .second, .val (.double (FP.l2d 0)), .second, .val (.double (FP.l2d 0)), .second, .val (.double (FP.l2d 0)), .second, .val (.double (FP.l2d 0)), .second, .val (.int sn), .val (.int (0 : Int32)), .val (.int hz), .unset, .unset] [(.ref y0_)])) st4 ?_
  refine own_by (S' := T4.setTop (mkF m 16 #[.val (.double (FP.l2d 1)), .second, .val (.ref o), .val (.double (FP.l2d 0)), .second, .val (.double (FP.l2d 1)), .second, .val (.double (FP.l2d 0)), .second, .val (.double (FP.l2d 0)), .second, .val (.double (FP.l2d 0)), .second, .val (.double (FP.l2d 0)), .second, .val (.double (FP.l2d 0)), .second, .val (.int sn), .val (.int (0 : Int32)), .val (.int hz), .unset, .unset] [(.double (FP.l2d 0)), (.ref y0_)])) (fun tZ kZ => XS.dloadN X4.here hx rfl (hb hby d8_15) rfl kZ) ?_
  obtain ⟨_, _, ⟨T5, L5, k5, n5⟩, -, X5, ⟨Lc5, hQ5, l5, y5, z5⟩, st5⟩ := Jvm.LawKit.callS X4 hx (y := (⟨"com/example/tidewatch/tidewatch/core/SettingChecks", "finiteAtLeastZero", "(Ljava/lang/String;D)V"⟩ : MethodName)) hown4 (mvT hZ4 (hw_ hw 73 rfl)) (mvT hZ4 (hw_ hw 74 rfl)) (mvT hZ4 (hw_ hw 70 rfl)) (mvT hZ4 (hw_ hw 75 rfl)) (by decide) (backOf (W := 0) (rmFz l Z a0 hw [] y0_ h4 n0 Zs4) hZ4 (hw_ hw 75 rfl) (hw_ hw 70 rfl) (by decide) (by decide)) (g := (mkF m 16 #[.val (.double (FP.l2d 1)), .second, .val (.ref o), .val (.double (FP.l2d 0)), .second, .val (.double (FP.l2d 1)), .second, .val (.double (FP.l2d 0)), .second, .val (.double (FP.l2d 0)), .second, .val (.double (FP.l2d 0)), .second, .val (.double (FP.l2d 0)), .second, .val (.double (FP.l2d 0)), .second, .val (.int sn), .val (.int (0 : Int32)), .val (.int hz), .unset, .unset] [(.double (FP.l2d 0)), (.ref y0_)])) rfl (by rw [hml]; rfl) (argsL := [(.ref y0_), (.double (FP.l2d 0))]) (rest := []) (lenOf pd_22 rfl) rfl (by show 2 * 0 + _ ≤ _; exact Nat.le_of_eq rfl) (hb hby d8_16) (fun _ _ => ⟨rfl, e4, (by decide : 4 + 0 ≤ _), (by decide : 156 + 0 ≤ _)⟩)
  dsimp only [Pt.U, Pt.locs, Pt.cells, Pt.slots] at X5 l5 y5 z5 st5 hQ5
  subst l5 y5 z5
  obtain ⟨rfl, N5q, heq5⟩ := hQ5
  have N5 := Fr.app N3 N5q
  refine own_by (S' := T5.setTop (mkF m 19 #[.val (.double (FP.l2d 1)), .second, .val (.ref o), .val (.double (FP.l2d 0)), .second, .val (.double (FP.l2d 1)), .second, .val (.double (FP.l2d 0)), .second, .val (.double (FP.l2d 0)), .second, .val (.double (FP.l2d 0)), .second, .val (.double (FP.l2d 0)), .second, .val (.double (FP.l2d 0)), .second, .val (.int sn), .val (.int (0 : Int32)), .val (.int hz), .unset, .unset] [])) (fun tZ kZ => st5 _ kZ) ?_
  obtain ⟨y1_, T6, h6, k6, t_y1_, kc_y1_, X6, e6, E6, hS6, hk6, hZ6, hown6, Ge_y1_, Co_y1_, Va_y1_, Ar_y1_, -, -, hI6, st6⟩ := ldcSV X5 hx hZ4 hown4 (hw_ hw 87 rfl) (own_str hw) heq5 hS4 hk4 (by rw [hh, ← hn0]; exact N5) (fun bZ cZ qZ => by rw [hh]; exact EZ.2 bZ cZ qZ) hI4 (by decide) (HC ("com/example/tidewatch/tidewatch/core/TidewatchPolicy$Settings", 83) (List.mem_of_getElem? (i := 2) rfl)) hcw (vs := [.int 116, .int 97, .int 114, .int 103, .int 101, .int 116, .int 82, .int 101, .int 99, .int 111, .int 118, .int 101, .int 114, .int 121, .int 83, .int 101, .int 99, .int 111, .int 110, .int 100, .int 115]) (z := 21) ⟨by decide +kernel, by decide +kernel⟩ (by decide) (by decide) (g := (mkF m 19 #[.val (.double (FP.l2d 1)), .second, .val (.ref o), .val (.double (FP.l2d 0)), .second, .val (.double (FP.l2d 1)), .second, .val (.double (FP.l2d 0)), .second, .val (.double (FP.l2d 0)), .second, .val (.double (FP.l2d 0)), .second, .val (.double (FP.l2d 0)), .second, .val (.double (FP.l2d 0)), .second, .val (.int sn), .val (.int (0 : Int32)), .val (.int hz), .unset, .unset] [])) rfl (hb hby d8_19) (n := 84) (by decide) (by decide) (by decide) (by decide)
  have Zs6 : n0 ≤ h6.size := Nat.le_trans Zs4 E6.1
  have K6 := K4.ext E6
  refine own_by (S' := T6.setTop (mkF m 21 #[.val (.double (FP.l2d 1)), .second, .val (.ref o), .val (.double (FP.l2d 0)), .second, .val (.double (FP.l2d 1)), .second, .val (.double (FP.l2d 0)), .second, .val (.double (FP.l2d 0)), .second, .val (.double (FP.l2d 0)), .second, .val (.double (FP.l2d 0)), .second, .val (.double (FP.l2d 0)), .second, .val (.int sn), .val (.int (0 : Int32)), .val (.int hz), .unset, .unset] [(.ref y1_)])) st6 ?_
  refine own_by (S' := T6.setTop (mkF m 23 #[.val (.double (FP.l2d 1)), .second, .val (.ref o), .val (.double (FP.l2d 0)), .second, .val (.double (FP.l2d 1)), .second, .val (.double (FP.l2d 0)), .second, .val (.double (FP.l2d 0)), .second, .val (.double (FP.l2d 0)), .second, .val (.double (FP.l2d 0)), .second, .val (.double (FP.l2d 0)), .second, .val (.int sn), .val (.int (0 : Int32)), .val (.int hz), .unset, .unset] [(.double (FP.l2d 1)), (.ref y1_)])) (fun tZ kZ => XS.dload X6.here hx rfl (hb hby d8_21) rfl kZ) ?_
  obtain ⟨_, _, ⟨T7, L7, k7, n7⟩, -, X7, ⟨Lc7, hQ7, l7, y7, z7⟩, st7⟩ := Jvm.LawKit.callS X6 hx (y := (⟨"com/example/tidewatch/tidewatch/core/SettingChecks", "finiteAboveZero", "(Ljava/lang/String;D)V"⟩ : MethodName)) hown6 (mvT hZ6 (hw_ hw 88 rfl)) (mvT hZ6 (hw_ hw 89 rfl)) (mvT hZ6 (hw_ hw 70 rfl)) (mvT hZ6 (hw_ hw 90 rfl)) (by decide) (backOf (W := 0) (rmFa l Z a0 hw [] y1_ h6 n0 Zs6) hZ6 (hw_ hw 90 rfl) (hw_ hw 70 rfl) (by decide) (by decide)) (g := (mkF m 23 #[.val (.double (FP.l2d 1)), .second, .val (.ref o), .val (.double (FP.l2d 0)), .second, .val (.double (FP.l2d 1)), .second, .val (.double (FP.l2d 0)), .second, .val (.double (FP.l2d 0)), .second, .val (.double (FP.l2d 0)), .second, .val (.double (FP.l2d 0)), .second, .val (.double (FP.l2d 0)), .second, .val (.int sn), .val (.int (0 : Int32)), .val (.int hz), .unset, .unset] [(.double (FP.l2d 1)), (.ref y1_)])) rfl (by rw [hml]; rfl) (argsL := [(.ref y1_), (.double (FP.l2d 1))]) (rest := []) (lenOf pd_22 rfl) rfl (by show 2 * 0 + _ ≤ _; exact Nat.le_of_eq rfl) (hb hby d8_23) (fun _ _ => ⟨rfl, e6, (by decide : 6 + 0 ≤ _), (by decide : 244 + 0 ≤ _)⟩)
  dsimp only [Pt.U, Pt.locs, Pt.cells, Pt.slots] at X7 l7 y7 z7 st7 hQ7
  subst l7 y7 z7
  obtain ⟨rfl, N7q, heq7⟩ := hQ7
  have N7 := Fr.app N5 N7q
  refine own_by (S' := T7.setTop (mkF m 26 #[.val (.double (FP.l2d 1)), .second, .val (.ref o), .val (.double (FP.l2d 0)), .second, .val (.double (FP.l2d 1)), .second, .val (.double (FP.l2d 0)), .second, .val (.double (FP.l2d 0)), .second, .val (.double (FP.l2d 0)), .second, .val (.double (FP.l2d 0)), .second, .val (.double (FP.l2d 0)), .second, .val (.int sn), .val (.int (0 : Int32)), .val (.int hz), .unset, .unset] [])) (fun tZ kZ => st7 _ kZ) ?_
  obtain ⟨y2_, T8, h8, k8, t_y2_, kc_y2_, X8, e8, E8, hS8, hk8, hZ8, hown8, Ge_y2_, Co_y2_, Va_y2_, Ar_y2_, -, -, hI8, st8⟩ := ldcSV X7 hx hZ6 hown6 (hw_ hw 91 rfl) (own_str hw) heq7 hS6 hk6 (by rw [hh, ← hn0]; exact N7) (fun bZ cZ qZ => by rw [hh]; exact EZ.2 bZ cZ qZ) hI6 (by decide) (HC ("com/example/tidewatch/tidewatch/core/TidewatchPolicy$Settings", 87) (List.mem_of_getElem? (i := 3) rfl)) hcw (vs := [.int 104, .int 111, .int 108, .int 100, .int 83, .int 101, .int 99, .int 111, .int 110, .int 100, .int 115]) (z := 11) ⟨by decide +kernel, by decide +kernel⟩ (by decide) (by decide) (g := (mkF m 26 #[.val (.double (FP.l2d 1)), .second, .val (.ref o), .val (.double (FP.l2d 0)), .second, .val (.double (FP.l2d 1)), .second, .val (.double (FP.l2d 0)), .second, .val (.double (FP.l2d 0)), .second, .val (.double (FP.l2d 0)), .second, .val (.double (FP.l2d 0)), .second, .val (.double (FP.l2d 0)), .second, .val (.int sn), .val (.int (0 : Int32)), .val (.int hz), .unset, .unset] [])) rfl (hb hby d8_26) (n := 44) (by decide) (by decide) (by decide) (by decide)
  have Zs8 : n0 ≤ h8.size := Nat.le_trans Zs6 E8.1
  have K8 := K6.ext E8
  refine own_by (S' := T8.setTop (mkF m 28 #[.val (.double (FP.l2d 1)), .second, .val (.ref o), .val (.double (FP.l2d 0)), .second, .val (.double (FP.l2d 1)), .second, .val (.double (FP.l2d 0)), .second, .val (.double (FP.l2d 0)), .second, .val (.double (FP.l2d 0)), .second, .val (.double (FP.l2d 0)), .second, .val (.double (FP.l2d 0)), .second, .val (.int sn), .val (.int (0 : Int32)), .val (.int hz), .unset, .unset] [(.ref y2_)])) st8 ?_
  refine own_by (S' := T8.setTop (mkF m 30 #[.val (.double (FP.l2d 1)), .second, .val (.ref o), .val (.double (FP.l2d 0)), .second, .val (.double (FP.l2d 1)), .second, .val (.double (FP.l2d 0)), .second, .val (.double (FP.l2d 0)), .second, .val (.double (FP.l2d 0)), .second, .val (.double (FP.l2d 0)), .second, .val (.double (FP.l2d 0)), .second, .val (.int sn), .val (.int (0 : Int32)), .val (.int hz), .unset, .unset] [(.double (FP.l2d 0)), (.ref y2_)])) (fun tZ kZ => XS.dload X8.here hx rfl (hb hby d8_28) rfl kZ) ?_
  obtain ⟨_, _, ⟨T9, L9, k9, n9⟩, -, X9, ⟨Lc9, hQ9, l9, y9, z9⟩, st9⟩ := Jvm.LawKit.callS X8 hx (y := (⟨"com/example/tidewatch/tidewatch/core/SettingChecks", "finiteAtLeastZero", "(Ljava/lang/String;D)V"⟩ : MethodName)) hown8 (mvT hZ8 (hw_ hw 73 rfl)) (mvT hZ8 (hw_ hw 74 rfl)) (mvT hZ8 (hw_ hw 70 rfl)) (mvT hZ8 (hw_ hw 75 rfl)) (by decide) (backOf (W := 0) (rmFz l Z a0 hw [] y2_ h8 n0 Zs8) hZ8 (hw_ hw 75 rfl) (hw_ hw 70 rfl) (by decide) (by decide)) (g := (mkF m 30 #[.val (.double (FP.l2d 1)), .second, .val (.ref o), .val (.double (FP.l2d 0)), .second, .val (.double (FP.l2d 1)), .second, .val (.double (FP.l2d 0)), .second, .val (.double (FP.l2d 0)), .second, .val (.double (FP.l2d 0)), .second, .val (.double (FP.l2d 0)), .second, .val (.double (FP.l2d 0)), .second, .val (.int sn), .val (.int (0 : Int32)), .val (.int hz), .unset, .unset] [(.double (FP.l2d 0)), (.ref y2_)])) rfl (by rw [hml]; rfl) (argsL := [(.ref y2_), (.double (FP.l2d 0))]) (rest := []) (lenOf pd_22 rfl) rfl (by show 2 * 0 + _ ≤ _; exact Nat.le_of_eq rfl) (hb hby d8_30) (fun _ _ => ⟨rfl, e8, (by decide : 8 + 0 ≤ _), (by decide : 292 + 0 ≤ _)⟩)
  dsimp only [Pt.U, Pt.locs, Pt.cells, Pt.slots] at X9 l9 y9 z9 st9 hQ9
  subst l9 y9 z9
  obtain ⟨rfl, N9q, heq9⟩ := hQ9
  have N9 := Fr.app N7 N9q
  refine own_by (S' := T9.setTop (mkF m 33 #[.val (.double (FP.l2d 1)), .second, .val (.ref o), .val (.double (FP.l2d 0)), .second, .val (.double (FP.l2d 1)), .second, .val (.double (FP.l2d 0)), .second, .val (.double (FP.l2d 0)), .second, .val (.double (FP.l2d 0)), .second, .val (.double (FP.l2d 0)), .second, .val (.double (FP.l2d 0)), .second, .val (.int sn), .val (.int (0 : Int32)), .val (.int hz), .unset, .unset] [])) (fun tZ kZ => st9 _ kZ) ?_
  obtain ⟨y3_, T10, h10, k10, t_y3_, kc_y3_, X10, e10, E10, hS10, hk10, hZ10, hown10, Ge_y3_, Co_y3_, Va_y3_, Ar_y3_, -, -, hI10, st10⟩ := ldcSV X9 hx hZ8 hown8 (hw_ hw 92 rfl) (own_str hw) heq9 hS8 hk8 (by rw [hh, ← hn0]; exact N9) (fun bZ cZ qZ => by rw [hh]; exact EZ.2 bZ cZ qZ) hI8 (by decide) (HC ("com/example/tidewatch/tidewatch/core/TidewatchPolicy$Settings", 88) (List.mem_of_getElem? (i := 4) rfl)) hcw (vs := [.int 114, .int 101, .int 115, .int 99, .int 97, .int 108, .int 101, .int 67, .int 111, .int 115, .int 116]) (z := 11) ⟨by decide +kernel, by decide +kernel⟩ (by decide) (by decide) (g := (mkF m 33 #[.val (.double (FP.l2d 1)), .second, .val (.ref o), .val (.double (FP.l2d 0)), .second, .val (.double (FP.l2d 1)), .second, .val (.double (FP.l2d 0)), .second, .val (.double (FP.l2d 0)), .second, .val (.double (FP.l2d 0)), .second, .val (.double (FP.l2d 0)), .second, .val (.double (FP.l2d 0)), .second, .val (.int sn), .val (.int (0 : Int32)), .val (.int hz), .unset, .unset] [])) rfl (hb hby d8_33) (n := 44) (by decide) (by decide) (by decide) (by decide)
  have Zs10 : n0 ≤ h10.size := Nat.le_trans Zs8 E10.1
  have K10 := K8.ext E10
  refine own_by (S' := T10.setTop (mkF m 35 #[.val (.double (FP.l2d 1)), .second, .val (.ref o), .val (.double (FP.l2d 0)), .second, .val (.double (FP.l2d 1)), .second, .val (.double (FP.l2d 0)), .second, .val (.double (FP.l2d 0)), .second, .val (.double (FP.l2d 0)), .second, .val (.double (FP.l2d 0)), .second, .val (.double (FP.l2d 0)), .second, .val (.int sn), .val (.int (0 : Int32)), .val (.int hz), .unset, .unset] [(.ref y3_)])) st10 ?_
  refine own_by (S' := T10.setTop (mkF m 37 #[.val (.double (FP.l2d 1)), .second, .val (.ref o), .val (.double (FP.l2d 0)), .second, .val (.double (FP.l2d 1)), .second, .val (.double (FP.l2d 0)), .second, .val (.double (FP.l2d 0)), .second, .val (.double (FP.l2d 0)), .second, .val (.double (FP.l2d 0)), .second, .val (.double (FP.l2d 0)), .second, .val (.int sn), .val (.int (0 : Int32)), .val (.int hz), .unset, .unset] [(.double (FP.l2d 0)), (.ref y3_)])) (fun tZ kZ => XS.dload X10.here hx rfl (hb hby d8_35) rfl kZ) ?_
  obtain ⟨_, _, ⟨T11, L11, k11, n11⟩, -, X11, ⟨Lc11, hQ11, l11, y11, z11⟩, st11⟩ := Jvm.LawKit.callS X10 hx (y := (⟨"com/example/tidewatch/tidewatch/core/SettingChecks", "finiteAtLeastZero", "(Ljava/lang/String;D)V"⟩ : MethodName)) hown10 (mvT hZ10 (hw_ hw 73 rfl)) (mvT hZ10 (hw_ hw 74 rfl)) (mvT hZ10 (hw_ hw 70 rfl)) (mvT hZ10 (hw_ hw 75 rfl)) (by decide) (backOf (W := 0) (rmFz l Z a0 hw [] y3_ h10 n0 Zs10) hZ10 (hw_ hw 75 rfl) (hw_ hw 70 rfl) (by decide) (by decide)) (g := (mkF m 37 #[.val (.double (FP.l2d 1)), .second, .val (.ref o), .val (.double (FP.l2d 0)), .second, .val (.double (FP.l2d 1)), .second, .val (.double (FP.l2d 0)), .second, .val (.double (FP.l2d 0)), .second, .val (.double (FP.l2d 0)), .second, .val (.double (FP.l2d 0)), .second, .val (.double (FP.l2d 0)), .second, .val (.int sn), .val (.int (0 : Int32)), .val (.int hz), .unset, .unset] [(.double (FP.l2d 0)), (.ref y3_)])) rfl (by rw [hml]; rfl) (argsL := [(.ref y3_), (.double (FP.l2d 0))]) (rest := []) (lenOf pd_22 rfl) rfl (by show 2 * 0 + _ ≤ _; exact Nat.le_of_eq rfl) (hb hby d8_37) (fun _ _ => ⟨rfl, e10, (by decide : 10 + 0 ≤ _), (by decide : 340 + 0 ≤ _)⟩)
  dsimp only [Pt.U, Pt.locs, Pt.cells, Pt.slots] at X11 l11 y11 z11 st11 hQ11
  subst l11 y11 z11
  obtain ⟨rfl, N11q, heq11⟩ := hQ11
  have N11 := Fr.app N9 N11q
  refine own_by (S' := T11.setTop (mkF m 40 #[.val (.double (FP.l2d 1)), .second, .val (.ref o), .val (.double (FP.l2d 0)), .second, .val (.double (FP.l2d 1)), .second, .val (.double (FP.l2d 0)), .second, .val (.double (FP.l2d 0)), .second, .val (.double (FP.l2d 0)), .second, .val (.double (FP.l2d 0)), .second, .val (.double (FP.l2d 0)), .second, .val (.int sn), .val (.int (0 : Int32)), .val (.int hz), .unset, .unset] [])) (fun tZ kZ => st11 _ kZ) ?_
  obtain ⟨y4_, T12, h12, k12, t_y4_, kc_y4_, X12, e12, E12, hS12, hk12, hZ12, hown12, Ge_y4_, Co_y4_, Va_y4_, Ar_y4_, -, -, hI12, st12⟩ := ldcSV X11 hx hZ10 hown10 (hw_ hw 93 rfl) (own_str hw) heq11 hS10 hk10 (by rw [hh, ← hn0]; exact N11) (fun bZ cZ qZ => by rw [hh]; exact EZ.2 bZ cZ qZ) hI10 (by decide) (HC ("com/example/tidewatch/tidewatch/core/TidewatchPolicy$Settings", 89) (List.mem_of_getElem? (i := 5) rfl)) hcw (vs := [.int 115, .int 104, .int 111, .int 114, .int 116, .int 102, .int 97, .int 108, .int 108, .int 67, .int 111, .int 115, .int 116]) (z := 13) ⟨by decide +kernel, by decide +kernel⟩ (by decide) (by decide) (g := (mkF m 40 #[.val (.double (FP.l2d 1)), .second, .val (.ref o), .val (.double (FP.l2d 0)), .second, .val (.double (FP.l2d 1)), .second, .val (.double (FP.l2d 0)), .second, .val (.double (FP.l2d 0)), .second, .val (.double (FP.l2d 0)), .second, .val (.double (FP.l2d 0)), .second, .val (.double (FP.l2d 0)), .second, .val (.int sn), .val (.int (0 : Int32)), .val (.int hz), .unset, .unset] [])) rfl (hb hby d8_40) (n := 52) (by decide) (by decide) (by decide) (by decide)
  have Zs12 : n0 ≤ h12.size := Nat.le_trans Zs10 E12.1
  have K12 := K10.ext E12
  refine own_by (S' := T12.setTop (mkF m 42 #[.val (.double (FP.l2d 1)), .second, .val (.ref o), .val (.double (FP.l2d 0)), .second, .val (.double (FP.l2d 1)), .second, .val (.double (FP.l2d 0)), .second, .val (.double (FP.l2d 0)), .second, .val (.double (FP.l2d 0)), .second, .val (.double (FP.l2d 0)), .second, .val (.double (FP.l2d 0)), .second, .val (.int sn), .val (.int (0 : Int32)), .val (.int hz), .unset, .unset] [(.ref y4_)])) st12 ?_
  refine own_by (S' := T12.setTop (mkF m 44 #[.val (.double (FP.l2d 1)), .second, .val (.ref o), .val (.double (FP.l2d 0)), .second, .val (.double (FP.l2d 1)), .second, .val (.double (FP.l2d 0)), .second, .val (.double (FP.l2d 0)), .second, .val (.double (FP.l2d 0)), .second, .val (.double (FP.l2d 0)), .second, .val (.double (FP.l2d 0)), .second, .val (.int sn), .val (.int (0 : Int32)), .val (.int hz), .unset, .unset] [(.double (FP.l2d 0)), (.ref y4_)])) (fun tZ kZ => XS.dload X12.here hx rfl (hb hby d8_42) rfl kZ) ?_
  obtain ⟨_, _, ⟨T13, L13, k13, n13⟩, -, X13, ⟨Lc13, hQ13, l13, y13, z13⟩, st13⟩ := Jvm.LawKit.callS X12 hx (y := (⟨"com/example/tidewatch/tidewatch/core/SettingChecks", "finiteAtLeastZero", "(Ljava/lang/String;D)V"⟩ : MethodName)) hown12 (mvT hZ12 (hw_ hw 73 rfl)) (mvT hZ12 (hw_ hw 74 rfl)) (mvT hZ12 (hw_ hw 70 rfl)) (mvT hZ12 (hw_ hw 75 rfl)) (by decide) (backOf (W := 0) (rmFz l Z a0 hw [] y4_ h12 n0 Zs12) hZ12 (hw_ hw 75 rfl) (hw_ hw 70 rfl) (by decide) (by decide)) (g := (mkF m 44 #[.val (.double (FP.l2d 1)), .second, .val (.ref o), .val (.double (FP.l2d 0)), .second, .val (.double (FP.l2d 1)), .second, .val (.double (FP.l2d 0)), .second, .val (.double (FP.l2d 0)), .second, .val (.double (FP.l2d 0)), .second, .val (.double (FP.l2d 0)), .second, .val (.double (FP.l2d 0)), .second, .val (.int sn), .val (.int (0 : Int32)), .val (.int hz), .unset, .unset] [(.double (FP.l2d 0)), (.ref y4_)])) rfl (by rw [hml]; rfl) (argsL := [(.ref y4_), (.double (FP.l2d 0))]) (rest := []) (lenOf pd_22 rfl) rfl (by show 2 * 0 + _ ≤ _; exact Nat.le_of_eq rfl) (hb hby d8_44) (fun _ _ => ⟨rfl, e12, (by decide : 12 + 0 ≤ _), (by decide : 396 + 0 ≤ _)⟩)
  dsimp only [Pt.U, Pt.locs, Pt.cells, Pt.slots] at X13 l13 y13 z13 st13 hQ13
  subst l13 y13 z13
  obtain ⟨rfl, N13q, heq13⟩ := hQ13
  have N13 := Fr.app N11 N13q
  refine own_by (S' := T13.setTop (mkF m 47 #[.val (.double (FP.l2d 1)), .second, .val (.ref o), .val (.double (FP.l2d 0)), .second, .val (.double (FP.l2d 1)), .second, .val (.double (FP.l2d 0)), .second, .val (.double (FP.l2d 0)), .second, .val (.double (FP.l2d 0)), .second, .val (.double (FP.l2d 0)), .second, .val (.double (FP.l2d 0)), .second, .val (.int sn), .val (.int (0 : Int32)), .val (.int hz), .unset, .unset] [])) (fun tZ kZ => st13 _ kZ) ?_
  obtain ⟨y5_, T14, h14, k14, t_y5_, kc_y5_, X14, e14, E14, hS14, hk14, hZ14, hown14, Ge_y5_, Co_y5_, Va_y5_, Ar_y5_, -, -, hI14, st14⟩ := ldcSV X13 hx hZ12 hown12 (hw_ hw 94 rfl) (own_str hw) heq13 hS12 hk12 (by rw [hh, ← hn0]; exact N13) (fun bZ cZ qZ => by rw [hh]; exact EZ.2 bZ cZ qZ) hI12 (by decide) (HC ("com/example/tidewatch/tidewatch/core/TidewatchPolicy$Settings", 90) (List.mem_of_getElem? (i := 6) rfl)) hcw (vs := [.int 117, .int 110, .int 100, .int 101, .int 114, .int 80, .int 114, .int 111, .int 118, .int 105, .int 115, .int 105, .int 111, .int 110, .int 101, .int 100, .int 67, .int 111, .int 115, .int 116]) (z := 20) ⟨by decide +kernel, by decide +kernel⟩ (by decide) (by decide) (g := (mkF m 47 #[.val (.double (FP.l2d 1)), .second, .val (.ref o), .val (.double (FP.l2d 0)), .second, .val (.double (FP.l2d 1)), .second, .val (.double (FP.l2d 0)), .second, .val (.double (FP.l2d 0)), .second, .val (.double (FP.l2d 0)), .second, .val (.double (FP.l2d 0)), .second, .val (.double (FP.l2d 0)), .second, .val (.int sn), .val (.int (0 : Int32)), .val (.int hz), .unset, .unset] [])) rfl (hb hby d8_47) (n := 80) (by decide) (by decide) (by decide) (by decide)
  have Zs14 : n0 ≤ h14.size := Nat.le_trans Zs12 E14.1
  have K14 := K12.ext E14
  refine own_by (S' := T14.setTop (mkF m 49 #[.val (.double (FP.l2d 1)), .second, .val (.ref o), .val (.double (FP.l2d 0)), .second, .val (.double (FP.l2d 1)), .second, .val (.double (FP.l2d 0)), .second, .val (.double (FP.l2d 0)), .second, .val (.double (FP.l2d 0)), .second, .val (.double (FP.l2d 0)), .second, .val (.double (FP.l2d 0)), .second, .val (.int sn), .val (.int (0 : Int32)), .val (.int hz), .unset, .unset] [(.ref y5_)])) st14 ?_
  refine own_by (S' := T14.setTop (mkF m 51 #[.val (.double (FP.l2d 1)), .second, .val (.ref o), .val (.double (FP.l2d 0)), .second, .val (.double (FP.l2d 1)), .second, .val (.double (FP.l2d 0)), .second, .val (.double (FP.l2d 0)), .second, .val (.double (FP.l2d 0)), .second, .val (.double (FP.l2d 0)), .second, .val (.double (FP.l2d 0)), .second, .val (.int sn), .val (.int (0 : Int32)), .val (.int hz), .unset, .unset] [(.double (FP.l2d 0)), (.ref y5_)])) (fun tZ kZ => XS.dload X14.here hx rfl (hb hby d8_49) rfl kZ) ?_
  obtain ⟨_, _, ⟨T15, L15, k15, n15⟩, -, X15, ⟨Lc15, hQ15, l15, y15, z15⟩, st15⟩ := Jvm.LawKit.callS X14 hx (y := (⟨"com/example/tidewatch/tidewatch/core/SettingChecks", "finiteAtLeastZero", "(Ljava/lang/String;D)V"⟩ : MethodName)) hown14 (mvT hZ14 (hw_ hw 73 rfl)) (mvT hZ14 (hw_ hw 74 rfl)) (mvT hZ14 (hw_ hw 70 rfl)) (mvT hZ14 (hw_ hw 75 rfl)) (by decide) (backOf (W := 0) (rmFz l Z a0 hw [] y5_ h14 n0 Zs14) hZ14 (hw_ hw 75 rfl) (hw_ hw 70 rfl) (by decide) (by decide)) (g := (mkF m 51 #[.val (.double (FP.l2d 1)), .second, .val (.ref o), .val (.double (FP.l2d 0)), .second, .val (.double (FP.l2d 1)), .second, .val (.double (FP.l2d 0)), .second, .val (.double (FP.l2d 0)), .second, .val (.double (FP.l2d 0)), .second, .val (.double (FP.l2d 0)), .second, .val (.double (FP.l2d 0)), .second, .val (.int sn), .val (.int (0 : Int32)), .val (.int hz), .unset, .unset] [(.double (FP.l2d 0)), (.ref y5_)])) rfl (by rw [hml]; rfl) (argsL := [(.ref y5_), (.double (FP.l2d 0))]) (rest := []) (lenOf pd_22 rfl) rfl (by show 2 * 0 + _ ≤ _; exact Nat.le_of_eq rfl) (hb hby d8_51) (fun _ _ => ⟨rfl, e14, (by decide : 14 + 0 ≤ _), (by decide : 480 + 0 ≤ _)⟩)
  dsimp only [Pt.U, Pt.locs, Pt.cells, Pt.slots] at X15 l15 y15 z15 st15 hQ15
  subst l15 y15 z15
  obtain ⟨rfl, N15q, heq15⟩ := hQ15
  have N15 := Fr.app N13 N15q
  refine own_by (S' := T15.setTop (mkF m 54 #[.val (.double (FP.l2d 1)), .second, .val (.ref o), .val (.double (FP.l2d 0)), .second, .val (.double (FP.l2d 1)), .second, .val (.double (FP.l2d 0)), .second, .val (.double (FP.l2d 0)), .second, .val (.double (FP.l2d 0)), .second, .val (.double (FP.l2d 0)), .second, .val (.double (FP.l2d 0)), .second, .val (.int sn), .val (.int (0 : Int32)), .val (.int hz), .unset, .unset] [])) (fun tZ kZ => st15 _ kZ) ?_
  obtain ⟨y6_, T16, h16, k16, t_y6_, kc_y6_, X16, e16, E16, hS16, hk16, hZ16, hown16, Ge_y6_, Co_y6_, Va_y6_, Ar_y6_, -, -, hI16, st16⟩ := ldcSV X15 hx hZ14 hown14 (hw_ hw 95 rfl) (own_str hw) heq15 hS14 hk14 (by rw [hh, ← hn0]; exact N15) (fun bZ cZ qZ => by rw [hh]; exact EZ.2 bZ cZ qZ) hI14 (by decide) (HC ("com/example/tidewatch/tidewatch/core/TidewatchPolicy$Settings", 91) (List.mem_of_getElem? (i := 7) rfl)) hcw (vs := [.int 102, .int 111, .int 114, .int 101, .int 99, .int 97, .int 115, .int 116, .int 77, .int 97, .int 114, .int 103, .int 105, .int 110]) (z := 14) ⟨by decide +kernel, by decide +kernel⟩ (by decide) (by decide) (g := (mkF m 54 #[.val (.double (FP.l2d 1)), .second, .val (.ref o), .val (.double (FP.l2d 0)), .second, .val (.double (FP.l2d 1)), .second, .val (.double (FP.l2d 0)), .second, .val (.double (FP.l2d 0)), .second, .val (.double (FP.l2d 0)), .second, .val (.double (FP.l2d 0)), .second, .val (.double (FP.l2d 0)), .second, .val (.int sn), .val (.int (0 : Int32)), .val (.int hz), .unset, .unset] [])) rfl (hb hby d8_54) (n := 56) (by decide) (by decide) (by decide) (by decide)
  have Zs16 : n0 ≤ h16.size := Nat.le_trans Zs14 E16.1
  have K16 := K14.ext E16
  refine own_by (S' := T16.setTop (mkF m 56 #[.val (.double (FP.l2d 1)), .second, .val (.ref o), .val (.double (FP.l2d 0)), .second, .val (.double (FP.l2d 1)), .second, .val (.double (FP.l2d 0)), .second, .val (.double (FP.l2d 0)), .second, .val (.double (FP.l2d 0)), .second, .val (.double (FP.l2d 0)), .second, .val (.double (FP.l2d 0)), .second, .val (.int sn), .val (.int (0 : Int32)), .val (.int hz), .unset, .unset] [(.ref y6_)])) st16 ?_
  refine own_by (S' := T16.setTop (mkF m 58 #[.val (.double (FP.l2d 1)), .second, .val (.ref o), .val (.double (FP.l2d 0)), .second, .val (.double (FP.l2d 1)), .second, .val (.double (FP.l2d 0)), .second, .val (.double (FP.l2d 0)), .second, .val (.double (FP.l2d 0)), .second, .val (.double (FP.l2d 0)), .second, .val (.double (FP.l2d 0)), .second, .val (.int sn), .val (.int (0 : Int32)), .val (.int hz), .unset, .unset] [(.double (FP.l2d 0)), (.ref y6_)])) (fun tZ kZ => XS.dload X16.here hx rfl (hb hby d8_56) rfl kZ) ?_
  obtain ⟨_, _, ⟨T17, L17, k17, n17⟩, -, X17, ⟨Lc17, hQ17, l17, y17, z17⟩, st17⟩ := Jvm.LawKit.callS X16 hx (y := (⟨"com/example/tidewatch/tidewatch/core/SettingChecks", "finiteAtLeastZero", "(Ljava/lang/String;D)V"⟩ : MethodName)) hown16 (mvT hZ16 (hw_ hw 73 rfl)) (mvT hZ16 (hw_ hw 74 rfl)) (mvT hZ16 (hw_ hw 70 rfl)) (mvT hZ16 (hw_ hw 75 rfl)) (by decide) (backOf (W := 0) (rmFz l Z a0 hw [] y6_ h16 n0 Zs16) hZ16 (hw_ hw 75 rfl) (hw_ hw 70 rfl) (by decide) (by decide)) (g := (mkF m 58 #[.val (.double (FP.l2d 1)), .second, .val (.ref o), .val (.double (FP.l2d 0)), .second, .val (.double (FP.l2d 1)), .second, .val (.double (FP.l2d 0)), .second, .val (.double (FP.l2d 0)), .second, .val (.double (FP.l2d 0)), .second, .val (.double (FP.l2d 0)), .second, .val (.double (FP.l2d 0)), .second, .val (.int sn), .val (.int (0 : Int32)), .val (.int hz), .unset, .unset] [(.double (FP.l2d 0)), (.ref y6_)])) rfl (by rw [hml]; rfl) (argsL := [(.ref y6_), (.double (FP.l2d 0))]) (rest := []) (lenOf pd_22 rfl) rfl (by show 2 * 0 + _ ≤ _; exact Nat.le_of_eq rfl) (hb hby d8_58) (fun _ _ => ⟨rfl, e16, (by decide : 16 + 0 ≤ _), (by decide : 540 + 0 ≤ _)⟩)
  dsimp only [Pt.U, Pt.locs, Pt.cells, Pt.slots] at X17 l17 y17 z17 st17 hQ17
  subst l17 y17 z17
  obtain ⟨rfl, N17q, heq17⟩ := hQ17
  have N17 := Fr.app N15 N17q
  refine own_by (S' := T17.setTop (mkF m 61 #[.val (.double (FP.l2d 1)), .second, .val (.ref o), .val (.double (FP.l2d 0)), .second, .val (.double (FP.l2d 1)), .second, .val (.double (FP.l2d 0)), .second, .val (.double (FP.l2d 0)), .second, .val (.double (FP.l2d 0)), .second, .val (.double (FP.l2d 0)), .second, .val (.double (FP.l2d 0)), .second, .val (.int sn), .val (.int (0 : Int32)), .val (.int hz), .unset, .unset] [])) (fun tZ kZ => st17 _ kZ) ?_
  refine own_by (S' := T17.setTop (mkF m 62 #[.val (.double (FP.l2d 1)), .second, .val (.ref o), .val (.double (FP.l2d 0)), .second, .val (.double (FP.l2d 1)), .second, .val (.double (FP.l2d 0)), .second, .val (.double (FP.l2d 0)), .second, .val (.double (FP.l2d 0)), .second, .val (.double (FP.l2d 0)), .second, .val (.double (FP.l2d 0)), .second, .val (.int sn), .val (.int (0 : Int32)), .val (.int hz), .unset, .unset] [(.ref o)])) (fun tZ kZ => XS.aloadN X17.here hx rfl (hb hby d8_61) rfl rfl kZ) ?_
  have ExK16 := own_ext0 K16
  obtain ⟨cq18, kq18, q18a, q18b, q18c⟩ := isOf hZ16 heq17 (O.ext ExK16).1
  obtain ⟨_, _, ⟨T18, L18, k18, n18⟩, -, X18, ⟨Lc18, hQ18, l18, y18, z18⟩, st18⟩ := X17.virtualBack hx (y := (⟨"java/util/OptionalInt", "isPresent", "()Z"⟩ : MethodName)) (z := (⟨"java/util/OptionalInt", "isPresent", "()Z"⟩ : MethodName)) hown16 (mvT hZ16 (hw_ hw 96 rfl)) (mvT hZ16 (hw_ hw 97 rfl)) (notFace_of_selects (args := #[]) (mvT hZ16 (hw_ hw 99 rfl))) (mvT hZ16 (hw_ hw 99 rfl)) (mvT hZ16 (hw_ hw 98 rfl)) (by decide) (backOf (W := 0) (rmPr l Z a0 hw [] o x h16 n0 Zs16 (O.ext ExK16)) hZ16 (hw_ hw 100 rfl) (hw_ hw 26 rfl) (by decide) (by decide)) q18a q18c (g := (mkF m 62 #[.val (.double (FP.l2d 1)), .second, .val (.ref o), .val (.double (FP.l2d 0)), .second, .val (.double (FP.l2d 1)), .second, .val (.double (FP.l2d 0)), .second, .val (.double (FP.l2d 0)), .second, .val (.double (FP.l2d 0)), .second, .val (.double (FP.l2d 0)), .second, .val (.double (FP.l2d 0)), .second, .val (.int sn), .val (.int (0 : Int32)), .val (.int hz), .unset, .unset] [(.ref o)])) rfl (by rw [hml]; rfl) (Steps.refl _) (argsL := []) (rest := []) (lenOf pd_5 rfl) rfl (by show 2 * 0 + _ ≤ _; exact Nat.le_of_eq rfl) (hb hby d8_62) (fun _ _ => ⟨rfl, heq17, (by decide : 16 + 0 ≤ _), (by decide : 540 + 0 ≤ _)⟩)
  dsimp only [Pt.U, Pt.locs, Pt.cells, Pt.slots] at X18 l18 y18 z18 st18 hQ18
  subst l18 y18 z18
  obtain ⟨rfl, N18q, heq18⟩ := hQ18
  have N18 := Fr.app N17 N18q
  refine own_by (S' := T18.setTop (mkF m 65 #[.val (.double (FP.l2d 1)), .second, .val (.ref o), .val (.double (FP.l2d 0)), .second, .val (.double (FP.l2d 1)), .second, .val (.double (FP.l2d 0)), .second, .val (.double (FP.l2d 0)), .second, .val (.double (FP.l2d 0)), .second, .val (.double (FP.l2d 0)), .second, .val (.double (FP.l2d 0)), .second, .val (.int sn), .val (.int (0 : Int32)), .val (.int hz), .unset, .unset] [(.int (1 : Int32))])) (fun tZ kZ => st18.trans kZ) ?_
  refine own_by (S' := T18.setTop (mkF m 68 #[.val (.double (FP.l2d 1)), .second, .val (.ref o), .val (.double (FP.l2d 0)), .second, .val (.double (FP.l2d 1)), .second, .val (.double (FP.l2d 0)), .second, .val (.double (FP.l2d 0)), .second, .val (.double (FP.l2d 0)), .second, .val (.double (FP.l2d 0)), .second, .val (.double (FP.l2d 0)), .second, .val (.int sn), .val (.int (0 : Int32)), .val (.int hz), .unset, .unset] [])) (fun tZ kZ => XS.ifNo X18.here hx rfl (hb hby d8_65) rfl ((if0 _ _).trans (feq (by decide)).1) kZ) ?_
  refine own_by (S' := T18.setTop (mkF m 69 #[.val (.double (FP.l2d 1)), .second, .val (.ref o), .val (.double (FP.l2d 0)), .second, .val (.double (FP.l2d 1)), .second, .val (.double (FP.l2d 0)), .second, .val (.double (FP.l2d 0)), .second, .val (.double (FP.l2d 0)), .second, .val (.double (FP.l2d 0)), .second, .val (.double (FP.l2d 0)), .second, .val (.int sn), .val (.int (0 : Int32)), .val (.int hz), .unset, .unset] [(.ref o)])) (fun tZ kZ => XS.aloadN X18.here hx rfl (hb hby d8_68) rfl rfl kZ) ?_
  obtain ⟨cq19, kq19, q19a, q19b, q19c⟩ := isOf hZ16 heq18 (O.ext ExK16).1
  obtain ⟨_, _, ⟨T19, L19, k19, n19⟩, -, X19, ⟨Lc19, hQ19, l19, y19, z19⟩, st19⟩ := X18.virtualBack hx (y := (⟨"java/util/OptionalInt", "getAsInt", "()I"⟩ : MethodName)) (z := (⟨"java/util/OptionalInt", "getAsInt", "()I"⟩ : MethodName)) hown16 (mvT hZ16 (hw_ hw 101 rfl)) (mvT hZ16 (hw_ hw 102 rfl)) (notFace_of_selects (args := #[]) (mvT hZ16 (hw_ hw 104 rfl))) (mvT hZ16 (hw_ hw 104 rfl)) (mvT hZ16 (hw_ hw 103 rfl)) (by decide) (backOf (W := 0) (rmGi l Z a0 hw [] o x h16 n0 Zs16 (O.ext ExK16)) hZ16 (hw_ hw 105 rfl) (hw_ hw 26 rfl) (by decide) (by decide)) q19a q19c (g := (mkF m 69 #[.val (.double (FP.l2d 1)), .second, .val (.ref o), .val (.double (FP.l2d 0)), .second, .val (.double (FP.l2d 1)), .second, .val (.double (FP.l2d 0)), .second, .val (.double (FP.l2d 0)), .second, .val (.double (FP.l2d 0)), .second, .val (.double (FP.l2d 0)), .second, .val (.double (FP.l2d 0)), .second, .val (.int sn), .val (.int (0 : Int32)), .val (.int hz), .unset, .unset] [(.ref o)])) rfl (by rw [hml]; rfl) (Steps.refl _) (argsL := []) (rest := []) (lenOf pd_10 rfl) rfl (by show 2 * 0 + _ ≤ _; exact Nat.le_of_eq rfl) (hb hby d8_69) (fun _ _ => ⟨rfl, heq18, (by decide : 16 + 0 ≤ _), (by decide : 540 + 0 ≤ _)⟩)
  dsimp only [Pt.U, Pt.locs, Pt.cells, Pt.slots] at X19 l19 y19 z19 st19 hQ19
  subst l19 y19 z19
  obtain ⟨rfl, N19q, heq19⟩ := hQ19
  have N19 := Fr.app N18 N19q
  refine own_by (S' := T19.setTop (mkF m 72 #[.val (.double (FP.l2d 1)), .second, .val (.ref o), .val (.double (FP.l2d 0)), .second, .val (.double (FP.l2d 1)), .second, .val (.double (FP.l2d 0)), .second, .val (.double (FP.l2d 0)), .second, .val (.double (FP.l2d 0)), .second, .val (.double (FP.l2d 0)), .second, .val (.double (FP.l2d 0)), .second, .val (.int sn), .val (.int (0 : Int32)), .val (.int hz), .unset, .unset] [(.int x)])) (fun tZ kZ => st19.trans kZ) ?_
  refine own_by (S' := T19.setTop (mkF m 74 #[.val (.double (FP.l2d 1)), .second, .val (.ref o), .val (.double (FP.l2d 0)), .second, .val (.double (FP.l2d 1)), .second, .val (.double (FP.l2d 0)), .second, .val (.double (FP.l2d 0)), .second, .val (.double (FP.l2d 0)), .second, .val (.double (FP.l2d 0)), .second, .val (.double (FP.l2d 0)), .second, .val (.int sn), .val (.int (0 : Int32)), .val (.int hz), .val (.int x), .unset] [])) (fun tZ kZ => XS.istore X19.here hx rfl (hb hby d8_72) rfl (l' := #[.val (.double (FP.l2d 1)), .second, .val (.ref o), .val (.double (FP.l2d 0)), .second, .val (.double (FP.l2d 1)), .second, .val (.double (FP.l2d 0)), .second, .val (.double (FP.l2d 0)), .second, .val (.double (FP.l2d 0)), .second, .val (.double (FP.l2d 0)), .second, .val (.double (FP.l2d 0)), .second, .val (.int sn), .val (.int (0 : Int32)), .val (.int hz), .val (.int x), .unset]) rfl kZ) ?_
  obtain ⟨T20, h20, X20, e20, E20, A20, D20, U20, st20⟩ := newO X19 hx hZ16 hown16 (hw_ hw 106 rfl) (hw_ hw 107 rfl) (hw_ hw 108 rfl) heq19 (g := (mkF m 74 #[.val (.double (FP.l2d 1)), .second, .val (.ref o), .val (.double (FP.l2d 0)), .second, .val (.double (FP.l2d 1)), .second, .val (.double (FP.l2d 0)), .second, .val (.double (FP.l2d 0)), .second, .val (.double (FP.l2d 0)), .second, .val (.double (FP.l2d 0)), .second, .val (.double (FP.l2d 0)), .second, .val (.int sn), .val (.int (0 : Int32)), .val (.int hz), .val (.int x), .unset] [])) rfl (hb hby d8_74) (by decide) (by decide)
  obtain ⟨b20, g20⟩ : ∃ z, z = h16.size := ⟨_, rfl⟩
  rw [← g20] at A20 D20 U20 st20
  have g_b20 : n0 ≤ b20 := Nat.le_trans Zs16 (Nat.le_of_eq g20.symm)
  have sz_b20 : h0.size ≤ b20 := Nat.le_trans K16.1 (Nat.le_of_eq g20.symm)
  have Zs20 : n0 ≤ h20.size := Nat.le_trans Zs16 E20.1
  have hk20 := Nat.le_trans hk16 E20.1
  have K20 := K16.ext E20
  have Ex_b20 := A20
  have F_value_b20 : Fld Z h20 b20 "java/lang/AbstractStringBuilder" "value" "[B" .null := D20 (Or.inl (hw_ hw 121 rfl)) (ty := (.array .byte)) (by decide)
  have F_coder_b20 : Fld Z h20 b20 "java/lang/AbstractStringBuilder" "coder" "B" (.int (0 : Int32)) := D20 (Or.inl (hw_ hw 123 rfl)) (ty := .byte) (by decide)
  have F_count_b20 : Fld Z h20 b20 "java/lang/AbstractStringBuilder" "count" "I" (.int (0 : Int32)) := D20 (Or.inl (hw_ hw 135 rfl)) (ty := .int) (by decide)
  refine own_by (S' := T20.setTop (mkF m 77 #[.val (.double (FP.l2d 1)), .second, .val (.ref o), .val (.double (FP.l2d 0)), .second, .val (.double (FP.l2d 1)), .second, .val (.double (FP.l2d 0)), .second, .val (.double (FP.l2d 0)), .second, .val (.double (FP.l2d 0)), .second, .val (.double (FP.l2d 0)), .second, .val (.double (FP.l2d 0)), .second, .val (.int sn), .val (.int (0 : Int32)), .val (.int hz), .val (.int x), .unset] [(.ref b20)])) st20 ?_
  refine own_by (S' := T20.setTop (mkF m 78 #[.val (.double (FP.l2d 1)), .second, .val (.ref o), .val (.double (FP.l2d 0)), .second, .val (.double (FP.l2d 1)), .second, .val (.double (FP.l2d 0)), .second, .val (.double (FP.l2d 0)), .second, .val (.double (FP.l2d 0)), .second, .val (.double (FP.l2d 0)), .second, .val (.double (FP.l2d 0)), .second, .val (.int sn), .val (.int (0 : Int32)), .val (.int hz), .val (.int x), .unset] [(.ref b20), (.ref b20)])) (fun tZ kZ => XS.dup X20.here hx rfl (hb hby d8_77) rfl rfl kZ) ?_
  have ExK20 := own_ext0 K20
  obtain ⟨_, _, ⟨T21, L21, k21, n21⟩, -, X21, ⟨Lc21, hQ21, l21, y21, z21⟩, st21⟩ := X20.specialBack hx (y := (⟨"java/lang/StringBuilder", "<init>", "()V"⟩ : MethodName)) rfl hown16 (mvT hZ16 (hw_ hw 109 rfl)) (mvT hZ16 (hw_ hw 110 rfl)) (mvT hZ16 (hw_ hw 111 rfl)) (by decide) (backOf (W := 1) (rmSi l Z a0 hw [] b20 cz h20 n0 Zs20 Ex_b20 F_value_b20 F_coder_b20 F_count_b20 g_b20 (Sc.ext ExK20) hcz) hZ16 (hw_ hw 111 rfl) (hw_ hw 108 rfl) (by decide) (by decide)) (g := (mkF m 78 #[.val (.double (FP.l2d 1)), .second, .val (.ref o), .val (.double (FP.l2d 0)), .second, .val (.double (FP.l2d 1)), .second, .val (.double (FP.l2d 0)), .second, .val (.double (FP.l2d 0)), .second, .val (.double (FP.l2d 0)), .second, .val (.double (FP.l2d 0)), .second, .val (.double (FP.l2d 0)), .second, .val (.int sn), .val (.int (0 : Int32)), .val (.int hz), .val (.int x), .unset] [(.ref b20), (.ref b20)])) rfl (by rw [hml]; rfl) (Steps.refl _) (a := b20) (argsL := []) (rest := [(.ref b20)]) (lenOf pd_23 rfl) rfl (by show 2 * 0 + _ ≤ _; exact Nat.le_of_eq rfl) (hb hby d8_78) (fun _ _ => ⟨rfl, e20, (by decide : 17 + 1 ≤ _), (by decide : 544 + 16 ≤ _)⟩)
  dsimp only [Pt.U, Pt.locs, Pt.cells, Pt.slots] at X21 l21 y21 z21 st21 hQ21
  subst l21 y21 z21
  obtain ⟨rfl, N21q, Kc21, vb, kb, g_vb, szv21, OSa⟩ := hQ21
  have N21 := Fr.app N19 N21q
  have Zs21 := Nat.le_trans Zs20 Kc21.1
  have hk21 := Nat.le_trans hk20 Kc21.1
  have K21 := K20.trans Kc21 (fun x hx => by
      simp only [List.mem_cons, List.not_mem_nil, or_false] at hx
      rcases hx with rfl
      · exact Or.inr sz_b20)
  have Ex_b20_21 := Ex_b20.keep Kc21
  refine own_by (S' := T21.setTop (mkF m 81 #[.val (.double (FP.l2d 1)), .second, .val (.ref o), .val (.double (FP.l2d 0)), .second, .val (.double (FP.l2d 1)), .second, .val (.double (FP.l2d 0)), .second, .val (.double (FP.l2d 0)), .second, .val (.double (FP.l2d 0)), .second, .val (.double (FP.l2d 0)), .second, .val (.double (FP.l2d 0)), .second, .val (.int sn), .val (.int (0 : Int32)), .val (.int hz), .val (.int x), .unset] [(.ref b20)])) (fun tZ kZ => st21.trans kZ) ?_
  have sz_vb : h0.size ≤ vb := Nat.le_trans K20.1 szv21
  have nov : do_ ≠ vb := Nat.ne_of_lt (Nat.lt_of_lt_of_le A_o.lt sz_vb)
  have ntv : dt ≠ vb := Nat.ne_of_lt (Nat.lt_of_lt_of_le A_t.lt sz_vb)
  have Exb : Exa Z T21.heap b20 "java/lang/StringBuilder" := by
    obtain ⟨-, vs, B, -⟩ := OSa
    exact B.1
  refine own_by (S' := T21.setTop (mkF m 83 #[.val (.double (FP.l2d 1)), .second, .val (.ref o), .val (.double (FP.l2d 0)), .second, .val (.double (FP.l2d 1)), .second, .val (.double (FP.l2d 0)), .second, .val (.double (FP.l2d 0)), .second, .val (.double (FP.l2d 0)), .second, .val (.double (FP.l2d 0)), .second, .val (.double (FP.l2d 0)), .second, .val (.int sn), .val (.int (0 : Int32)), .val (.int hz), .val (.int x), .unset] [(.int x), (.ref b20)])) (fun tZ kZ => XS.iload X21.here hx rfl (hb hby d8_81) rfl kZ) ?_
  have ExK21 := own_ext0 K21
  obtain ⟨cq22, kq22, q22a, q22b, q22c⟩ := isOf hZ16 rfl Exb
  obtain ⟨_, _, ⟨T22, L22, k22, n22⟩, -, X22, ⟨Lc22, hQ22, l22, y22, z22⟩, st22⟩ := X21.virtualBack hx (y := (⟨"java/lang/StringBuilder", "append", "(I)Ljava/lang/StringBuilder;"⟩ : MethodName)) (z := (⟨"java/lang/StringBuilder", "append", "(I)Ljava/lang/StringBuilder;"⟩ : MethodName)) hown16 (mvT hZ16 (hw_ hw 124 rfl)) (mvT hZ16 (hw_ hw 125 rfl)) (notFace_of_selects (args := #[]) (mvT hZ16 (hw_ hw 127 rfl))) (mvT hZ16 (hw_ hw 127 rfl)) (mvT hZ16 (hw_ hw 126 rfl)) (by decide) (backOf (W := 0) (rmSAp l Z a0 hw [] b20 vb kb x cz do_ dt co ct T21.heap n0 Zs21 OSa hx1 g_b20 g_vb nov ntv (Sc.ext ExK21) hcz (S_o.ext ExK21) (A_o.ext ExK21) z_o e_o (S_t.ext ExK21) (A_t.ext ExK21) z_t e_t) hZ16 (hw_ hw 128 rfl) (hw_ hw 108 rfl) (by decide) (by decide)) q22a q22c (g := (mkF m 83 #[.val (.double (FP.l2d 1)), .second, .val (.ref o), .val (.double (FP.l2d 0)), .second, .val (.double (FP.l2d 1)), .second, .val (.double (FP.l2d 0)), .second, .val (.double (FP.l2d 0)), .second, .val (.double (FP.l2d 0)), .second, .val (.double (FP.l2d 0)), .second, .val (.double (FP.l2d 0)), .second, .val (.int sn), .val (.int (0 : Int32)), .val (.int hz), .val (.int x), .unset] [(.int x), (.ref b20)])) rfl (by rw [hml]; rfl) (Steps.refl _) (argsL := [(.int x)]) (rest := []) (lenOf pd_24 rfl) rfl (by show 2 * 0 + _ ≤ _; exact Nat.le_of_eq rfl) (hb hby d8_83) (fun _ _ => ⟨rfl, rfl, (by decide : 18 + 0 ≤ _), (by decide : 560 + 0 ≤ _)⟩)
  dsimp only [Pt.U, Pt.locs, Pt.cells, Pt.slots] at X22 l22 y22 z22 st22 hQ22
  subst l22 y22 z22
  obtain ⟨rfl, N22q, Kc22, cn, dn, hd1, hd10, OSb⟩ := hQ22
  have N22 := Fr.app N21 N22q
  have Zs22 := Nat.le_trans Zs21 Kc22.1
  have hk22 := Nat.le_trans hk21 Kc22.1
  have K22 := K21.trans Kc22 (fun x hx => by
      simp only [List.mem_cons, List.not_mem_nil, or_false] at hx
      rcases hx with rfl | rfl
      · exact Or.inr sz_b20
      · exact Or.inr sz_vb)
  refine own_by (S' := T22.setTop (mkF m 86 #[.val (.double (FP.l2d 1)), .second, .val (.ref o), .val (.double (FP.l2d 0)), .second, .val (.double (FP.l2d 1)), .second, .val (.double (FP.l2d 0)), .second, .val (.double (FP.l2d 0)), .second, .val (.double (FP.l2d 0)), .second, .val (.double (FP.l2d 0)), .second, .val (.double (FP.l2d 0)), .second, .val (.int sn), .val (.int (0 : Int32)), .val (.int hz), .val (.int x), .unset] [(.ref b20)])) (fun tZ kZ => st22.trans kZ) ?_
  obtain ⟨su, T23, h23, k23, t_su, kc_su, X23, e23, E23, hS23, hk23, hZ23, hown23, Ge_su, Co_su, Va_su, Ar_su, -, -, hI23, st23⟩ := ldcSV X22 hx hZ16 hown16 (hw_ hw 154 rfl) (own_str hw) rfl hS16 hk22 (by rw [hh, ← hn0]; exact N22) (fun bZ cZ qZ => by rw [hh]; exact EZ.2 bZ cZ qZ) hI16 (by decide) (HC ("com/example/tidewatch/tidewatch/core/TidewatchPolicy$Settings", 107) (List.mem_of_getElem? (i := 8) rfl)) hcw (vs := [.int 32, .int 115]) (z := 2) ⟨by decide +kernel, by decide +kernel⟩ (by decide) (by decide) (g := (mkF m 86 #[.val (.double (FP.l2d 1)), .second, .val (.ref o), .val (.double (FP.l2d 0)), .second, .val (.double (FP.l2d 1)), .second, .val (.double (FP.l2d 0)), .second, .val (.double (FP.l2d 0)), .second, .val (.double (FP.l2d 0)), .second, .val (.double (FP.l2d 0)), .second, .val (.double (FP.l2d 0)), .second, .val (.int sn), .val (.int (0 : Int32)), .val (.int hz), .val (.int x), .unset] [(.ref b20)])) rfl (hb hby d8_86) (n := 8) (by decide) (by decide) (by decide) (by decide)
  have OSb_23 := OSb.ext E23
  have Zs23 : n0 ≤ h23.size := Nat.le_trans Zs22 E23.1
  have K23 := K22.ext E23
  refine own_by (S' := T23.setTop (mkF m 88 #[.val (.double (FP.l2d 1)), .second, .val (.ref o), .val (.double (FP.l2d 0)), .second, .val (.double (FP.l2d 1)), .second, .val (.double (FP.l2d 0)), .second, .val (.double (FP.l2d 0)), .second, .val (.double (FP.l2d 0)), .second, .val (.double (FP.l2d 0)), .second, .val (.double (FP.l2d 0)), .second, .val (.int sn), .val (.int (0 : Int32)), .val (.int hz), .val (.int x), .unset] [(.ref su), (.ref b20)])) st23 ?_
  have V_tu := OwnA.ofArv Ar_su rfl
  have ntu := own_ntu OSb_23 V_tu
  have Exb2 : Exa Z h23 b20 "java/lang/StringBuilder" := by
    obtain ⟨-, vs, B, -⟩ := OSb_23
    exact B.1
  have ExK23 := own_ext0 K23
  obtain ⟨cq24, kq24, q24a, q24b, q24c⟩ := isOf hZ23 e23 Exb2
  obtain ⟨_, _, ⟨T24, L24, k24, n24⟩, -, X24, ⟨Lc24, hQ24, l24, y24, z24⟩, st24⟩ := X23.virtualBack hx (y := (⟨"java/lang/StringBuilder", "append", "(Ljava/lang/String;)Ljava/lang/StringBuilder;"⟩ : MethodName)) (z := (⟨"java/lang/StringBuilder", "append", "(Ljava/lang/String;)Ljava/lang/StringBuilder;"⟩ : MethodName)) hown23 (mvT hZ23 (hw_ hw 155 rfl)) (mvT hZ23 (hw_ hw 156 rfl)) (notFace_of_selects (args := #[]) (mvT hZ23 (hw_ hw 158 rfl))) (mvT hZ23 (hw_ hw 158 rfl)) (mvT hZ23 (hw_ hw 157 rfl)) (by decide) (backOf (W := 0) (rmSAs l Z a0 hw [] b20 vb kb cn cz dn su t_su kc_su h23 n0 Zs23 OSb_23 hd10 g_b20 g_vb Ge_su Va_su Co_su V_tu ntu (Sc.ext ExK23) hcz) hZ23 (hw_ hw 159 rfl) (hw_ hw 108 rfl) (by decide) (by decide)) q24a q24c (g := (mkF m 88 #[.val (.double (FP.l2d 1)), .second, .val (.ref o), .val (.double (FP.l2d 0)), .second, .val (.double (FP.l2d 1)), .second, .val (.double (FP.l2d 0)), .second, .val (.double (FP.l2d 0)), .second, .val (.double (FP.l2d 0)), .second, .val (.double (FP.l2d 0)), .second, .val (.double (FP.l2d 0)), .second, .val (.int sn), .val (.int (0 : Int32)), .val (.int hz), .val (.int x), .unset] [(.ref su), (.ref b20)])) rfl (by rw [hml]; rfl) (Steps.refl _) (argsL := [(.ref su)]) (rest := []) (lenOf pd_25 rfl) rfl (by show 2 * 0 + _ ≤ _; exact Nat.le_of_eq rfl) (hb hby d8_88) (fun _ _ => ⟨rfl, e23, (by decide : 20 + 0 ≤ _), (by decide : 572 + 0 ≤ _)⟩)
  dsimp only [Pt.U, Pt.locs, Pt.cells, Pt.slots] at X24 l24 y24 z24 st24 hQ24
  subst l24 y24 z24
  obtain ⟨rfl, N24q, Kc24, cn2, dn2, hd12, OSc⟩ := hQ24
  have N24 := Fr.app N22 N24q
  have Zs24 := Nat.le_trans Zs23 Kc24.1
  have hk24 := Nat.le_trans hk23 Kc24.1
  have K24 := K23.trans Kc24 (fun x hx => by
      simp only [List.mem_cons, List.not_mem_nil, or_false] at hx
      rcases hx with rfl | rfl
      · exact Or.inr sz_b20
      · exact Or.inr sz_vb)
  refine own_by (S' := T24.setTop (mkF m 91 #[.val (.double (FP.l2d 1)), .second, .val (.ref o), .val (.double (FP.l2d 0)), .second, .val (.double (FP.l2d 1)), .second, .val (.double (FP.l2d 0)), .second, .val (.double (FP.l2d 0)), .second, .val (.double (FP.l2d 0)), .second, .val (.double (FP.l2d 0)), .second, .val (.double (FP.l2d 0)), .second, .val (.int sn), .val (.int (0 : Int32)), .val (.int hz), .val (.int x), .unset] [(.ref b20)])) (fun tZ kZ => st24.trans kZ) ?_
  have Exb3 : Exa Z T24.heap b20 "java/lang/StringBuilder" := by
    obtain ⟨-, vs, B, -⟩ := OSc
    exact B.1
  have ExK24 := own_ext0 K24
  obtain ⟨cq25, kq25, q25a, q25b, q25c⟩ := isOf hZ23 rfl Exb3
  obtain ⟨_, _, ⟨T25, L25, k25, n25⟩, -, X25, ⟨Lc25, hQ25, l25, y25, z25⟩, st25⟩ := X24.virtualBack hx (y := (⟨"java/lang/StringBuilder", "toString", "()Ljava/lang/String;"⟩ : MethodName)) (z := (⟨"java/lang/StringBuilder", "toString", "()Ljava/lang/String;"⟩ : MethodName)) hown23 (mvT hZ23 (hw_ hw 197 rfl)) (mvT hZ23 (hw_ hw 198 rfl)) (notFace_of_selects (args := #[]) (mvT hZ23 (hw_ hw 200 rfl))) (mvT hZ23 (hw_ hw 200 rfl)) (mvT hZ23 (hw_ hw 199 rfl)) (by decide) (backOf (W := 0) (rmTs l Z a0 hw [] b20 vb kb cn2 cz dn2 T24.heap n0 Zs24 OSc hd12 (Sc.ext ExK24) hcz) hZ23 (hw_ hw 201 rfl) (hw_ hw 108 rfl) (by decide) (by decide)) q25a q25c (g := (mkF m 91 #[.val (.double (FP.l2d 1)), .second, .val (.ref o), .val (.double (FP.l2d 0)), .second, .val (.double (FP.l2d 1)), .second, .val (.double (FP.l2d 0)), .second, .val (.double (FP.l2d 0)), .second, .val (.double (FP.l2d 0)), .second, .val (.double (FP.l2d 0)), .second, .val (.double (FP.l2d 0)), .second, .val (.int sn), .val (.int (0 : Int32)), .val (.int hz), .val (.int x), .unset] [(.ref b20)])) rfl (by rw [hml]; rfl) (Steps.refl _) (argsL := []) (rest := []) (lenOf pd_26 rfl) rfl (by show 2 * 0 + _ ≤ _; exact Nat.le_of_eq rfl) (hb hby d8_91) (fun _ _ => ⟨rfl, rfl, (by decide : 20 + 2 ≤ _), (by decide : 572 + 16 ≤ _)⟩)
  dsimp only [Pt.U, Pt.locs, Pt.cells, Pt.slots] at X25 l25 y25 z25 st25 hQ25
  subst l25 y25 z25
  obtain ⟨rs, rfl, N25q, Kc25⟩ := hQ25
  have N25 := Fr.app N24 N25q
  have Zs25 := Nat.le_trans Zs24 Kc25.1
  have hk25 := Nat.le_trans hk24 Kc25.1
  have Ec25 := own_ext0 Kc25
  have K25 := K24.ext Ec25
  refine own_by (S' := T25.setTop (mkF m 94 #[.val (.double (FP.l2d 1)), .second, .val (.ref o), .val (.double (FP.l2d 0)), .second, .val (.double (FP.l2d 1)), .second, .val (.double (FP.l2d 0)), .second, .val (.double (FP.l2d 0)), .second, .val (.double (FP.l2d 0)), .second, .val (.double (FP.l2d 0)), .second, .val (.double (FP.l2d 0)), .second, .val (.int sn), .val (.int (0 : Int32)), .val (.int hz), .val (.int x), .unset] [(.ref rs)])) (fun tZ kZ => st25.trans kZ) ?_
  refine own_by (S' := T25.setTop (mkF m 96 #[.val (.double (FP.l2d 1)), .second, .val (.ref o), .val (.double (FP.l2d 0)), .second, .val (.double (FP.l2d 1)), .second, .val (.double (FP.l2d 0)), .second, .val (.double (FP.l2d 0)), .second, .val (.double (FP.l2d 0)), .second, .val (.double (FP.l2d 0)), .second, .val (.double (FP.l2d 0)), .second, .val (.int sn), .val (.int (0 : Int32)), .val (.int hz), .val (.int x), .val (.ref rs)] [])) (fun tZ kZ => XS.astore X25.here hx rfl (hb hby d8_94) rfl rfl (l' := #[.val (.double (FP.l2d 1)), .second, .val (.ref o), .val (.double (FP.l2d 0)), .second, .val (.double (FP.l2d 1)), .second, .val (.double (FP.l2d 0)), .second, .val (.double (FP.l2d 0)), .second, .val (.double (FP.l2d 0)), .second, .val (.double (FP.l2d 0)), .second, .val (.double (FP.l2d 0)), .second, .val (.int sn), .val (.int (0 : Int32)), .val (.int hz), .val (.int x), .val (.ref rs)]) rfl kZ) ?_
  refine own_by (S' := T25.setTop (mkF m 174 #[.val (.double (FP.l2d 1)), .second, .val (.ref o), .val (.double (FP.l2d 0)), .second, .val (.double (FP.l2d 1)), .second, .val (.double (FP.l2d 0)), .second, .val (.double (FP.l2d 0)), .second, .val (.double (FP.l2d 0)), .second, .val (.double (FP.l2d 0)), .second, .val (.double (FP.l2d 0)), .second, .val (.int sn), .val (.int (0 : Int32)), .val (.int hz), .val (.int x), .val (.ref rs)] [])) (fun tZ kZ => XS.goto X25.here hx rfl (pc0 := 96) (pc' := 174) rfl (hb hby d8_96) (by decide) (by decide) kZ) ?_
  refine own_by (S' := T25.setTop (mkF m 176 #[.val (.double (FP.l2d 1)), .second, .val (.ref o), .val (.double (FP.l2d 0)), .second, .val (.double (FP.l2d 1)), .second, .val (.double (FP.l2d 0)), .second, .val (.double (FP.l2d 0)), .second, .val (.double (FP.l2d 0)), .second, .val (.double (FP.l2d 0)), .second, .val (.double (FP.l2d 0)), .second, .val (.int sn), .val (.int (0 : Int32)), .val (.int hz), .val (.int x), .val (.ref rs)] [(.int sn)])) (fun tZ kZ => XS.iload X25.here hx rfl (hb hby d8_174) rfl kZ) ?_
  refine own_by (S' := T25.setTop (mkF m 178 #[.val (.double (FP.l2d 1)), .second, .val (.ref o), .val (.double (FP.l2d 0)), .second, .val (.double (FP.l2d 1)), .second, .val (.double (FP.l2d 0)), .second, .val (.double (FP.l2d 0)), .second, .val (.double (FP.l2d 0)), .second, .val (.double (FP.l2d 0)), .second, .val (.double (FP.l2d 0)), .second, .val (.int sn), .val (.int (0 : Int32)), .val (.int hz), .val (.int x), .val (.ref rs)] [(.int x), (.int sn)])) (fun tZ kZ => XS.iload X25.here hx rfl (hb hby d8_176) rfl kZ) ?_
  refine own_by (S' := T25.setTop (mkF m 221 #[.val (.double (FP.l2d 1)), .second, .val (.ref o), .val (.double (FP.l2d 0)), .second, .val (.double (FP.l2d 1)), .second, .val (.double (FP.l2d 0)), .second, .val (.double (FP.l2d 0)), .second, .val (.double (FP.l2d 0)), .second, .val (.double (FP.l2d 0)), .second, .val (.double (FP.l2d 0)), .second, .val (.int sn), .val (.int (0 : Int32)), .val (.int hz), .val (.int x), .val (.ref rs)] [])) (fun tZ kZ => XS.icmpYes X25.here hx rfl (pc0 := 178) (pc' := 221) rfl (hb hby d8_178) rfl (flt hs1).2.1 (by decide) (by decide) kZ) ?_
  refine own_by (S' := T25.setTop (mkF m 222 #[.val (.double (FP.l2d 1)), .second, .val (.ref o), .val (.double (FP.l2d 0)), .second, .val (.double (FP.l2d 1)), .second, .val (.double (FP.l2d 0)), .second, .val (.double (FP.l2d 0)), .second, .val (.double (FP.l2d 0)), .second, .val (.double (FP.l2d 0)), .second, .val (.double (FP.l2d 0)), .second, .val (.int sn), .val (.int (0 : Int32)), .val (.int hz), .val (.int x), .val (.ref rs)] [(.ref o)])) (fun tZ kZ => XS.aloadN X25.here hx rfl (hb hby d8_221) rfl rfl kZ) ?_
  have ExK25 := own_ext0 K25
  obtain ⟨cq26, kq26, q26a, q26b, q26c⟩ := isOf hZ23 rfl (O.ext ExK25).1
  obtain ⟨_, _, ⟨T26, L26, k26, n26⟩, -, X26, ⟨Lc26, hQ26, l26, y26, z26⟩, st26⟩ := X25.virtualBack hx (y := (⟨"java/util/OptionalInt", "isPresent", "()Z"⟩ : MethodName)) (z := (⟨"java/util/OptionalInt", "isPresent", "()Z"⟩ : MethodName)) hown23 (mvT hZ23 (hw_ hw 96 rfl)) (mvT hZ23 (hw_ hw 97 rfl)) (notFace_of_selects (args := #[]) (mvT hZ23 (hw_ hw 99 rfl))) (mvT hZ23 (hw_ hw 99 rfl)) (mvT hZ23 (hw_ hw 98 rfl)) (by decide) (backOf (W := 0) (rmPr l Z a0 hw [] o x T25.heap n0 Zs25 (O.ext ExK25)) hZ23 (hw_ hw 100 rfl) (hw_ hw 26 rfl) (by decide) (by decide)) q26a q26c (g := (mkF m 222 #[.val (.double (FP.l2d 1)), .second, .val (.ref o), .val (.double (FP.l2d 0)), .second, .val (.double (FP.l2d 1)), .second, .val (.double (FP.l2d 0)), .second, .val (.double (FP.l2d 0)), .second, .val (.double (FP.l2d 0)), .second, .val (.double (FP.l2d 0)), .second, .val (.double (FP.l2d 0)), .second, .val (.int sn), .val (.int (0 : Int32)), .val (.int hz), .val (.int x), .val (.ref rs)] [(.ref o)])) rfl (by rw [hml]; rfl) (Steps.refl _) (argsL := []) (rest := []) (lenOf pd_5 rfl) rfl (by show 2 * 0 + _ ≤ _; exact Nat.le_of_eq rfl) (hb hby d8_222) (fun _ _ => ⟨rfl, rfl, (by decide : 22 + 0 ≤ _), (by decide : 588 + 0 ≤ _)⟩)
  dsimp only [Pt.U, Pt.locs, Pt.cells, Pt.slots] at X26 l26 y26 z26 st26 hQ26
  subst l26 y26 z26
  obtain ⟨rfl, N26q, heq26⟩ := hQ26
  have N26 := Fr.app N25 N26q
  refine own_by (S' := T26.setTop (mkF m 225 #[.val (.double (FP.l2d 1)), .second, .val (.ref o), .val (.double (FP.l2d 0)), .second, .val (.double (FP.l2d 1)), .second, .val (.double (FP.l2d 0)), .second, .val (.double (FP.l2d 0)), .second, .val (.double (FP.l2d 0)), .second, .val (.double (FP.l2d 0)), .second, .val (.double (FP.l2d 0)), .second, .val (.int sn), .val (.int (0 : Int32)), .val (.int hz), .val (.int x), .val (.ref rs)] [(.int (1 : Int32))])) (fun tZ kZ => st26.trans kZ) ?_
  refine own_by (S' := T26.setTop (mkF m 228 #[.val (.double (FP.l2d 1)), .second, .val (.ref o), .val (.double (FP.l2d 0)), .second, .val (.double (FP.l2d 1)), .second, .val (.double (FP.l2d 0)), .second, .val (.double (FP.l2d 0)), .second, .val (.double (FP.l2d 0)), .second, .val (.double (FP.l2d 0)), .second, .val (.double (FP.l2d 0)), .second, .val (.int sn), .val (.int (0 : Int32)), .val (.int hz), .val (.int x), .val (.ref rs)] [])) (fun tZ kZ => XS.ifNo X26.here hx rfl (hb hby d8_225) rfl ((if0 _ _).trans (feq (by decide)).1) kZ) ?_
  refine own_by (S' := T26.setTop (mkF m 230 #[.val (.double (FP.l2d 1)), .second, .val (.ref o), .val (.double (FP.l2d 0)), .second, .val (.double (FP.l2d 1)), .second, .val (.double (FP.l2d 0)), .second, .val (.double (FP.l2d 0)), .second, .val (.double (FP.l2d 0)), .second, .val (.double (FP.l2d 0)), .second, .val (.double (FP.l2d 0)), .second, .val (.int sn), .val (.int (0 : Int32)), .val (.int hz), .val (.int x), .val (.ref rs)] [(.int sn)])) (fun tZ kZ => XS.iload X26.here hx rfl (hb hby d8_228) rfl kZ) ?_
  refine own_by (S' := T26.setTop (mkF m 231 #[.val (.double (FP.l2d 1)), .second, .val (.ref o), .val (.double (FP.l2d 0)), .second, .val (.double (FP.l2d 1)), .second, .val (.double (FP.l2d 0)), .second, .val (.double (FP.l2d 0)), .second, .val (.double (FP.l2d 0)), .second, .val (.double (FP.l2d 0)), .second, .val (.double (FP.l2d 0)), .second, .val (.int sn), .val (.int (0 : Int32)), .val (.int hz), .val (.int x), .val (.ref rs)] [(.long (sn.toInt64))])) (fun tZ kZ => XS.i2l X26.here hx rfl (hb hby d8_230) rfl kZ) ?_
  refine own_by (S' := T26.setTop (mkF m 234 #[.val (.double (FP.l2d 1)), .second, .val (.ref o), .val (.double (FP.l2d 0)), .second, .val (.double (FP.l2d 1)), .second, .val (.double (FP.l2d 0)), .second, .val (.double (FP.l2d 0)), .second, .val (.double (FP.l2d 0)), .second, .val (.double (FP.l2d 0)), .second, .val (.double (FP.l2d 0)), .second, .val (.int sn), .val (.int (0 : Int32)), .val (.int hz), .val (.int x), .val (.ref rs)] [(.long (1000000 : Int64)), (.long (sn.toInt64))])) (fun tZ kZ => X26.ldc2Long hx hown23 (mvT hZ23 (hw_ hw 239 rfl)) (g := (mkF m 231 #[.val (.double (FP.l2d 1)), .second, .val (.ref o), .val (.double (FP.l2d 0)), .second, .val (.double (FP.l2d 1)), .second, .val (.double (FP.l2d 0)), .second, .val (.double (FP.l2d 0)), .second, .val (.double (FP.l2d 0)), .second, .val (.double (FP.l2d 0)), .second, .val (.double (FP.l2d 0)), .second, .val (.int sn), .val (.int (0 : Int32)), .val (.int hz), .val (.int x), .val (.ref rs)] [(.long (sn.toInt64))])) rfl (hb hby d8_231) _ kZ) ?_
  refine own_by (S' := T26.setTop (mkF m 235 #[.val (.double (FP.l2d 1)), .second, .val (.ref o), .val (.double (FP.l2d 0)), .second, .val (.double (FP.l2d 1)), .second, .val (.double (FP.l2d 0)), .second, .val (.double (FP.l2d 0)), .second, .val (.double (FP.l2d 0)), .second, .val (.double (FP.l2d 0)), .second, .val (.double (FP.l2d 0)), .second, .val (.int sn), .val (.int (0 : Int32)), .val (.int hz), .val (.int x), .val (.ref rs)] [(.ref o), (.long (1000000 : Int64)), (.long (sn.toInt64))])) (fun tZ kZ => XS.aloadN X26.here hx rfl (hb hby d8_234) rfl rfl kZ) ?_
  obtain ⟨cq27, kq27, q27a, q27b, q27c⟩ := isOf hZ23 heq26 (O.ext ExK25).1
  obtain ⟨_, _, ⟨T27, L27, k27, n27⟩, -, X27, ⟨Lc27, hQ27, l27, y27, z27⟩, st27⟩ := X26.virtualBack hx (y := (⟨"java/util/OptionalInt", "getAsInt", "()I"⟩ : MethodName)) (z := (⟨"java/util/OptionalInt", "getAsInt", "()I"⟩ : MethodName)) hown23 (mvT hZ23 (hw_ hw 101 rfl)) (mvT hZ23 (hw_ hw 102 rfl)) (notFace_of_selects (args := #[]) (mvT hZ23 (hw_ hw 104 rfl))) (mvT hZ23 (hw_ hw 104 rfl)) (mvT hZ23 (hw_ hw 103 rfl)) (by decide) (backOf (W := 4) (rmGi l Z a0 hw [] o x T25.heap n0 Zs25 (O.ext ExK25)) hZ23 (hw_ hw 105 rfl) (hw_ hw 26 rfl) (by decide) (by decide)) q27a q27c (g := (mkF m 235 #[.val (.double (FP.l2d 1)), .second, .val (.ref o), .val (.double (FP.l2d 0)), .second, .val (.double (FP.l2d 1)), .second, .val (.double (FP.l2d 0)), .second, .val (.double (FP.l2d 0)), .second, .val (.double (FP.l2d 0)), .second, .val (.double (FP.l2d 0)), .second, .val (.double (FP.l2d 0)), .second, .val (.int sn), .val (.int (0 : Int32)), .val (.int hz), .val (.int x), .val (.ref rs)] [(.ref o), (.long (1000000 : Int64)), (.long (sn.toInt64))])) rfl (by rw [hml]; rfl) (Steps.refl _) (argsL := []) (rest := [(.long (1000000 : Int64)), (.long (sn.toInt64))]) (lenOf pd_10 rfl) rfl (by show 2 * 0 + _ ≤ _; exact Nat.le_of_eq rfl) (hb hby d8_235) (fun _ _ => ⟨rfl, heq26, (by decide : 22 + 0 ≤ _), (by decide : 588 + 0 ≤ _)⟩)
  dsimp only [Pt.U, Pt.locs, Pt.cells, Pt.slots] at X27 l27 y27 z27 st27 hQ27
  subst l27 y27 z27
  obtain ⟨rfl, N27q, heq27⟩ := hQ27
  have N27 := Fr.app N26 N27q
  refine own_by (S' := T27.setTop (mkF m 238 #[.val (.double (FP.l2d 1)), .second, .val (.ref o), .val (.double (FP.l2d 0)), .second, .val (.double (FP.l2d 1)), .second, .val (.double (FP.l2d 0)), .second, .val (.double (FP.l2d 0)), .second, .val (.double (FP.l2d 0)), .second, .val (.double (FP.l2d 0)), .second, .val (.double (FP.l2d 0)), .second, .val (.int sn), .val (.int (0 : Int32)), .val (.int hz), .val (.int x), .val (.ref rs)] [(.int x), (.long (1000000 : Int64)), (.long (sn.toInt64))])) (fun tZ kZ => st27.trans kZ) ?_
  refine own_by (S' := T27.setTop (mkF m 239 #[.val (.double (FP.l2d 1)), .second, .val (.ref o), .val (.double (FP.l2d 0)), .second, .val (.double (FP.l2d 1)), .second, .val (.double (FP.l2d 0)), .second, .val (.double (FP.l2d 0)), .second, .val (.double (FP.l2d 0)), .second, .val (.double (FP.l2d 0)), .second, .val (.double (FP.l2d 0)), .second, .val (.int sn), .val (.int (0 : Int32)), .val (.int hz), .val (.int x), .val (.ref rs)] [(.long (x.toInt64)), (.long (1000000 : Int64)), (.long (sn.toInt64))])) (fun tZ kZ => XS.i2l X27.here hx rfl (hb hby d8_238) rfl kZ) ?_
  refine own_by (S' := T27.setTop (mkF m 240 #[.val (.double (FP.l2d 1)), .second, .val (.ref o), .val (.double (FP.l2d 0)), .second, .val (.double (FP.l2d 1)), .second, .val (.double (FP.l2d 0)), .second, .val (.double (FP.l2d 0)), .second, .val (.double (FP.l2d 0)), .second, .val (.double (FP.l2d 0)), .second, .val (.double (FP.l2d 0)), .second, .val (.int sn), .val (.int (0 : Int32)), .val (.int hz), .val (.int x), .val (.ref rs)] [(.long ((1000000 : Int64) * (x.toInt64))), (.long (sn.toInt64))])) (fun tZ kZ => XS.lmul X27.here hx rfl (hb hby d8_239) rfl kZ) ?_
  refine own_by (S' := T27.setTop (mkF m 241 #[.val (.double (FP.l2d 1)), .second, .val (.ref o), .val (.double (FP.l2d 0)), .second, .val (.double (FP.l2d 1)), .second, .val (.double (FP.l2d 0)), .second, .val (.double (FP.l2d 0)), .second, .val (.double (FP.l2d 0)), .second, .val (.double (FP.l2d 0)), .second, .val (.double (FP.l2d 0)), .second, .val (.int sn), .val (.int (0 : Int32)), .val (.int hz), .val (.int x), .val (.ref rs)] [(.int (lcmpW (sn.toInt64) ((1000000 : Int64) * (x.toInt64))))])) (fun tZ kZ => XS.lcmp X27.here hx rfl (hb hby d8_240) rfl kZ) ?_
  refine own_by (S' := T27.setTop (mkF m 284 #[.val (.double (FP.l2d 1)), .second, .val (.ref o), .val (.double (FP.l2d 0)), .second, .val (.double (FP.l2d 1)), .second, .val (.double (FP.l2d 0)), .second, .val (.double (FP.l2d 0)), .second, .val (.double (FP.l2d 0)), .second, .val (.double (FP.l2d 0)), .second, .val (.double (FP.l2d 0)), .second, .val (.int sn), .val (.int (0 : Int32)), .val (.int hz), .val (.int x), .val (.ref rs)] [])) (fun tZ kZ => XS.ifYes X27.here hx rfl (pc0 := 241) (pc' := 284) rfl (hb hby d8_241) rfl ((if0 _ _).trans (flt hs2).2.2.2) (by decide) (by decide) kZ) ?_
  refine own_by (S' := T27.setTop (mkF m 286 #[.val (.double (FP.l2d 1)), .second, .val (.ref o), .val (.double (FP.l2d 0)), .second, .val (.double (FP.l2d 1)), .second, .val (.double (FP.l2d 0)), .second, .val (.double (FP.l2d 0)), .second, .val (.double (FP.l2d 0)), .second, .val (.double (FP.l2d 0)), .second, .val (.double (FP.l2d 0)), .second, .val (.int sn), .val (.int (0 : Int32)), .val (.int hz), .val (.int x), .val (.ref rs)] [(.int (0 : Int32))])) (fun tZ kZ => XS.iload X27.here hx rfl (hb hby d8_284) rfl kZ) ?_
  refine own_by (S' := T27.setTop (mkF m 353 #[.val (.double (FP.l2d 1)), .second, .val (.ref o), .val (.double (FP.l2d 0)), .second, .val (.double (FP.l2d 1)), .second, .val (.double (FP.l2d 0)), .second, .val (.double (FP.l2d 0)), .second, .val (.double (FP.l2d 0)), .second, .val (.double (FP.l2d 0)), .second, .val (.double (FP.l2d 0)), .second, .val (.int sn), .val (.int (0 : Int32)), .val (.int hz), .val (.int x), .val (.ref rs)] [])) (fun tZ kZ => XS.ifYes X27.here hx rfl (pc0 := 286) (pc' := 353) rfl (hb hby d8_286) rfl ((if0 _ _).trans (teq rfl).1) (by decide) (by decide) kZ) ?_
  obtain ⟨y9_, T28, h28, k28, t_y9_, kc_y9_, X28, e28, E28, hS28, hk28, hZ28, hown28, Ge_y9_, Co_y9_, Va_y9_, Ar_y9_, -, -, hI28, st28⟩ := ldcSV X27 hx hZ23 hown23 (hw_ hw 240 rfl) (own_str hw) heq27 hS23 hk25 (by rw [hh, ← hn0]; exact N27) (fun bZ cZ qZ => by rw [hh]; exact EZ.2 bZ cZ qZ) hI23 (by decide) (HC ("com/example/tidewatch/tidewatch/core/TidewatchPolicy$Settings", 147) (List.mem_of_getElem? (i := 9) rfl)) hcw (vs := [.int 104, .int 111, .int 114, .int 105, .int 122, .int 111, .int 110, .int 83, .int 101, .int 99, .int 111, .int 110, .int 100, .int 115]) (z := 14) ⟨by decide +kernel, by decide +kernel⟩ (by decide) (by decide) (g := (mkF m 353 #[.val (.double (FP.l2d 1)), .second, .val (.ref o), .val (.double (FP.l2d 0)), .second, .val (.double (FP.l2d 1)), .second, .val (.double (FP.l2d 0)), .second, .val (.double (FP.l2d 0)), .second, .val (.double (FP.l2d 0)), .second, .val (.double (FP.l2d 0)), .second, .val (.double (FP.l2d 0)), .second, .val (.int sn), .val (.int (0 : Int32)), .val (.int hz), .val (.int x), .val (.ref rs)] [])) rfl (hb hby d8_353) (n := 56) (by decide) (by decide) (by decide) (by decide)
  have Zs28 : n0 ≤ h28.size := Nat.le_trans Zs25 E28.1
  have K28 := K25.ext E28
  refine own_by (S' := T28.setTop (mkF m 355 #[.val (.double (FP.l2d 1)), .second, .val (.ref o), .val (.double (FP.l2d 0)), .second, .val (.double (FP.l2d 1)), .second, .val (.double (FP.l2d 0)), .second, .val (.double (FP.l2d 0)), .second, .val (.double (FP.l2d 0)), .second, .val (.double (FP.l2d 0)), .second, .val (.double (FP.l2d 0)), .second, .val (.int sn), .val (.int (0 : Int32)), .val (.int hz), .val (.int x), .val (.ref rs)] [(.ref y9_)])) st28 ?_
  refine own_by (S' := T28.setTop (mkF m 357 #[.val (.double (FP.l2d 1)), .second, .val (.ref o), .val (.double (FP.l2d 0)), .second, .val (.double (FP.l2d 1)), .second, .val (.double (FP.l2d 0)), .second, .val (.double (FP.l2d 0)), .second, .val (.double (FP.l2d 0)), .second, .val (.double (FP.l2d 0)), .second, .val (.double (FP.l2d 0)), .second, .val (.int sn), .val (.int (0 : Int32)), .val (.int hz), .val (.int x), .val (.ref rs)] [(.int hz), (.ref y9_)])) (fun tZ kZ => XS.iload X28.here hx rfl (hb hby d8_355) rfl kZ) ?_
  refine own_by (S' := T28.setTop (mkF m 358 #[.val (.double (FP.l2d 1)), .second, .val (.ref o), .val (.double (FP.l2d 0)), .second, .val (.double (FP.l2d 1)), .second, .val (.double (FP.l2d 0)), .second, .val (.double (FP.l2d 0)), .second, .val (.double (FP.l2d 0)), .second, .val (.double (FP.l2d 0)), .second, .val (.double (FP.l2d 0)), .second, .val (.int sn), .val (.int (0 : Int32)), .val (.int hz), .val (.int x), .val (.ref rs)] [(.long (hz.toInt64)), (.ref y9_)])) (fun tZ kZ => XS.i2l X28.here hx rfl (hb hby d8_357) rfl kZ) ?_
  obtain ⟨_, _, ⟨T29, L29, k29, n29⟩, -, X29, ⟨Lc29, hQ29, l29, y29, z29⟩, st29⟩ := Jvm.LawKit.callS X28 hx (y := (⟨"com/example/tidewatch/tidewatch/core/SettingChecks", "atLeastOne", "(Ljava/lang/String;J)V"⟩ : MethodName)) hown28 (mvT hZ28 (hw_ hw 241 rfl)) (mvT hZ28 (hw_ hw 69 rfl)) (mvT hZ28 (hw_ hw 70 rfl)) (mvT hZ28 (hw_ hw 71 rfl)) (by decide) (backOf (W := 0) (rmAl l Z a0 hw [] y9_ hz.toInt64 h28 n0 Zs28 (own_ge1 hz1)) hZ28 (hw_ hw 71 rfl) (hw_ hw 70 rfl) (by decide) (by decide)) (g := (mkF m 358 #[.val (.double (FP.l2d 1)), .second, .val (.ref o), .val (.double (FP.l2d 0)), .second, .val (.double (FP.l2d 1)), .second, .val (.double (FP.l2d 0)), .second, .val (.double (FP.l2d 0)), .second, .val (.double (FP.l2d 0)), .second, .val (.double (FP.l2d 0)), .second, .val (.double (FP.l2d 0)), .second, .val (.int sn), .val (.int (0 : Int32)), .val (.int hz), .val (.int x), .val (.ref rs)] [(.long (hz.toInt64)), (.ref y9_)])) rfl (by rw [hml]; rfl) (argsL := [(.ref y9_), (.long (hz.toInt64))]) (rest := []) (lenOf pd_19 rfl) rfl (by show 2 * 0 + _ ≤ _; exact Nat.le_of_eq rfl) (hb hby d8_358) (fun _ _ => ⟨rfl, e28, (by decide : 24 + 0 ≤ _), (by decide : 648 + 0 ≤ _)⟩)
  dsimp only [Pt.U, Pt.locs, Pt.cells, Pt.slots] at X29 l29 y29 z29 st29 hQ29
  subst l29 y29 z29
  obtain ⟨rfl, N29q, heq29⟩ := hQ29
  have N29 := Fr.app N27 N29q
  refine own_by (S' := T29.setTop (mkF m 361 #[.val (.double (FP.l2d 1)), .second, .val (.ref o), .val (.double (FP.l2d 0)), .second, .val (.double (FP.l2d 1)), .second, .val (.double (FP.l2d 0)), .second, .val (.double (FP.l2d 0)), .second, .val (.double (FP.l2d 0)), .second, .val (.double (FP.l2d 0)), .second, .val (.double (FP.l2d 0)), .second, .val (.int sn), .val (.int (0 : Int32)), .val (.int hz), .val (.int x), .val (.ref rs)] [])) (fun tZ kZ => st29 _ kZ) ?_
  refine own_by (S' := T29.setTop (mkF m 363 #[.val (.double (FP.l2d 1)), .second, .val (.ref o), .val (.double (FP.l2d 0)), .second, .val (.double (FP.l2d 1)), .second, .val (.double (FP.l2d 0)), .second, .val (.double (FP.l2d 0)), .second, .val (.double (FP.l2d 0)), .second, .val (.double (FP.l2d 0)), .second, .val (.double (FP.l2d 0)), .second, .val (.int sn), .val (.int (0 : Int32)), .val (.int hz), .val (.int x), .val (.ref rs)] [(.int hz)])) (fun tZ kZ => XS.iload X29.here hx rfl (hb hby d8_361) rfl kZ) ?_
  refine own_by (S' := T29.setTop (mkF m 365 #[.val (.double (FP.l2d 1)), .second, .val (.ref o), .val (.double (FP.l2d 0)), .second, .val (.double (FP.l2d 1)), .second, .val (.double (FP.l2d 0)), .second, .val (.double (FP.l2d 0)), .second, .val (.double (FP.l2d 0)), .second, .val (.double (FP.l2d 0)), .second, .val (.double (FP.l2d 0)), .second, .val (.int sn), .val (.int (0 : Int32)), .val (.int hz), .val (.int x), .val (.ref rs)] [(.int sn), (.int hz)])) (fun tZ kZ => XS.iload X29.here hx rfl (hb hby d8_363) rfl kZ) ?_
  refine own_by (S' := T29.setTop (mkF m 408 #[.val (.double (FP.l2d 1)), .second, .val (.ref o), .val (.double (FP.l2d 0)), .second, .val (.double (FP.l2d 1)), .second, .val (.double (FP.l2d 0)), .second, .val (.double (FP.l2d 0)), .second, .val (.double (FP.l2d 0)), .second, .val (.double (FP.l2d 0)), .second, .val (.double (FP.l2d 0)), .second, .val (.int sn), .val (.int (0 : Int32)), .val (.int hz), .val (.int x), .val (.ref rs)] [])) (fun tZ kZ => XS.icmpYes X29.here hx rfl (pc0 := 365) (pc' := 408) rfl (hb hby d8_365) rfl (flt hzs).2.2.2 (by decide) (by decide) kZ) ?_
  exact own_ret0V X29 hS28 (by rw [heq29]; exact hk28) hx Bd.returns (hb hby d8_408) Bd.notSynchronized (by decide) (by decide) (show QK0 h0 n0 none T29.heap _ from by rw [heq29]; exact ⟨rfl, N29, K28⟩) (own_ib hI28 X29.warmed)
theorem d3_0 : decode prog_74_method_1_code 0 = .ok (.aload_n 0, 1) := by decide +kernel
theorem d3_1 : decode prog_74_method_1_code 1 = .ok (.invokespecial 3, 3) := by decide +kernel
theorem d3_4 : decode prog_74_method_1_code 4 = .ok (.dload_n 1, 1) := by decide +kernel
theorem d3_5 : decode prog_74_method_1_code 5 = .ok (.iload_n 3, 1) := by decide +kernel
theorem d3_6 : decode prog_74_method_1_code 6 = .ok (.invokestatic 9, 3) := by decide +kernel
theorem d3_9 : decode prog_74_method_1_code 9 = .ok (.dload 4, 2) := by decide +kernel
theorem d3_11 : decode prog_74_method_1_code 11 = .ok (.dload 6, 2) := by decide +kernel
theorem d3_13 : decode prog_74_method_1_code 13 = .ok (.dload 8, 2) := by decide +kernel
theorem d3_15 : decode prog_74_method_1_code 15 = .ok (.dload 10, 2) := by decide +kernel
theorem d3_17 : decode prog_74_method_1_code 17 = .ok (.dload 12, 2) := by decide +kernel
theorem d3_19 : decode prog_74_method_1_code 19 = .ok (.dload 14, 2) := by decide +kernel
theorem d3_21 : decode prog_74_method_1_code 21 = .ok (.dload 16, 2) := by decide +kernel
theorem d3_23 : decode prog_74_method_1_code 23 = .ok (.iload 18, 2) := by decide +kernel
theorem d3_25 : decode prog_74_method_1_code 25 = .ok (.iload 19, 2) := by decide +kernel
theorem d3_27 : decode prog_74_method_1_code 27 = .ok (.iload 20, 2) := by decide +kernel
theorem d3_29 : decode prog_74_method_1_code 29 = .ok (.invokestatic 15, 3) := by decide +kernel
theorem d3_32 : decode prog_74_method_1_code 32 = .ok (.aload_n 0, 1) := by decide +kernel
theorem d3_33 : decode prog_74_method_1_code 33 = .ok (.dload_n 1, 1) := by decide +kernel
theorem d3_34 : decode prog_74_method_1_code 34 = .ok (.putfield 21, 3) := by decide +kernel
theorem d3_37 : decode prog_74_method_1_code 37 = .ok (.aload_n 0, 1) := by decide +kernel
theorem d3_38 : decode prog_74_method_1_code 38 = .ok (.iload_n 3, 1) := by decide +kernel
theorem d3_39 : decode prog_74_method_1_code 39 = .ok (.putfield 25, 3) := by decide +kernel
theorem d3_42 : decode prog_74_method_1_code 42 = .ok (.aload_n 0, 1) := by decide +kernel
theorem d3_43 : decode prog_74_method_1_code 43 = .ok (.dload 4, 2) := by decide +kernel
theorem d3_45 : decode prog_74_method_1_code 45 = .ok (.putfield 29, 3) := by decide +kernel
theorem d3_48 : decode prog_74_method_1_code 48 = .ok (.aload_n 0, 1) := by decide +kernel
theorem d3_49 : decode prog_74_method_1_code 49 = .ok (.dload 6, 2) := by decide +kernel
theorem d3_51 : decode prog_74_method_1_code 51 = .ok (.putfield 32, 3) := by decide +kernel
theorem d3_54 : decode prog_74_method_1_code 54 = .ok (.aload_n 0, 1) := by decide +kernel
theorem d3_55 : decode prog_74_method_1_code 55 = .ok (.dload 8, 2) := by decide +kernel
theorem d3_57 : decode prog_74_method_1_code 57 = .ok (.putfield 35, 3) := by decide +kernel
theorem d3_60 : decode prog_74_method_1_code 60 = .ok (.aload_n 0, 1) := by decide +kernel
theorem d3_61 : decode prog_74_method_1_code 61 = .ok (.dload 10, 2) := by decide +kernel
theorem d3_63 : decode prog_74_method_1_code 63 = .ok (.putfield 38, 3) := by decide +kernel
theorem d3_66 : decode prog_74_method_1_code 66 = .ok (.aload_n 0, 1) := by decide +kernel
theorem d3_67 : decode prog_74_method_1_code 67 = .ok (.dload 12, 2) := by decide +kernel
theorem d3_69 : decode prog_74_method_1_code 69 = .ok (.putfield 41, 3) := by decide +kernel
theorem d3_72 : decode prog_74_method_1_code 72 = .ok (.aload_n 0, 1) := by decide +kernel
theorem d3_73 : decode prog_74_method_1_code 73 = .ok (.dload 14, 2) := by decide +kernel
theorem d3_75 : decode prog_74_method_1_code 75 = .ok (.putfield 44, 3) := by decide +kernel
theorem d3_78 : decode prog_74_method_1_code 78 = .ok (.aload_n 0, 1) := by decide +kernel
theorem d3_79 : decode prog_74_method_1_code 79 = .ok (.dload 16, 2) := by decide +kernel
theorem d3_81 : decode prog_74_method_1_code 81 = .ok (.putfield 47, 3) := by decide +kernel
theorem d3_84 : decode prog_74_method_1_code 84 = .ok (.aload_n 0, 1) := by decide +kernel
theorem d3_85 : decode prog_74_method_1_code 85 = .ok (.iload 18, 2) := by decide +kernel
theorem d3_87 : decode prog_74_method_1_code 87 = .ok (.putfield 50, 3) := by decide +kernel
theorem d3_90 : decode prog_74_method_1_code 90 = .ok (.aload_n 0, 1) := by decide +kernel
theorem d3_91 : decode prog_74_method_1_code 91 = .ok (.iload 19, 2) := by decide +kernel
theorem d3_93 : decode prog_74_method_1_code 93 = .ok (.putfield 53, 3) := by decide +kernel
theorem d3_96 : decode prog_74_method_1_code 96 = .ok (.aload_n 0, 1) := by decide +kernel
theorem d3_97 : decode prog_74_method_1_code 97 = .ok (.iload 20, 2) := by decide +kernel
theorem d3_99 : decode prog_74_method_1_code 99 = .ok (.putfield 56, 3) := by decide +kernel
theorem d3_102 : decode prog_74_method_1_code 102 = .ok (.return_, 1) := by decide +kernel
theorem ef_rmSet (m : MethodId) (b : Addr) (x : Int32) (sn : Int32) (hz : Int32) : entryFrame m #[(.ref b), (.double (FP.l2d 1)), (.int x), (.double (FP.l2d 0)), (.double (FP.l2d 1)), (.double (FP.l2d 0)), (.double (FP.l2d 0)), (.double (FP.l2d 0)), (.double (FP.l2d 0)), (.double (FP.l2d 0)), (.int sn), (.int (0 : Int32)), (.int hz)] 21 = mkF m 0 #[.val (.ref b), .val (.double (FP.l2d 1)), .second, .val (.int x), .val (.double (FP.l2d 0)), .second, .val (.double (FP.l2d 1)), .second, .val (.double (FP.l2d 0)), .second, .val (.double (FP.l2d 0)), .second, .val (.double (FP.l2d 0)), .second, .val (.double (FP.l2d 0)), .second, .val (.double (FP.l2d 0)), .second, .val (.int sn), .val (.int (0 : Int32)), .val (.int hz)] [] := by first | (simp [entryFrame, mkF, argsToLocals, Value.category, maxLocals]; done) | rfl
set_option maxRecDepth 65536 in
set_option maxHeartbeats 40000000 in
theorem rmSet (l : Launch) (Z : State) (a0 : Array Value) (hw : ∀ d ∈ tables_1, d.before a0 Z = true) (ws : List Jvm.Cond) (b : Addr) (x sn hz cz : Int32) (do_ dt : Addr) (co ct : Cell) (h0 : Heap) (n0 : Nat) (Z0 : n0 ≤ h0.size) (EZ : Ext Z.heap h0) (HC : ∀ q ∈ consts_1, Jvm.Lit.constHeld Z q.1 q.2) (hcw : Jvm.Lit.compactW.before a0 Z = true) (Sc : Sta Z h0 "java/lang/String" "COMPACT_STRINGS" "Z" (.int cz)) (hcz : ¬ cz = 0) (S_o : Sta Z h0 "java/lang/Integer" "DigitOnes" "[B" (.ref do_)) (A_o : Arr Z h0 do_ co .byte) (z_o : co.slots.size = 100) (e_o : ∀ k : Nat, k < 100 → ∃ z : Int32, co.slots[k]? = some (.int z)) (S_t : Sta Z h0 "java/lang/Integer" "DigitTens" "[B" (.ref dt)) (A_t : Arr Z h0 dt ct .byte) (z_t : ct.slots.size = 100) (e_t : ∀ k : Nat, k < 100 → ∃ z : Int32, ct.slots[k]? = some (.int z)) (hx1 : 1 ≤ x.toInt) (hs1 : ¬ sn < x) (hs2 : ¬ 0 < lcmpW sn.toInt64 ((1000000 : Int64) * x.toInt64)) (hz1 : 1 ≤ hz.toInt) (hzs : ¬ sn < hz) (Ex_b : Exa Z h0 b "com/example/tidewatch/tidewatch/core/TidewatchPolicy$Settings") (F_targetUtilization_b : Fld Z h0 b "com/example/tidewatch/tidewatch/core/TidewatchPolicy$Settings" "targetUtilization" "D" (.double 0)) (F_intervalSeconds_b : Fld Z h0 b "com/example/tidewatch/tidewatch/core/TidewatchPolicy$Settings" "intervalSeconds" "I" (.int 0)) (F_expectedRestartSeconds_b : Fld Z h0 b "com/example/tidewatch/tidewatch/core/TidewatchPolicy$Settings" "expectedRestartSeconds" "D" (.double 0)) (F_targetRecoverySeconds_b : Fld Z h0 b "com/example/tidewatch/tidewatch/core/TidewatchPolicy$Settings" "targetRecoverySeconds" "D" (.double 0)) (F_holdSeconds_b : Fld Z h0 b "com/example/tidewatch/tidewatch/core/TidewatchPolicy$Settings" "holdSeconds" "D" (.double 0)) (F_rescaleCost_b : Fld Z h0 b "com/example/tidewatch/tidewatch/core/TidewatchPolicy$Settings" "rescaleCost" "D" (.double 0)) (F_shortfallCost_b : Fld Z h0 b "com/example/tidewatch/tidewatch/core/TidewatchPolicy$Settings" "shortfallCost" "D" (.double 0)) (F_underProvisionedCost_b : Fld Z h0 b "com/example/tidewatch/tidewatch/core/TidewatchPolicy$Settings" "underProvisionedCost" "D" (.double 0)) (F_forecastMargin_b : Fld Z h0 b "com/example/tidewatch/tidewatch/core/TidewatchPolicy$Settings" "forecastMargin" "D" (.double 0)) (F_seasonSeconds_b : Fld Z h0 b "com/example/tidewatch/tidewatch/core/TidewatchPolicy$Settings" "seasonSeconds" "I" (.int 0)) (F_shortSeasonSeconds_b : Fld Z h0 b "com/example/tidewatch/tidewatch/core/TidewatchPolicy$Settings" "shortSeasonSeconds" "I" (.int 0)) (F_horizonSeconds_b : Fld Z h0 b "com/example/tidewatch/tidewatch/core/TidewatchPolicy$Settings" "horizonSeconds" "I" (.int 0)) (g_b : n0 ≤ b) (gz_b : Z.heap.size ≤ b) :
    MetFree l (⟨"com/example/tidewatch/tidewatch/core/TidewatchPolicy$Settings", "<init>", "(DIDDDDDDDIII)V"⟩ : MethodName) (head1 (Jvm.Cond.code (⟨"com/example/tidewatch/tidewatch/core/TidewatchPolicy$Settings", "<init>", "(DIDDDDDDDIII)V"⟩ : MethodName) prog_74_method_1_code (21 : Nat) (Option.none : Option Jvm.ClassFile.FieldType) :: ws) ({ frames := 7, cells := 25, slots := 650, locals := 3113 } : Room)) (fun aZ UZ => aZ = #[(.ref b), (.double (FP.l2d 1)), (.int x), (.double (FP.l2d 0)), (.double (FP.l2d 1)), (.double (FP.l2d 0)), (.double (FP.l2d 0)), (.double (FP.l2d 0)), (.double (FP.l2d 0)), (.double (FP.l2d 0)), (.int sn), (.int (0 : Int32)), (.int hz)] ∧ Z.WarmedH UZ.vm ∧ UZ.heap = h0) (fun _ _ _ _ _ => True) (fun _ UZ oZ VZ => ∃ vZ LZ, oZ = .returned vZ ∧ ((QSet Z b x hz h0 n0) vZ VZ.heap LZ ∧ IB Z VZ.vm ["horizonSeconds", " s", "forecastMargin", "underProvisionedCost", "shortfallCost", "rescaleCost", "holdSeconds", "targetRecoverySeconds", "expectedRestartSeconds", "intervalSeconds"]) ∧ ReturnedEndW UZ oZ VZ LZ ({ frames := 7, cells := 25, slots := 650, locals := 3113 } : Room).cells ({ frames := 7, cells := 25, slots := 650, locals := 3113 } : Room).slots) := by
  refine MetFree.of_bodySF (plainFor_of_name pn_11) hisR ?_
  intro p e s m args below meth c s₁ Bd hml0 hP hK
  obtain ⟨rfl, hZH, hh⟩ := hP
  have hZ : Z.Warmed39 s.vm := hZH.wide
  have hx := Bd.exec
  have hby := Bd.bytes
  have hml : c.maxLocals = 21 := hml0
  have hown : s.vm.findClass "com/example/tidewatch/tidewatch/core/TidewatchPolicy$Settings" = some m.cls := findClass_of_methodNamed Bd.named
  have hnm := (name_of_methodNamed Bd.named Bd.method).1
  have X0 : Stand p l e ({ frames := 7, cells := 25, slots := 650, locals := 3113 } : Room) (s.setVm s.vm) m #[(.ref b), (.double (FP.l2d 1)), (.int x), (.double (FP.l2d 0)), (.double (FP.l2d 1)), (.double (FP.l2d 0)), (.double (FP.l2d 0)), (.double (FP.l2d 0)), (.double (FP.l2d 0)), (.double (FP.l2d 0)), (.int sn), (.int (0 : Int32)), (.int hz)] below meth c s₁ [] 0 0 := Stand.of_body Bd
  have e0 : s₁.heap = h0 := by rw [← hh, Bd.state]; rfl
  have N0 := Fr.nil n0
  show OwnG p e below (OwnEV s (QSet Z b x hz h0 n0) (fun vZ => IB Z vZ ["horizonSeconds", " s", "forecastMargin", "underProvisionedCost", "shortfallCost", "rescaleCost", "holdSeconds", "targetRecoverySeconds", "expectedRestartSeconds", "intervalSeconds"]) ({ frames := 7, cells := 25, slots := 650, locals := 3113 } : Room).cells ({ frames := 7, cells := 25, slots := 650, locals := 3113 } : Room).slots) _
  refine own_by (S' := s₁.setTop (mkF m 0 #[.val (.ref b), .val (.double (FP.l2d 1)), .second, .val (.int x), .val (.double (FP.l2d 0)), .second, .val (.double (FP.l2d 1)), .second, .val (.double (FP.l2d 0)), .second, .val (.double (FP.l2d 0)), .second, .val (.double (FP.l2d 0)), .second, .val (.double (FP.l2d 0)), .second, .val (.double (FP.l2d 0)), .second, .val (.int sn), .val (.int (0 : Int32)), .val (.int hz)] [])) (fun tZ kZ => castTop (ef_rmSet m b x sn hz) kZ) ?_
  have hS0 : s.Since s.vm 0 := State.WarmedH.since (State.WarmedH.refl s) 0
  have hk0 : 0 ≤ h0.size := Nat.zero_le _
  have hZ0 : Z.Warmed39 (s.setVm s.vm).vm := hZ
  have hown0 : (s.setVm s.vm).vm.findClass "com/example/tidewatch/tidewatch/core/TidewatchPolicy$Settings" = some m.cls := hown
  have hZH0 : Z.WarmedH (s.setVm s.vm).vm := hZH
  have hI0 : IB Z (s.setVm s.vm).vm [] := own_ib0 hZH
  refine own_by (S' := s₁.setTop (mkF m 1 #[.val (.ref b), .val (.double (FP.l2d 1)), .second, .val (.int x), .val (.double (FP.l2d 0)), .second, .val (.double (FP.l2d 1)), .second, .val (.double (FP.l2d 0)), .second, .val (.double (FP.l2d 0)), .second, .val (.double (FP.l2d 0)), .second, .val (.double (FP.l2d 0)), .second, .val (.double (FP.l2d 0)), .second, .val (.int sn), .val (.int (0 : Int32)), .val (.int hz)] [(.ref b)])) (fun tZ kZ => XS.aloadN X0.here hx rfl (hb hby d3_0) rfl rfl kZ) ?_
  obtain ⟨_, _, ⟨T1, L1, k1, n1⟩, -, X1, ⟨Lc1, hQ1, l1, y1, z1⟩, st1⟩ := X0.specialBack hx (y := (⟨"java/lang/Record", "<init>", "()V"⟩ : MethodName)) rfl hown0 (mvT hZ0 (hw_ hw 16 rfl)) (mvT hZ0 (hw_ hw 17 rfl)) (mvT hZ0 (hw_ hw 20 rfl)) (by decide) (backOf (W := 0) (rmRec l Z a0 hw [] b h0 n0 Z0) hZ0 (hw_ hw 20 rfl) (hw_ hw 19 rfl) (by decide) (by decide)) (g := (mkF m 1 #[.val (.ref b), .val (.double (FP.l2d 1)), .second, .val (.int x), .val (.double (FP.l2d 0)), .second, .val (.double (FP.l2d 1)), .second, .val (.double (FP.l2d 0)), .second, .val (.double (FP.l2d 0)), .second, .val (.double (FP.l2d 0)), .second, .val (.double (FP.l2d 0)), .second, .val (.double (FP.l2d 0)), .second, .val (.int sn), .val (.int (0 : Int32)), .val (.int hz)] [(.ref b)])) rfl (by rw [hml]; rfl) (Steps.refl _) (a := b) (argsL := []) (rest := []) (lenOf pd_23 rfl) rfl (by show 2 * 0 + _ ≤ _; exact Nat.le_of_eq rfl) (hb hby d3_1) (fun _ _ => ⟨rfl, e0, (by decide : 0 + 0 ≤ _), (by decide : 0 + 0 ≤ _)⟩)
  dsimp only [Pt.U, Pt.locs, Pt.cells, Pt.slots] at X1 l1 y1 z1 st1 hQ1
  subst l1 y1 z1
  obtain ⟨rfl, N1q, heq1⟩ := hQ1
  have N1 := Fr.app N0 N1q
  refine own_by (S' := T1.setTop (mkF m 4 #[.val (.ref b), .val (.double (FP.l2d 1)), .second, .val (.int x), .val (.double (FP.l2d 0)), .second, .val (.double (FP.l2d 1)), .second, .val (.double (FP.l2d 0)), .second, .val (.double (FP.l2d 0)), .second, .val (.double (FP.l2d 0)), .second, .val (.double (FP.l2d 0)), .second, .val (.double (FP.l2d 0)), .second, .val (.int sn), .val (.int (0 : Int32)), .val (.int hz)] [])) (fun tZ kZ => st1.trans kZ) ?_
  refine own_by (S' := T1.setTop (mkF m 5 #[.val (.ref b), .val (.double (FP.l2d 1)), .second, .val (.int x), .val (.double (FP.l2d 0)), .second, .val (.double (FP.l2d 1)), .second, .val (.double (FP.l2d 0)), .second, .val (.double (FP.l2d 0)), .second, .val (.double (FP.l2d 0)), .second, .val (.double (FP.l2d 0)), .second, .val (.double (FP.l2d 0)), .second, .val (.int sn), .val (.int (0 : Int32)), .val (.int hz)] [(.double (FP.l2d 1))])) (fun tZ kZ => XS.dloadN X1.here hx rfl (hb hby d3_4) rfl kZ) ?_
  refine own_by (S' := T1.setTop (mkF m 6 #[.val (.ref b), .val (.double (FP.l2d 1)), .second, .val (.int x), .val (.double (FP.l2d 0)), .second, .val (.double (FP.l2d 1)), .second, .val (.double (FP.l2d 0)), .second, .val (.double (FP.l2d 0)), .second, .val (.double (FP.l2d 0)), .second, .val (.double (FP.l2d 0)), .second, .val (.double (FP.l2d 0)), .second, .val (.int sn), .val (.int (0 : Int32)), .val (.int hz)] [(.int x), (.double (FP.l2d 1))])) (fun tZ kZ => XS.iloadN X1.here hx rfl (hb hby d3_5) rfl kZ) ?_
  obtain ⟨_, _, ⟨T2, L2, k2, n2⟩, -, X2, ⟨Lc2, hQ2, l2, y2, z2⟩, st2⟩ := Jvm.LawKit.callS X1 hx (y := (⟨"java/util/OptionalInt", "of", "(I)Ljava/util/OptionalInt;"⟩ : MethodName)) hown0 (mvT hZ0 (hw_ hw 24 rfl)) (mvT hZ0 (hw_ hw 25 rfl)) (mvT hZ0 (hw_ hw 26 rfl)) (mvT hZ0 (hw_ hw 27 rfl)) (by decide) (backOf (W := 2) (rmOf l Z a0 hw [] x h0 n0 Z0) hZ0 (hw_ hw 27 rfl) (hw_ hw 26 rfl) (by decide) (by decide)) (g := (mkF m 6 #[.val (.ref b), .val (.double (FP.l2d 1)), .second, .val (.int x), .val (.double (FP.l2d 0)), .second, .val (.double (FP.l2d 1)), .second, .val (.double (FP.l2d 0)), .second, .val (.double (FP.l2d 0)), .second, .val (.double (FP.l2d 0)), .second, .val (.double (FP.l2d 0)), .second, .val (.double (FP.l2d 0)), .second, .val (.int sn), .val (.int (0 : Int32)), .val (.int hz)] [(.int x), (.double (FP.l2d 1))])) rfl (by rw [hml]; rfl) (argsL := [(.int x)]) (rest := [(.double (FP.l2d 1))]) (lenOf pd_27 rfl) rfl (by show 2 * 0 + _ ≤ _; exact Nat.le_of_eq rfl) (hb hby d3_6) (fun _ _ => ⟨rfl, heq1, (by decide : 0 + 1 ≤ _), (by decide : 0 + 2 ≤ _)⟩)
  dsimp only [Pt.U, Pt.locs, Pt.cells, Pt.slots] at X2 l2 y2 z2 st2 hQ2
  subst l2 y2 z2
  obtain ⟨oo, rfl, N2q, Kc2, Oo⟩ := hQ2
  have N2 := Fr.app N1 N2q
  have Zs2 := Nat.le_trans Z0 Kc2.1
  have hk2 := Nat.le_trans hk0 Kc2.1
  have Ec2 := own_ext0 Kc2
  have K2 := (Keep.refl h0 [b]).ext Ec2
  have Ex_b_2 := Ex_b.ext Ec2
  have F_targetUtilization_b_2 := F_targetUtilization_b.ext Ec2
  have F_intervalSeconds_b_2 := F_intervalSeconds_b.ext Ec2
  have F_expectedRestartSeconds_b_2 := F_expectedRestartSeconds_b.ext Ec2
  have F_targetRecoverySeconds_b_2 := F_targetRecoverySeconds_b.ext Ec2
  have F_holdSeconds_b_2 := F_holdSeconds_b.ext Ec2
  have F_rescaleCost_b_2 := F_rescaleCost_b.ext Ec2
  have F_shortfallCost_b_2 := F_shortfallCost_b.ext Ec2
  have F_underProvisionedCost_b_2 := F_underProvisionedCost_b.ext Ec2
  have F_forecastMargin_b_2 := F_forecastMargin_b.ext Ec2
  have F_seasonSeconds_b_2 := F_seasonSeconds_b.ext Ec2
  have F_shortSeasonSeconds_b_2 := F_shortSeasonSeconds_b.ext Ec2
  have F_horizonSeconds_b_2 := F_horizonSeconds_b.ext Ec2
  refine own_by (S' := T2.setTop (mkF m 9 #[.val (.ref b), .val (.double (FP.l2d 1)), .second, .val (.int x), .val (.double (FP.l2d 0)), .second, .val (.double (FP.l2d 1)), .second, .val (.double (FP.l2d 0)), .second, .val (.double (FP.l2d 0)), .second, .val (.double (FP.l2d 0)), .second, .val (.double (FP.l2d 0)), .second, .val (.double (FP.l2d 0)), .second, .val (.int sn), .val (.int (0 : Int32)), .val (.int hz)] [(.ref oo), (.double (FP.l2d 1))])) (fun tZ kZ => st2 _ kZ) ?_
  refine own_by (S' := T2.setTop (mkF m 11 #[.val (.ref b), .val (.double (FP.l2d 1)), .second, .val (.int x), .val (.double (FP.l2d 0)), .second, .val (.double (FP.l2d 1)), .second, .val (.double (FP.l2d 0)), .second, .val (.double (FP.l2d 0)), .second, .val (.double (FP.l2d 0)), .second, .val (.double (FP.l2d 0)), .second, .val (.double (FP.l2d 0)), .second, .val (.int sn), .val (.int (0 : Int32)), .val (.int hz)] [(.double (FP.l2d 0)), (.ref oo), (.double (FP.l2d 1))])) (fun tZ kZ => XS.dload X2.here hx rfl (hb hby d3_9) rfl kZ) ?_
  refine own_by (S' := T2.setTop (mkF m 13 #[.val (.ref b), .val (.double (FP.l2d 1)), .second, .val (.int x), .val (.double (FP.l2d 0)), .second, .val (.double (FP.l2d 1)), .second, .val (.double (FP.l2d 0)), .second, .val (.double (FP.l2d 0)), .second, .val (.double (FP.l2d 0)), .second, .val (.double (FP.l2d 0)), .second, .val (.double (FP.l2d 0)), .second, .val (.int sn), .val (.int (0 : Int32)), .val (.int hz)] [(.double (FP.l2d 1)), (.double (FP.l2d 0)), (.ref oo), (.double (FP.l2d 1))])) (fun tZ kZ => XS.dload X2.here hx rfl (hb hby d3_11) rfl kZ) ?_
  refine own_by (S' := T2.setTop (mkF m 15 #[.val (.ref b), .val (.double (FP.l2d 1)), .second, .val (.int x), .val (.double (FP.l2d 0)), .second, .val (.double (FP.l2d 1)), .second, .val (.double (FP.l2d 0)), .second, .val (.double (FP.l2d 0)), .second, .val (.double (FP.l2d 0)), .second, .val (.double (FP.l2d 0)), .second, .val (.double (FP.l2d 0)), .second, .val (.int sn), .val (.int (0 : Int32)), .val (.int hz)] [(.double (FP.l2d 0)), (.double (FP.l2d 1)), (.double (FP.l2d 0)), (.ref oo), (.double (FP.l2d 1))])) (fun tZ kZ => XS.dload X2.here hx rfl (hb hby d3_13) rfl kZ) ?_
  refine own_by (S' := T2.setTop (mkF m 17 #[.val (.ref b), .val (.double (FP.l2d 1)), .second, .val (.int x), .val (.double (FP.l2d 0)), .second, .val (.double (FP.l2d 1)), .second, .val (.double (FP.l2d 0)), .second, .val (.double (FP.l2d 0)), .second, .val (.double (FP.l2d 0)), .second, .val (.double (FP.l2d 0)), .second, .val (.double (FP.l2d 0)), .second, .val (.int sn), .val (.int (0 : Int32)), .val (.int hz)] [(.double (FP.l2d 0)), (.double (FP.l2d 0)), (.double (FP.l2d 1)), (.double (FP.l2d 0)), (.ref oo), (.double (FP.l2d 1))])) (fun tZ kZ => XS.dload X2.here hx rfl (hb hby d3_15) rfl kZ) ?_
  refine own_by (S' := T2.setTop (mkF m 19 #[.val (.ref b), .val (.double (FP.l2d 1)), .second, .val (.int x), .val (.double (FP.l2d 0)), .second, .val (.double (FP.l2d 1)), .second, .val (.double (FP.l2d 0)), .second, .val (.double (FP.l2d 0)), .second, .val (.double (FP.l2d 0)), .second, .val (.double (FP.l2d 0)), .second, .val (.double (FP.l2d 0)), .second, .val (.int sn), .val (.int (0 : Int32)), .val (.int hz)] [(.double (FP.l2d 0)), (.double (FP.l2d 0)), (.double (FP.l2d 0)), (.double (FP.l2d 1)), (.double (FP.l2d 0)), (.ref oo), (.double (FP.l2d 1))])) (fun tZ kZ => XS.dload X2.here hx rfl (hb hby d3_17) rfl kZ) ?_
  refine own_by (S' := T2.setTop (mkF m 21 #[.val (.ref b), .val (.double (FP.l2d 1)), .second, .val (.int x), .val (.double (FP.l2d 0)), .second, .val (.double (FP.l2d 1)), .second, .val (.double (FP.l2d 0)), .second, .val (.double (FP.l2d 0)), .second, .val (.double (FP.l2d 0)), .second, .val (.double (FP.l2d 0)), .second, .val (.double (FP.l2d 0)), .second, .val (.int sn), .val (.int (0 : Int32)), .val (.int hz)] [(.double (FP.l2d 0)), (.double (FP.l2d 0)), (.double (FP.l2d 0)), (.double (FP.l2d 0)), (.double (FP.l2d 1)), (.double (FP.l2d 0)), (.ref oo), (.double (FP.l2d 1))])) (fun tZ kZ => XS.dload X2.here hx rfl (hb hby d3_19) rfl kZ) ?_
  refine own_by (S' := T2.setTop (mkF m 23 #[.val (.ref b), .val (.double (FP.l2d 1)), .second, .val (.int x), .val (.double (FP.l2d 0)), .second, .val (.double (FP.l2d 1)), .second, .val (.double (FP.l2d 0)), .second, .val (.double (FP.l2d 0)), .second, .val (.double (FP.l2d 0)), .second, .val (.double (FP.l2d 0)), .second, .val (.double (FP.l2d 0)), .second, .val (.int sn), .val (.int (0 : Int32)), .val (.int hz)] [(.double (FP.l2d 0)), (.double (FP.l2d 0)), (.double (FP.l2d 0)), (.double (FP.l2d 0)), (.double (FP.l2d 0)), (.double (FP.l2d 1)), (.double (FP.l2d 0)), (.ref oo), (.double (FP.l2d 1))])) (fun tZ kZ => XS.dload X2.here hx rfl (hb hby d3_21) rfl kZ) ?_
  refine own_by (S' := T2.setTop (mkF m 25 #[.val (.ref b), .val (.double (FP.l2d 1)), .second, .val (.int x), .val (.double (FP.l2d 0)), .second, .val (.double (FP.l2d 1)), .second, .val (.double (FP.l2d 0)), .second, .val (.double (FP.l2d 0)), .second, .val (.double (FP.l2d 0)), .second, .val (.double (FP.l2d 0)), .second, .val (.double (FP.l2d 0)), .second, .val (.int sn), .val (.int (0 : Int32)), .val (.int hz)] [(.int sn), (.double (FP.l2d 0)), (.double (FP.l2d 0)), (.double (FP.l2d 0)), (.double (FP.l2d 0)), (.double (FP.l2d 0)), (.double (FP.l2d 1)), (.double (FP.l2d 0)), (.ref oo), (.double (FP.l2d 1))])) (fun tZ kZ => XS.iload X2.here hx rfl (hb hby d3_23) rfl kZ) ?_
  refine own_by (S' := T2.setTop (mkF m 27 #[.val (.ref b), .val (.double (FP.l2d 1)), .second, .val (.int x), .val (.double (FP.l2d 0)), .second, .val (.double (FP.l2d 1)), .second, .val (.double (FP.l2d 0)), .second, .val (.double (FP.l2d 0)), .second, .val (.double (FP.l2d 0)), .second, .val (.double (FP.l2d 0)), .second, .val (.double (FP.l2d 0)), .second, .val (.int sn), .val (.int (0 : Int32)), .val (.int hz)] [(.int (0 : Int32)), (.int sn), (.double (FP.l2d 0)), (.double (FP.l2d 0)), (.double (FP.l2d 0)), (.double (FP.l2d 0)), (.double (FP.l2d 0)), (.double (FP.l2d 1)), (.double (FP.l2d 0)), (.ref oo), (.double (FP.l2d 1))])) (fun tZ kZ => XS.iload X2.here hx rfl (hb hby d3_25) rfl kZ) ?_
  refine own_by (S' := T2.setTop (mkF m 29 #[.val (.ref b), .val (.double (FP.l2d 1)), .second, .val (.int x), .val (.double (FP.l2d 0)), .second, .val (.double (FP.l2d 1)), .second, .val (.double (FP.l2d 0)), .second, .val (.double (FP.l2d 0)), .second, .val (.double (FP.l2d 0)), .second, .val (.double (FP.l2d 0)), .second, .val (.double (FP.l2d 0)), .second, .val (.int sn), .val (.int (0 : Int32)), .val (.int hz)] [(.int hz), (.int (0 : Int32)), (.int sn), (.double (FP.l2d 0)), (.double (FP.l2d 0)), (.double (FP.l2d 0)), (.double (FP.l2d 0)), (.double (FP.l2d 0)), (.double (FP.l2d 1)), (.double (FP.l2d 0)), (.ref oo), (.double (FP.l2d 1))])) (fun tZ kZ => XS.iload X2.here hx rfl (hb hby d3_27) rfl kZ) ?_
  obtain ⟨_, _, ⟨T3, L3, k3, n3⟩, -, X3, hS3, hg3, ⟨Lc3, hQ3, l3, y3, z3⟩, st3⟩ := callSS X2 hx (y := (⟨"com/example/tidewatch/tidewatch/core/TidewatchPolicy$Settings", "check", "(DLjava/util/OptionalInt;DDDDDDDIII)V"⟩ : MethodName)) hown0 (mvT hZ0 (hw_ hw 39 rfl)) (mvT hZ0 (hw_ hw 40 rfl)) (mvT hZ0 (hw_ hw 12 rfl)) (mvT hZ0 (hw_ hw 41 rfl)) (by decide) (own_backH (Q := QK0 T2.heap T2.heap.size) (I := fun vZ => IB Z vZ ["horizonSeconds", " s", "forecastMargin", "underProvisionedCost", "shortfallCost", "rescaleCost", "holdSeconds", "targetRecoverySeconds", "expectedRestartSeconds", "intervalSeconds"]) (W := 0) (rmCk l Z a0 hw [] oo x sn hz cz do_ dt co ct T2.heap T2.heap.size (Nat.le_refl _) (⟨Nat.le_trans EZ.1 Ec2.1, fun aZ cZ qZ => Ec2.2 aZ cZ (EZ.2 aZ cZ qZ)⟩) HC hcw (Sc.ext Ec2) hcz (S_o.ext Ec2) (A_o.ext Ec2) z_o e_o (S_t.ext Ec2) (A_t.ext Ec2) z_t e_t rfl Oo hx1 hs1 hs2 hz1 hzs) hZH0 (hw_ hw 41 rfl) (hw_ hw 12 rfl) (by decide) (by decide)) (g := (mkF m 29 #[.val (.ref b), .val (.double (FP.l2d 1)), .second, .val (.int x), .val (.double (FP.l2d 0)), .second, .val (.double (FP.l2d 1)), .second, .val (.double (FP.l2d 0)), .second, .val (.double (FP.l2d 0)), .second, .val (.double (FP.l2d 0)), .second, .val (.double (FP.l2d 0)), .second, .val (.double (FP.l2d 0)), .second, .val (.int sn), .val (.int (0 : Int32)), .val (.int hz)] [(.int hz), (.int (0 : Int32)), (.int sn), (.double (FP.l2d 0)), (.double (FP.l2d 0)), (.double (FP.l2d 0)), (.double (FP.l2d 0)), (.double (FP.l2d 0)), (.double (FP.l2d 1)), (.double (FP.l2d 0)), (.ref oo), (.double (FP.l2d 1))])) rfl (by rw [hml]; rfl) (argsL := [(.double (FP.l2d 1)), (.ref oo), (.double (FP.l2d 0)), (.double (FP.l2d 1)), (.double (FP.l2d 0)), (.double (FP.l2d 0)), (.double (FP.l2d 0)), (.double (FP.l2d 0)), (.double (FP.l2d 0)), (.int sn), (.int (0 : Int32)), (.int hz)]) (rest := []) (lenOf pd_28 rfl) rfl (by show 2 * 0 + _ ≤ _; exact Nat.le_of_eq rfl) (hb hby d3_29) (fun _ _ => ⟨rfl, rfl, (by decide : 1 + 24 ≤ _), (by decide : 2 + 648 ≤ _)⟩)
  dsimp only [Pt.U, Pt.locs, Pt.cells, Pt.slots] at X3 l3 y3 z3 st3 hQ3 hS3 hg3
  subst l3 y3 z3
  obtain ⟨⟨rfl, M3q, Kc3⟩, hI3⟩ := hQ3
  have N3q := own_frm M3q Zs2
  have N3 := Fr.app N2 N3q
  obtain ⟨X3, hS3, hZ3, hown3⟩ := rebS hS0 hk2 X3 hS3 hg3 hZ0 hown0
  have Zs3 := Nat.le_trans Zs2 Kc3.1
  have Ec3 := own_ext0 Kc3
  have K3 := K2.ext Ec3
  have Ex_b_3 := Ex_b_2.ext Ec3
  have F_targetUtilization_b_3 := F_targetUtilization_b_2.ext Ec3
  have F_intervalSeconds_b_3 := F_intervalSeconds_b_2.ext Ec3
  have F_expectedRestartSeconds_b_3 := F_expectedRestartSeconds_b_2.ext Ec3
  have F_targetRecoverySeconds_b_3 := F_targetRecoverySeconds_b_2.ext Ec3
  have F_holdSeconds_b_3 := F_holdSeconds_b_2.ext Ec3
  have F_rescaleCost_b_3 := F_rescaleCost_b_2.ext Ec3
  have F_shortfallCost_b_3 := F_shortfallCost_b_2.ext Ec3
  have F_underProvisionedCost_b_3 := F_underProvisionedCost_b_2.ext Ec3
  have F_forecastMargin_b_3 := F_forecastMargin_b_2.ext Ec3
  have F_seasonSeconds_b_3 := F_seasonSeconds_b_2.ext Ec3
  have F_shortSeasonSeconds_b_3 := F_shortSeasonSeconds_b_2.ext Ec3
  have F_horizonSeconds_b_3 := F_horizonSeconds_b_2.ext Ec3
  refine own_by (S' := T3.setTop (mkF m 32 #[.val (.ref b), .val (.double (FP.l2d 1)), .second, .val (.int x), .val (.double (FP.l2d 0)), .second, .val (.double (FP.l2d 1)), .second, .val (.double (FP.l2d 0)), .second, .val (.double (FP.l2d 0)), .second, .val (.double (FP.l2d 0)), .second, .val (.double (FP.l2d 0)), .second, .val (.double (FP.l2d 0)), .second, .val (.int sn), .val (.int (0 : Int32)), .val (.int hz)] [])) (fun tZ kZ => st3.trans kZ) ?_
  refine own_by (S' := T3.setTop (mkF m 33 #[.val (.ref b), .val (.double (FP.l2d 1)), .second, .val (.int x), .val (.double (FP.l2d 0)), .second, .val (.double (FP.l2d 1)), .second, .val (.double (FP.l2d 0)), .second, .val (.double (FP.l2d 0)), .second, .val (.double (FP.l2d 0)), .second, .val (.double (FP.l2d 0)), .second, .val (.double (FP.l2d 0)), .second, .val (.int sn), .val (.int (0 : Int32)), .val (.int hz)] [(.ref b)])) (fun tZ kZ => XS.aloadN X3.here hx rfl (hb hby d3_32) rfl rfl kZ) ?_
  refine own_by (S' := T3.setTop (mkF m 34 #[.val (.ref b), .val (.double (FP.l2d 1)), .second, .val (.int x), .val (.double (FP.l2d 0)), .second, .val (.double (FP.l2d 1)), .second, .val (.double (FP.l2d 0)), .second, .val (.double (FP.l2d 0)), .second, .val (.double (FP.l2d 0)), .second, .val (.double (FP.l2d 0)), .second, .val (.double (FP.l2d 0)), .second, .val (.int sn), .val (.int (0 : Int32)), .val (.int hz)] [(.double (FP.l2d 1)), (.ref b)])) (fun tZ kZ => XS.dloadN X3.here hx rfl (hb hby d3_33) rfl kZ) ?_
  obtain ⟨T4, h4, X4, e4, W4, st4⟩ := putF X3 hx hZ3 hown3 (host := "") (Or.inl (hw_ hw 242 rfl)) Via.refl rfl F_targetUtilization_b_3 Ex_b_3 (Or.inr ⟨(hw_ hw 243 rfl), rfl, hnm⟩) (hw_ hw 11 rfl) (ty := .double) (by decide) rfl rfl (g := (mkF m 34 #[.val (.ref b), .val (.double (FP.l2d 1)), .second, .val (.int x), .val (.double (FP.l2d 0)), .second, .val (.double (FP.l2d 1)), .second, .val (.double (FP.l2d 0)), .second, .val (.double (FP.l2d 0)), .second, .val (.double (FP.l2d 0)), .second, .val (.double (FP.l2d 0)), .second, .val (.double (FP.l2d 0)), .second, .val (.int sn), .val (.int (0 : Int32)), .val (.int hz)] [(.double (FP.l2d 1)), (.ref b)])) rfl rfl (hb hby d3_34)
  have N4 := Fr.snoc X4 N3 g_b
  have Ex_b_4 := Ex_b_3.wr W4
  have F_targetUtilization_b_4 := F_targetUtilization_b_3.same W4
  have F_intervalSeconds_b_4 := F_intervalSeconds_b_3.other W4 (Or.inr (slot_ne (Or.inr (hw_ hw 245 rfl)) (Or.inr (hw_ hw 243 rfl)) (by decide) (t := .int) (t' := .double) (by decide) (by decide)))
  have F_expectedRestartSeconds_b_4 := F_expectedRestartSeconds_b_3.other W4 (Or.inr (slot_ne (Or.inr (hw_ hw 247 rfl)) (Or.inr (hw_ hw 243 rfl)) (by decide) (t := .double) (t' := .double) (by decide) (by decide)))
  have F_targetRecoverySeconds_b_4 := F_targetRecoverySeconds_b_3.other W4 (Or.inr (slot_ne (Or.inr (hw_ hw 249 rfl)) (Or.inr (hw_ hw 243 rfl)) (by decide) (t := .double) (t' := .double) (by decide) (by decide)))
  have F_holdSeconds_b_4 := F_holdSeconds_b_3.other W4 (Or.inr (slot_ne (Or.inr (hw_ hw 251 rfl)) (Or.inr (hw_ hw 243 rfl)) (by decide) (t := .double) (t' := .double) (by decide) (by decide)))
  have F_rescaleCost_b_4 := F_rescaleCost_b_3.other W4 (Or.inr (slot_ne (Or.inr (hw_ hw 253 rfl)) (Or.inr (hw_ hw 243 rfl)) (by decide) (t := .double) (t' := .double) (by decide) (by decide)))
  have F_shortfallCost_b_4 := F_shortfallCost_b_3.other W4 (Or.inr (slot_ne (Or.inr (hw_ hw 255 rfl)) (Or.inr (hw_ hw 243 rfl)) (by decide) (t := .double) (t' := .double) (by decide) (by decide)))
  have F_underProvisionedCost_b_4 := F_underProvisionedCost_b_3.other W4 (Or.inr (slot_ne (Or.inr (hw_ hw 257 rfl)) (Or.inr (hw_ hw 243 rfl)) (by decide) (t := .double) (t' := .double) (by decide) (by decide)))
  have F_forecastMargin_b_4 := F_forecastMargin_b_3.other W4 (Or.inr (slot_ne (Or.inr (hw_ hw 259 rfl)) (Or.inr (hw_ hw 243 rfl)) (by decide) (t := .double) (t' := .double) (by decide) (by decide)))
  have F_seasonSeconds_b_4 := F_seasonSeconds_b_3.other W4 (Or.inr (slot_ne (Or.inr (hw_ hw 261 rfl)) (Or.inr (hw_ hw 243 rfl)) (by decide) (t := .int) (t' := .double) (by decide) (by decide)))
  have F_shortSeasonSeconds_b_4 := F_shortSeasonSeconds_b_3.other W4 (Or.inr (slot_ne (Or.inr (hw_ hw 263 rfl)) (Or.inr (hw_ hw 243 rfl)) (by decide) (t := .int) (t' := .double) (by decide) (by decide)))
  have F_horizonSeconds_b_4 := F_horizonSeconds_b_3.other W4 (Or.inr (slot_ne (Or.inr (hw_ hw 265 rfl)) (Or.inr (hw_ hw 243 rfl)) (by decide) (t := .int) (t' := .double) (by decide) (by decide)))
  have Zs4 : n0 ≤ h4.size := Nat.le_trans Zs3 (Keep.of_wr W4).1
  have hk4 := Nat.le_trans (Nat.le_refl _) (Keep.of_wr W4).1
  have K4 := K3.wr W4 (Or.inl (List.mem_of_getElem? (i := 0) rfl))
  refine own_by (S' := T4.setTop (mkF m 37 #[.val (.ref b), .val (.double (FP.l2d 1)), .second, .val (.int x), .val (.double (FP.l2d 0)), .second, .val (.double (FP.l2d 1)), .second, .val (.double (FP.l2d 0)), .second, .val (.double (FP.l2d 0)), .second, .val (.double (FP.l2d 0)), .second, .val (.double (FP.l2d 0)), .second, .val (.double (FP.l2d 0)), .second, .val (.int sn), .val (.int (0 : Int32)), .val (.int hz)] [])) st4 ?_
  refine own_by (S' := T4.setTop (mkF m 38 #[.val (.ref b), .val (.double (FP.l2d 1)), .second, .val (.int x), .val (.double (FP.l2d 0)), .second, .val (.double (FP.l2d 1)), .second, .val (.double (FP.l2d 0)), .second, .val (.double (FP.l2d 0)), .second, .val (.double (FP.l2d 0)), .second, .val (.double (FP.l2d 0)), .second, .val (.double (FP.l2d 0)), .second, .val (.int sn), .val (.int (0 : Int32)), .val (.int hz)] [(.ref b)])) (fun tZ kZ => XS.aloadN X4.here hx rfl (hb hby d3_37) rfl rfl kZ) ?_
  refine own_by (S' := T4.setTop (mkF m 39 #[.val (.ref b), .val (.double (FP.l2d 1)), .second, .val (.int x), .val (.double (FP.l2d 0)), .second, .val (.double (FP.l2d 1)), .second, .val (.double (FP.l2d 0)), .second, .val (.double (FP.l2d 0)), .second, .val (.double (FP.l2d 0)), .second, .val (.double (FP.l2d 0)), .second, .val (.double (FP.l2d 0)), .second, .val (.int sn), .val (.int (0 : Int32)), .val (.int hz)] [(.int x), (.ref b)])) (fun tZ kZ => XS.iloadN X4.here hx rfl (hb hby d3_38) rfl kZ) ?_
  obtain ⟨T5, h5, X5, e5, W5, st5⟩ := putF X4 hx hZ3 hown3 (host := "") (Or.inl (hw_ hw 244 rfl)) Via.refl e4 F_intervalSeconds_b_4 Ex_b_4 (Or.inr ⟨(hw_ hw 245 rfl), rfl, hnm⟩) (hw_ hw 11 rfl) (ty := .int) (by decide) rfl rfl (g := (mkF m 39 #[.val (.ref b), .val (.double (FP.l2d 1)), .second, .val (.int x), .val (.double (FP.l2d 0)), .second, .val (.double (FP.l2d 1)), .second, .val (.double (FP.l2d 0)), .second, .val (.double (FP.l2d 0)), .second, .val (.double (FP.l2d 0)), .second, .val (.double (FP.l2d 0)), .second, .val (.double (FP.l2d 0)), .second, .val (.int sn), .val (.int (0 : Int32)), .val (.int hz)] [(.int x), (.ref b)])) rfl rfl (hb hby d3_39)
  have N5 := Fr.snoc X5 N4 g_b
  have Ex_b_5 := Ex_b_4.wr W5
  have F_targetUtilization_b_5 := F_targetUtilization_b_4.other W5 (Or.inr (slot_ne (Or.inr (hw_ hw 243 rfl)) (Or.inr (hw_ hw 245 rfl)) (by decide) (t := .double) (t' := .int) (by decide) (by decide)))
  have F_intervalSeconds_b_5 := F_intervalSeconds_b_4.same W5
  have F_expectedRestartSeconds_b_5 := F_expectedRestartSeconds_b_4.other W5 (Or.inr (slot_ne (Or.inr (hw_ hw 247 rfl)) (Or.inr (hw_ hw 245 rfl)) (by decide) (t := .double) (t' := .int) (by decide) (by decide)))
  have F_targetRecoverySeconds_b_5 := F_targetRecoverySeconds_b_4.other W5 (Or.inr (slot_ne (Or.inr (hw_ hw 249 rfl)) (Or.inr (hw_ hw 245 rfl)) (by decide) (t := .double) (t' := .int) (by decide) (by decide)))
  have F_holdSeconds_b_5 := F_holdSeconds_b_4.other W5 (Or.inr (slot_ne (Or.inr (hw_ hw 251 rfl)) (Or.inr (hw_ hw 245 rfl)) (by decide) (t := .double) (t' := .int) (by decide) (by decide)))
  have F_rescaleCost_b_5 := F_rescaleCost_b_4.other W5 (Or.inr (slot_ne (Or.inr (hw_ hw 253 rfl)) (Or.inr (hw_ hw 245 rfl)) (by decide) (t := .double) (t' := .int) (by decide) (by decide)))
  have F_shortfallCost_b_5 := F_shortfallCost_b_4.other W5 (Or.inr (slot_ne (Or.inr (hw_ hw 255 rfl)) (Or.inr (hw_ hw 245 rfl)) (by decide) (t := .double) (t' := .int) (by decide) (by decide)))
  have F_underProvisionedCost_b_5 := F_underProvisionedCost_b_4.other W5 (Or.inr (slot_ne (Or.inr (hw_ hw 257 rfl)) (Or.inr (hw_ hw 245 rfl)) (by decide) (t := .double) (t' := .int) (by decide) (by decide)))
  have F_forecastMargin_b_5 := F_forecastMargin_b_4.other W5 (Or.inr (slot_ne (Or.inr (hw_ hw 259 rfl)) (Or.inr (hw_ hw 245 rfl)) (by decide) (t := .double) (t' := .int) (by decide) (by decide)))
  have F_seasonSeconds_b_5 := F_seasonSeconds_b_4.other W5 (Or.inr (slot_ne (Or.inr (hw_ hw 261 rfl)) (Or.inr (hw_ hw 245 rfl)) (by decide) (t := .int) (t' := .int) (by decide) (by decide)))
  have F_shortSeasonSeconds_b_5 := F_shortSeasonSeconds_b_4.other W5 (Or.inr (slot_ne (Or.inr (hw_ hw 263 rfl)) (Or.inr (hw_ hw 245 rfl)) (by decide) (t := .int) (t' := .int) (by decide) (by decide)))
  have F_horizonSeconds_b_5 := F_horizonSeconds_b_4.other W5 (Or.inr (slot_ne (Or.inr (hw_ hw 265 rfl)) (Or.inr (hw_ hw 245 rfl)) (by decide) (t := .int) (t' := .int) (by decide) (by decide)))
  have Zs5 : n0 ≤ h5.size := Nat.le_trans Zs4 (Keep.of_wr W5).1
  have hk5 := Nat.le_trans hk4 (Keep.of_wr W5).1
  have K5 := K4.wr W5 (Or.inl (List.mem_of_getElem? (i := 0) rfl))
  refine own_by (S' := T5.setTop (mkF m 42 #[.val (.ref b), .val (.double (FP.l2d 1)), .second, .val (.int x), .val (.double (FP.l2d 0)), .second, .val (.double (FP.l2d 1)), .second, .val (.double (FP.l2d 0)), .second, .val (.double (FP.l2d 0)), .second, .val (.double (FP.l2d 0)), .second, .val (.double (FP.l2d 0)), .second, .val (.double (FP.l2d 0)), .second, .val (.int sn), .val (.int (0 : Int32)), .val (.int hz)] [])) st5 ?_
  refine own_by (S' := T5.setTop (mkF m 43 #[.val (.ref b), .val (.double (FP.l2d 1)), .second, .val (.int x), .val (.double (FP.l2d 0)), .second, .val (.double (FP.l2d 1)), .second, .val (.double (FP.l2d 0)), .second, .val (.double (FP.l2d 0)), .second, .val (.double (FP.l2d 0)), .second, .val (.double (FP.l2d 0)), .second, .val (.double (FP.l2d 0)), .second, .val (.int sn), .val (.int (0 : Int32)), .val (.int hz)] [(.ref b)])) (fun tZ kZ => XS.aloadN X5.here hx rfl (hb hby d3_42) rfl rfl kZ) ?_
  refine own_by (S' := T5.setTop (mkF m 45 #[.val (.ref b), .val (.double (FP.l2d 1)), .second, .val (.int x), .val (.double (FP.l2d 0)), .second, .val (.double (FP.l2d 1)), .second, .val (.double (FP.l2d 0)), .second, .val (.double (FP.l2d 0)), .second, .val (.double (FP.l2d 0)), .second, .val (.double (FP.l2d 0)), .second, .val (.double (FP.l2d 0)), .second, .val (.int sn), .val (.int (0 : Int32)), .val (.int hz)] [(.double (FP.l2d 0)), (.ref b)])) (fun tZ kZ => XS.dload X5.here hx rfl (hb hby d3_43) rfl kZ) ?_
  obtain ⟨T6, h6, X6, e6, W6, st6⟩ := putF X5 hx hZ3 hown3 (host := "") (Or.inl (hw_ hw 246 rfl)) Via.refl e5 F_expectedRestartSeconds_b_5 Ex_b_5 (Or.inr ⟨(hw_ hw 247 rfl), rfl, hnm⟩) (hw_ hw 11 rfl) (ty := .double) (by decide) rfl rfl (g := (mkF m 45 #[.val (.ref b), .val (.double (FP.l2d 1)), .second, .val (.int x), .val (.double (FP.l2d 0)), .second, .val (.double (FP.l2d 1)), .second, .val (.double (FP.l2d 0)), .second, .val (.double (FP.l2d 0)), .second, .val (.double (FP.l2d 0)), .second, .val (.double (FP.l2d 0)), .second, .val (.double (FP.l2d 0)), .second, .val (.int sn), .val (.int (0 : Int32)), .val (.int hz)] [(.double (FP.l2d 0)), (.ref b)])) rfl rfl (hb hby d3_45)
  have N6 := Fr.snoc X6 N5 g_b
  have Ex_b_6 := Ex_b_5.wr W6
  have F_targetUtilization_b_6 := F_targetUtilization_b_5.other W6 (Or.inr (slot_ne (Or.inr (hw_ hw 243 rfl)) (Or.inr (hw_ hw 247 rfl)) (by decide) (t := .double) (t' := .double) (by decide) (by decide)))
  have F_intervalSeconds_b_6 := F_intervalSeconds_b_5.other W6 (Or.inr (slot_ne (Or.inr (hw_ hw 245 rfl)) (Or.inr (hw_ hw 247 rfl)) (by decide) (t := .int) (t' := .double) (by decide) (by decide)))
  have F_expectedRestartSeconds_b_6 := F_expectedRestartSeconds_b_5.same W6
  have F_targetRecoverySeconds_b_6 := F_targetRecoverySeconds_b_5.other W6 (Or.inr (slot_ne (Or.inr (hw_ hw 249 rfl)) (Or.inr (hw_ hw 247 rfl)) (by decide) (t := .double) (t' := .double) (by decide) (by decide)))
  have F_holdSeconds_b_6 := F_holdSeconds_b_5.other W6 (Or.inr (slot_ne (Or.inr (hw_ hw 251 rfl)) (Or.inr (hw_ hw 247 rfl)) (by decide) (t := .double) (t' := .double) (by decide) (by decide)))
  have F_rescaleCost_b_6 := F_rescaleCost_b_5.other W6 (Or.inr (slot_ne (Or.inr (hw_ hw 253 rfl)) (Or.inr (hw_ hw 247 rfl)) (by decide) (t := .double) (t' := .double) (by decide) (by decide)))
  have F_shortfallCost_b_6 := F_shortfallCost_b_5.other W6 (Or.inr (slot_ne (Or.inr (hw_ hw 255 rfl)) (Or.inr (hw_ hw 247 rfl)) (by decide) (t := .double) (t' := .double) (by decide) (by decide)))
  have F_underProvisionedCost_b_6 := F_underProvisionedCost_b_5.other W6 (Or.inr (slot_ne (Or.inr (hw_ hw 257 rfl)) (Or.inr (hw_ hw 247 rfl)) (by decide) (t := .double) (t' := .double) (by decide) (by decide)))
  have F_forecastMargin_b_6 := F_forecastMargin_b_5.other W6 (Or.inr (slot_ne (Or.inr (hw_ hw 259 rfl)) (Or.inr (hw_ hw 247 rfl)) (by decide) (t := .double) (t' := .double) (by decide) (by decide)))
  have F_seasonSeconds_b_6 := F_seasonSeconds_b_5.other W6 (Or.inr (slot_ne (Or.inr (hw_ hw 261 rfl)) (Or.inr (hw_ hw 247 rfl)) (by decide) (t := .int) (t' := .double) (by decide) (by decide)))
  have F_shortSeasonSeconds_b_6 := F_shortSeasonSeconds_b_5.other W6 (Or.inr (slot_ne (Or.inr (hw_ hw 263 rfl)) (Or.inr (hw_ hw 247 rfl)) (by decide) (t := .int) (t' := .double) (by decide) (by decide)))
  have F_horizonSeconds_b_6 := F_horizonSeconds_b_5.other W6 (Or.inr (slot_ne (Or.inr (hw_ hw 265 rfl)) (Or.inr (hw_ hw 247 rfl)) (by decide) (t := .int) (t' := .double) (by decide) (by decide)))
  have Zs6 : n0 ≤ h6.size := Nat.le_trans Zs5 (Keep.of_wr W6).1
  have hk6 := Nat.le_trans hk5 (Keep.of_wr W6).1
  have K6 := K5.wr W6 (Or.inl (List.mem_of_getElem? (i := 0) rfl))
  refine own_by (S' := T6.setTop (mkF m 48 #[.val (.ref b), .val (.double (FP.l2d 1)), .second, .val (.int x), .val (.double (FP.l2d 0)), .second, .val (.double (FP.l2d 1)), .second, .val (.double (FP.l2d 0)), .second, .val (.double (FP.l2d 0)), .second, .val (.double (FP.l2d 0)), .second, .val (.double (FP.l2d 0)), .second, .val (.double (FP.l2d 0)), .second, .val (.int sn), .val (.int (0 : Int32)), .val (.int hz)] [])) st6 ?_
  refine own_by (S' := T6.setTop (mkF m 49 #[.val (.ref b), .val (.double (FP.l2d 1)), .second, .val (.int x), .val (.double (FP.l2d 0)), .second, .val (.double (FP.l2d 1)), .second, .val (.double (FP.l2d 0)), .second, .val (.double (FP.l2d 0)), .second, .val (.double (FP.l2d 0)), .second, .val (.double (FP.l2d 0)), .second, .val (.double (FP.l2d 0)), .second, .val (.int sn), .val (.int (0 : Int32)), .val (.int hz)] [(.ref b)])) (fun tZ kZ => XS.aloadN X6.here hx rfl (hb hby d3_48) rfl rfl kZ) ?_
  refine own_by (S' := T6.setTop (mkF m 51 #[.val (.ref b), .val (.double (FP.l2d 1)), .second, .val (.int x), .val (.double (FP.l2d 0)), .second, .val (.double (FP.l2d 1)), .second, .val (.double (FP.l2d 0)), .second, .val (.double (FP.l2d 0)), .second, .val (.double (FP.l2d 0)), .second, .val (.double (FP.l2d 0)), .second, .val (.double (FP.l2d 0)), .second, .val (.int sn), .val (.int (0 : Int32)), .val (.int hz)] [(.double (FP.l2d 1)), (.ref b)])) (fun tZ kZ => XS.dload X6.here hx rfl (hb hby d3_49) rfl kZ) ?_
  obtain ⟨T7, h7, X7, e7, W7, st7⟩ := putF X6 hx hZ3 hown3 (host := "") (Or.inl (hw_ hw 248 rfl)) Via.refl e6 F_targetRecoverySeconds_b_6 Ex_b_6 (Or.inr ⟨(hw_ hw 249 rfl), rfl, hnm⟩) (hw_ hw 11 rfl) (ty := .double) (by decide) rfl rfl (g := (mkF m 51 #[.val (.ref b), .val (.double (FP.l2d 1)), .second, .val (.int x), .val (.double (FP.l2d 0)), .second, .val (.double (FP.l2d 1)), .second, .val (.double (FP.l2d 0)), .second, .val (.double (FP.l2d 0)), .second, .val (.double (FP.l2d 0)), .second, .val (.double (FP.l2d 0)), .second, .val (.double (FP.l2d 0)), .second, .val (.int sn), .val (.int (0 : Int32)), .val (.int hz)] [(.double (FP.l2d 1)), (.ref b)])) rfl rfl (hb hby d3_51)
  have N7 := Fr.snoc X7 N6 g_b
  have Ex_b_7 := Ex_b_6.wr W7
  have F_targetUtilization_b_7 := F_targetUtilization_b_6.other W7 (Or.inr (slot_ne (Or.inr (hw_ hw 243 rfl)) (Or.inr (hw_ hw 249 rfl)) (by decide) (t := .double) (t' := .double) (by decide) (by decide)))
  have F_intervalSeconds_b_7 := F_intervalSeconds_b_6.other W7 (Or.inr (slot_ne (Or.inr (hw_ hw 245 rfl)) (Or.inr (hw_ hw 249 rfl)) (by decide) (t := .int) (t' := .double) (by decide) (by decide)))
  have F_expectedRestartSeconds_b_7 := F_expectedRestartSeconds_b_6.other W7 (Or.inr (slot_ne (Or.inr (hw_ hw 247 rfl)) (Or.inr (hw_ hw 249 rfl)) (by decide) (t := .double) (t' := .double) (by decide) (by decide)))
  have F_targetRecoverySeconds_b_7 := F_targetRecoverySeconds_b_6.same W7
  have F_holdSeconds_b_7 := F_holdSeconds_b_6.other W7 (Or.inr (slot_ne (Or.inr (hw_ hw 251 rfl)) (Or.inr (hw_ hw 249 rfl)) (by decide) (t := .double) (t' := .double) (by decide) (by decide)))
  have F_rescaleCost_b_7 := F_rescaleCost_b_6.other W7 (Or.inr (slot_ne (Or.inr (hw_ hw 253 rfl)) (Or.inr (hw_ hw 249 rfl)) (by decide) (t := .double) (t' := .double) (by decide) (by decide)))
  have F_shortfallCost_b_7 := F_shortfallCost_b_6.other W7 (Or.inr (slot_ne (Or.inr (hw_ hw 255 rfl)) (Or.inr (hw_ hw 249 rfl)) (by decide) (t := .double) (t' := .double) (by decide) (by decide)))
  have F_underProvisionedCost_b_7 := F_underProvisionedCost_b_6.other W7 (Or.inr (slot_ne (Or.inr (hw_ hw 257 rfl)) (Or.inr (hw_ hw 249 rfl)) (by decide) (t := .double) (t' := .double) (by decide) (by decide)))
  have F_forecastMargin_b_7 := F_forecastMargin_b_6.other W7 (Or.inr (slot_ne (Or.inr (hw_ hw 259 rfl)) (Or.inr (hw_ hw 249 rfl)) (by decide) (t := .double) (t' := .double) (by decide) (by decide)))
  have F_seasonSeconds_b_7 := F_seasonSeconds_b_6.other W7 (Or.inr (slot_ne (Or.inr (hw_ hw 261 rfl)) (Or.inr (hw_ hw 249 rfl)) (by decide) (t := .int) (t' := .double) (by decide) (by decide)))
  have F_shortSeasonSeconds_b_7 := F_shortSeasonSeconds_b_6.other W7 (Or.inr (slot_ne (Or.inr (hw_ hw 263 rfl)) (Or.inr (hw_ hw 249 rfl)) (by decide) (t := .int) (t' := .double) (by decide) (by decide)))
  have F_horizonSeconds_b_7 := F_horizonSeconds_b_6.other W7 (Or.inr (slot_ne (Or.inr (hw_ hw 265 rfl)) (Or.inr (hw_ hw 249 rfl)) (by decide) (t := .int) (t' := .double) (by decide) (by decide)))
  have Zs7 : n0 ≤ h7.size := Nat.le_trans Zs6 (Keep.of_wr W7).1
  have hk7 := Nat.le_trans hk6 (Keep.of_wr W7).1
  have K7 := K6.wr W7 (Or.inl (List.mem_of_getElem? (i := 0) rfl))
  refine own_by (S' := T7.setTop (mkF m 54 #[.val (.ref b), .val (.double (FP.l2d 1)), .second, .val (.int x), .val (.double (FP.l2d 0)), .second, .val (.double (FP.l2d 1)), .second, .val (.double (FP.l2d 0)), .second, .val (.double (FP.l2d 0)), .second, .val (.double (FP.l2d 0)), .second, .val (.double (FP.l2d 0)), .second, .val (.double (FP.l2d 0)), .second, .val (.int sn), .val (.int (0 : Int32)), .val (.int hz)] [])) st7 ?_
  refine own_by (S' := T7.setTop (mkF m 55 #[.val (.ref b), .val (.double (FP.l2d 1)), .second, .val (.int x), .val (.double (FP.l2d 0)), .second, .val (.double (FP.l2d 1)), .second, .val (.double (FP.l2d 0)), .second, .val (.double (FP.l2d 0)), .second, .val (.double (FP.l2d 0)), .second, .val (.double (FP.l2d 0)), .second, .val (.double (FP.l2d 0)), .second, .val (.int sn), .val (.int (0 : Int32)), .val (.int hz)] [(.ref b)])) (fun tZ kZ => XS.aloadN X7.here hx rfl (hb hby d3_54) rfl rfl kZ) ?_
  refine own_by (S' := T7.setTop (mkF m 57 #[.val (.ref b), .val (.double (FP.l2d 1)), .second, .val (.int x), .val (.double (FP.l2d 0)), .second, .val (.double (FP.l2d 1)), .second, .val (.double (FP.l2d 0)), .second, .val (.double (FP.l2d 0)), .second, .val (.double (FP.l2d 0)), .second, .val (.double (FP.l2d 0)), .second, .val (.double (FP.l2d 0)), .second, .val (.int sn), .val (.int (0 : Int32)), .val (.int hz)] [(.double (FP.l2d 0)), (.ref b)])) (fun tZ kZ => XS.dload X7.here hx rfl (hb hby d3_55) rfl kZ) ?_
  obtain ⟨T8, h8, X8, e8, W8, st8⟩ := putF X7 hx hZ3 hown3 (host := "") (Or.inl (hw_ hw 250 rfl)) Via.refl e7 F_holdSeconds_b_7 Ex_b_7 (Or.inr ⟨(hw_ hw 251 rfl), rfl, hnm⟩) (hw_ hw 11 rfl) (ty := .double) (by decide) rfl rfl (g := (mkF m 57 #[.val (.ref b), .val (.double (FP.l2d 1)), .second, .val (.int x), .val (.double (FP.l2d 0)), .second, .val (.double (FP.l2d 1)), .second, .val (.double (FP.l2d 0)), .second, .val (.double (FP.l2d 0)), .second, .val (.double (FP.l2d 0)), .second, .val (.double (FP.l2d 0)), .second, .val (.double (FP.l2d 0)), .second, .val (.int sn), .val (.int (0 : Int32)), .val (.int hz)] [(.double (FP.l2d 0)), (.ref b)])) rfl rfl (hb hby d3_57)
  have N8 := Fr.snoc X8 N7 g_b
  have Ex_b_8 := Ex_b_7.wr W8
  have F_targetUtilization_b_8 := F_targetUtilization_b_7.other W8 (Or.inr (slot_ne (Or.inr (hw_ hw 243 rfl)) (Or.inr (hw_ hw 251 rfl)) (by decide) (t := .double) (t' := .double) (by decide) (by decide)))
  have F_intervalSeconds_b_8 := F_intervalSeconds_b_7.other W8 (Or.inr (slot_ne (Or.inr (hw_ hw 245 rfl)) (Or.inr (hw_ hw 251 rfl)) (by decide) (t := .int) (t' := .double) (by decide) (by decide)))
  have F_expectedRestartSeconds_b_8 := F_expectedRestartSeconds_b_7.other W8 (Or.inr (slot_ne (Or.inr (hw_ hw 247 rfl)) (Or.inr (hw_ hw 251 rfl)) (by decide) (t := .double) (t' := .double) (by decide) (by decide)))
  have F_targetRecoverySeconds_b_8 := F_targetRecoverySeconds_b_7.other W8 (Or.inr (slot_ne (Or.inr (hw_ hw 249 rfl)) (Or.inr (hw_ hw 251 rfl)) (by decide) (t := .double) (t' := .double) (by decide) (by decide)))
  have F_holdSeconds_b_8 := F_holdSeconds_b_7.same W8
  have F_rescaleCost_b_8 := F_rescaleCost_b_7.other W8 (Or.inr (slot_ne (Or.inr (hw_ hw 253 rfl)) (Or.inr (hw_ hw 251 rfl)) (by decide) (t := .double) (t' := .double) (by decide) (by decide)))
  have F_shortfallCost_b_8 := F_shortfallCost_b_7.other W8 (Or.inr (slot_ne (Or.inr (hw_ hw 255 rfl)) (Or.inr (hw_ hw 251 rfl)) (by decide) (t := .double) (t' := .double) (by decide) (by decide)))
  have F_underProvisionedCost_b_8 := F_underProvisionedCost_b_7.other W8 (Or.inr (slot_ne (Or.inr (hw_ hw 257 rfl)) (Or.inr (hw_ hw 251 rfl)) (by decide) (t := .double) (t' := .double) (by decide) (by decide)))
  have F_forecastMargin_b_8 := F_forecastMargin_b_7.other W8 (Or.inr (slot_ne (Or.inr (hw_ hw 259 rfl)) (Or.inr (hw_ hw 251 rfl)) (by decide) (t := .double) (t' := .double) (by decide) (by decide)))
  have F_seasonSeconds_b_8 := F_seasonSeconds_b_7.other W8 (Or.inr (slot_ne (Or.inr (hw_ hw 261 rfl)) (Or.inr (hw_ hw 251 rfl)) (by decide) (t := .int) (t' := .double) (by decide) (by decide)))
  have F_shortSeasonSeconds_b_8 := F_shortSeasonSeconds_b_7.other W8 (Or.inr (slot_ne (Or.inr (hw_ hw 263 rfl)) (Or.inr (hw_ hw 251 rfl)) (by decide) (t := .int) (t' := .double) (by decide) (by decide)))
  have F_horizonSeconds_b_8 := F_horizonSeconds_b_7.other W8 (Or.inr (slot_ne (Or.inr (hw_ hw 265 rfl)) (Or.inr (hw_ hw 251 rfl)) (by decide) (t := .int) (t' := .double) (by decide) (by decide)))
  have Zs8 : n0 ≤ h8.size := Nat.le_trans Zs7 (Keep.of_wr W8).1
  have hk8 := Nat.le_trans hk7 (Keep.of_wr W8).1
  have K8 := K7.wr W8 (Or.inl (List.mem_of_getElem? (i := 0) rfl))
  refine own_by (S' := T8.setTop (mkF m 60 #[.val (.ref b), .val (.double (FP.l2d 1)), .second, .val (.int x), .val (.double (FP.l2d 0)), .second, .val (.double (FP.l2d 1)), .second, .val (.double (FP.l2d 0)), .second, .val (.double (FP.l2d 0)), .second, .val (.double (FP.l2d 0)), .second, .val (.double (FP.l2d 0)), .second, .val (.double (FP.l2d 0)), .second, .val (.int sn), .val (.int (0 : Int32)), .val (.int hz)] [])) st8 ?_
  refine own_by (S' := T8.setTop (mkF m 61 #[.val (.ref b), .val (.double (FP.l2d 1)), .second, .val (.int x), .val (.double (FP.l2d 0)), .second, .val (.double (FP.l2d 1)), .second, .val (.double (FP.l2d 0)), .second, .val (.double (FP.l2d 0)), .second, .val (.double (FP.l2d 0)), .second, .val (.double (FP.l2d 0)), .second, .val (.double (FP.l2d 0)), .second, .val (.int sn), .val (.int (0 : Int32)), .val (.int hz)] [(.ref b)])) (fun tZ kZ => XS.aloadN X8.here hx rfl (hb hby d3_60) rfl rfl kZ) ?_
  refine own_by (S' := T8.setTop (mkF m 63 #[.val (.ref b), .val (.double (FP.l2d 1)), .second, .val (.int x), .val (.double (FP.l2d 0)), .second, .val (.double (FP.l2d 1)), .second, .val (.double (FP.l2d 0)), .second, .val (.double (FP.l2d 0)), .second, .val (.double (FP.l2d 0)), .second, .val (.double (FP.l2d 0)), .second, .val (.double (FP.l2d 0)), .second, .val (.int sn), .val (.int (0 : Int32)), .val (.int hz)] [(.double (FP.l2d 0)), (.ref b)])) (fun tZ kZ => XS.dload X8.here hx rfl (hb hby d3_61) rfl kZ) ?_
  obtain ⟨T9, h9, X9, e9, W9, st9⟩ := putF X8 hx hZ3 hown3 (host := "") (Or.inl (hw_ hw 252 rfl)) Via.refl e8 F_rescaleCost_b_8 Ex_b_8 (Or.inr ⟨(hw_ hw 253 rfl), rfl, hnm⟩) (hw_ hw 11 rfl) (ty := .double) (by decide) rfl rfl (g := (mkF m 63 #[.val (.ref b), .val (.double (FP.l2d 1)), .second, .val (.int x), .val (.double (FP.l2d 0)), .second, .val (.double (FP.l2d 1)), .second, .val (.double (FP.l2d 0)), .second, .val (.double (FP.l2d 0)), .second, .val (.double (FP.l2d 0)), .second, .val (.double (FP.l2d 0)), .second, .val (.double (FP.l2d 0)), .second, .val (.int sn), .val (.int (0 : Int32)), .val (.int hz)] [(.double (FP.l2d 0)), (.ref b)])) rfl rfl (hb hby d3_63)
  have N9 := Fr.snoc X9 N8 g_b
  have Ex_b_9 := Ex_b_8.wr W9
  have F_targetUtilization_b_9 := F_targetUtilization_b_8.other W9 (Or.inr (slot_ne (Or.inr (hw_ hw 243 rfl)) (Or.inr (hw_ hw 253 rfl)) (by decide) (t := .double) (t' := .double) (by decide) (by decide)))
  have F_intervalSeconds_b_9 := F_intervalSeconds_b_8.other W9 (Or.inr (slot_ne (Or.inr (hw_ hw 245 rfl)) (Or.inr (hw_ hw 253 rfl)) (by decide) (t := .int) (t' := .double) (by decide) (by decide)))
  have F_expectedRestartSeconds_b_9 := F_expectedRestartSeconds_b_8.other W9 (Or.inr (slot_ne (Or.inr (hw_ hw 247 rfl)) (Or.inr (hw_ hw 253 rfl)) (by decide) (t := .double) (t' := .double) (by decide) (by decide)))
  have F_targetRecoverySeconds_b_9 := F_targetRecoverySeconds_b_8.other W9 (Or.inr (slot_ne (Or.inr (hw_ hw 249 rfl)) (Or.inr (hw_ hw 253 rfl)) (by decide) (t := .double) (t' := .double) (by decide) (by decide)))
  have F_holdSeconds_b_9 := F_holdSeconds_b_8.other W9 (Or.inr (slot_ne (Or.inr (hw_ hw 251 rfl)) (Or.inr (hw_ hw 253 rfl)) (by decide) (t := .double) (t' := .double) (by decide) (by decide)))
  have F_rescaleCost_b_9 := F_rescaleCost_b_8.same W9
  have F_shortfallCost_b_9 := F_shortfallCost_b_8.other W9 (Or.inr (slot_ne (Or.inr (hw_ hw 255 rfl)) (Or.inr (hw_ hw 253 rfl)) (by decide) (t := .double) (t' := .double) (by decide) (by decide)))
  have F_underProvisionedCost_b_9 := F_underProvisionedCost_b_8.other W9 (Or.inr (slot_ne (Or.inr (hw_ hw 257 rfl)) (Or.inr (hw_ hw 253 rfl)) (by decide) (t := .double) (t' := .double) (by decide) (by decide)))
  have F_forecastMargin_b_9 := F_forecastMargin_b_8.other W9 (Or.inr (slot_ne (Or.inr (hw_ hw 259 rfl)) (Or.inr (hw_ hw 253 rfl)) (by decide) (t := .double) (t' := .double) (by decide) (by decide)))
  have F_seasonSeconds_b_9 := F_seasonSeconds_b_8.other W9 (Or.inr (slot_ne (Or.inr (hw_ hw 261 rfl)) (Or.inr (hw_ hw 253 rfl)) (by decide) (t := .int) (t' := .double) (by decide) (by decide)))
  have F_shortSeasonSeconds_b_9 := F_shortSeasonSeconds_b_8.other W9 (Or.inr (slot_ne (Or.inr (hw_ hw 263 rfl)) (Or.inr (hw_ hw 253 rfl)) (by decide) (t := .int) (t' := .double) (by decide) (by decide)))
  have F_horizonSeconds_b_9 := F_horizonSeconds_b_8.other W9 (Or.inr (slot_ne (Or.inr (hw_ hw 265 rfl)) (Or.inr (hw_ hw 253 rfl)) (by decide) (t := .int) (t' := .double) (by decide) (by decide)))
  have Zs9 : n0 ≤ h9.size := Nat.le_trans Zs8 (Keep.of_wr W9).1
  have hk9 := Nat.le_trans hk8 (Keep.of_wr W9).1
  have K9 := K8.wr W9 (Or.inl (List.mem_of_getElem? (i := 0) rfl))
  refine own_by (S' := T9.setTop (mkF m 66 #[.val (.ref b), .val (.double (FP.l2d 1)), .second, .val (.int x), .val (.double (FP.l2d 0)), .second, .val (.double (FP.l2d 1)), .second, .val (.double (FP.l2d 0)), .second, .val (.double (FP.l2d 0)), .second, .val (.double (FP.l2d 0)), .second, .val (.double (FP.l2d 0)), .second, .val (.double (FP.l2d 0)), .second, .val (.int sn), .val (.int (0 : Int32)), .val (.int hz)] [])) st9 ?_
  refine own_by (S' := T9.setTop (mkF m 67 #[.val (.ref b), .val (.double (FP.l2d 1)), .second, .val (.int x), .val (.double (FP.l2d 0)), .second, .val (.double (FP.l2d 1)), .second, .val (.double (FP.l2d 0)), .second, .val (.double (FP.l2d 0)), .second, .val (.double (FP.l2d 0)), .second, .val (.double (FP.l2d 0)), .second, .val (.double (FP.l2d 0)), .second, .val (.int sn), .val (.int (0 : Int32)), .val (.int hz)] [(.ref b)])) (fun tZ kZ => XS.aloadN X9.here hx rfl (hb hby d3_66) rfl rfl kZ) ?_
  refine own_by (S' := T9.setTop (mkF m 69 #[.val (.ref b), .val (.double (FP.l2d 1)), .second, .val (.int x), .val (.double (FP.l2d 0)), .second, .val (.double (FP.l2d 1)), .second, .val (.double (FP.l2d 0)), .second, .val (.double (FP.l2d 0)), .second, .val (.double (FP.l2d 0)), .second, .val (.double (FP.l2d 0)), .second, .val (.double (FP.l2d 0)), .second, .val (.int sn), .val (.int (0 : Int32)), .val (.int hz)] [(.double (FP.l2d 0)), (.ref b)])) (fun tZ kZ => XS.dload X9.here hx rfl (hb hby d3_67) rfl kZ) ?_
  obtain ⟨T10, h10, X10, e10, W10, st10⟩ := putF X9 hx hZ3 hown3 (host := "") (Or.inl (hw_ hw 254 rfl)) Via.refl e9 F_shortfallCost_b_9 Ex_b_9 (Or.inr ⟨(hw_ hw 255 rfl), rfl, hnm⟩) (hw_ hw 11 rfl) (ty := .double) (by decide) rfl rfl (g := (mkF m 69 #[.val (.ref b), .val (.double (FP.l2d 1)), .second, .val (.int x), .val (.double (FP.l2d 0)), .second, .val (.double (FP.l2d 1)), .second, .val (.double (FP.l2d 0)), .second, .val (.double (FP.l2d 0)), .second, .val (.double (FP.l2d 0)), .second, .val (.double (FP.l2d 0)), .second, .val (.double (FP.l2d 0)), .second, .val (.int sn), .val (.int (0 : Int32)), .val (.int hz)] [(.double (FP.l2d 0)), (.ref b)])) rfl rfl (hb hby d3_69)
  have N10 := Fr.snoc X10 N9 g_b
  have Ex_b_10 := Ex_b_9.wr W10
  have F_targetUtilization_b_10 := F_targetUtilization_b_9.other W10 (Or.inr (slot_ne (Or.inr (hw_ hw 243 rfl)) (Or.inr (hw_ hw 255 rfl)) (by decide) (t := .double) (t' := .double) (by decide) (by decide)))
  have F_intervalSeconds_b_10 := F_intervalSeconds_b_9.other W10 (Or.inr (slot_ne (Or.inr (hw_ hw 245 rfl)) (Or.inr (hw_ hw 255 rfl)) (by decide) (t := .int) (t' := .double) (by decide) (by decide)))
  have F_expectedRestartSeconds_b_10 := F_expectedRestartSeconds_b_9.other W10 (Or.inr (slot_ne (Or.inr (hw_ hw 247 rfl)) (Or.inr (hw_ hw 255 rfl)) (by decide) (t := .double) (t' := .double) (by decide) (by decide)))
  have F_targetRecoverySeconds_b_10 := F_targetRecoverySeconds_b_9.other W10 (Or.inr (slot_ne (Or.inr (hw_ hw 249 rfl)) (Or.inr (hw_ hw 255 rfl)) (by decide) (t := .double) (t' := .double) (by decide) (by decide)))
  have F_holdSeconds_b_10 := F_holdSeconds_b_9.other W10 (Or.inr (slot_ne (Or.inr (hw_ hw 251 rfl)) (Or.inr (hw_ hw 255 rfl)) (by decide) (t := .double) (t' := .double) (by decide) (by decide)))
  have F_rescaleCost_b_10 := F_rescaleCost_b_9.other W10 (Or.inr (slot_ne (Or.inr (hw_ hw 253 rfl)) (Or.inr (hw_ hw 255 rfl)) (by decide) (t := .double) (t' := .double) (by decide) (by decide)))
  have F_shortfallCost_b_10 := F_shortfallCost_b_9.same W10
  have F_underProvisionedCost_b_10 := F_underProvisionedCost_b_9.other W10 (Or.inr (slot_ne (Or.inr (hw_ hw 257 rfl)) (Or.inr (hw_ hw 255 rfl)) (by decide) (t := .double) (t' := .double) (by decide) (by decide)))
  have F_forecastMargin_b_10 := F_forecastMargin_b_9.other W10 (Or.inr (slot_ne (Or.inr (hw_ hw 259 rfl)) (Or.inr (hw_ hw 255 rfl)) (by decide) (t := .double) (t' := .double) (by decide) (by decide)))
  have F_seasonSeconds_b_10 := F_seasonSeconds_b_9.other W10 (Or.inr (slot_ne (Or.inr (hw_ hw 261 rfl)) (Or.inr (hw_ hw 255 rfl)) (by decide) (t := .int) (t' := .double) (by decide) (by decide)))
  have F_shortSeasonSeconds_b_10 := F_shortSeasonSeconds_b_9.other W10 (Or.inr (slot_ne (Or.inr (hw_ hw 263 rfl)) (Or.inr (hw_ hw 255 rfl)) (by decide) (t := .int) (t' := .double) (by decide) (by decide)))
  have F_horizonSeconds_b_10 := F_horizonSeconds_b_9.other W10 (Or.inr (slot_ne (Or.inr (hw_ hw 265 rfl)) (Or.inr (hw_ hw 255 rfl)) (by decide) (t := .int) (t' := .double) (by decide) (by decide)))
  have Zs10 : n0 ≤ h10.size := Nat.le_trans Zs9 (Keep.of_wr W10).1
  have hk10 := Nat.le_trans hk9 (Keep.of_wr W10).1
  have K10 := K9.wr W10 (Or.inl (List.mem_of_getElem? (i := 0) rfl))
  refine own_by (S' := T10.setTop (mkF m 72 #[.val (.ref b), .val (.double (FP.l2d 1)), .second, .val (.int x), .val (.double (FP.l2d 0)), .second, .val (.double (FP.l2d 1)), .second, .val (.double (FP.l2d 0)), .second, .val (.double (FP.l2d 0)), .second, .val (.double (FP.l2d 0)), .second, .val (.double (FP.l2d 0)), .second, .val (.double (FP.l2d 0)), .second, .val (.int sn), .val (.int (0 : Int32)), .val (.int hz)] [])) st10 ?_
  refine own_by (S' := T10.setTop (mkF m 73 #[.val (.ref b), .val (.double (FP.l2d 1)), .second, .val (.int x), .val (.double (FP.l2d 0)), .second, .val (.double (FP.l2d 1)), .second, .val (.double (FP.l2d 0)), .second, .val (.double (FP.l2d 0)), .second, .val (.double (FP.l2d 0)), .second, .val (.double (FP.l2d 0)), .second, .val (.double (FP.l2d 0)), .second, .val (.int sn), .val (.int (0 : Int32)), .val (.int hz)] [(.ref b)])) (fun tZ kZ => XS.aloadN X10.here hx rfl (hb hby d3_72) rfl rfl kZ) ?_
  refine own_by (S' := T10.setTop (mkF m 75 #[.val (.ref b), .val (.double (FP.l2d 1)), .second, .val (.int x), .val (.double (FP.l2d 0)), .second, .val (.double (FP.l2d 1)), .second, .val (.double (FP.l2d 0)), .second, .val (.double (FP.l2d 0)), .second, .val (.double (FP.l2d 0)), .second, .val (.double (FP.l2d 0)), .second, .val (.double (FP.l2d 0)), .second, .val (.int sn), .val (.int (0 : Int32)), .val (.int hz)] [(.double (FP.l2d 0)), (.ref b)])) (fun tZ kZ => XS.dload X10.here hx rfl (hb hby d3_73) rfl kZ) ?_
  obtain ⟨T11, h11, X11, e11, W11, st11⟩ := putF X10 hx hZ3 hown3 (host := "") (Or.inl (hw_ hw 256 rfl)) Via.refl e10 F_underProvisionedCost_b_10 Ex_b_10 (Or.inr ⟨(hw_ hw 257 rfl), rfl, hnm⟩) (hw_ hw 11 rfl) (ty := .double) (by decide) rfl rfl (g := (mkF m 75 #[.val (.ref b), .val (.double (FP.l2d 1)), .second, .val (.int x), .val (.double (FP.l2d 0)), .second, .val (.double (FP.l2d 1)), .second, .val (.double (FP.l2d 0)), .second, .val (.double (FP.l2d 0)), .second, .val (.double (FP.l2d 0)), .second, .val (.double (FP.l2d 0)), .second, .val (.double (FP.l2d 0)), .second, .val (.int sn), .val (.int (0 : Int32)), .val (.int hz)] [(.double (FP.l2d 0)), (.ref b)])) rfl rfl (hb hby d3_75)
  have N11 := Fr.snoc X11 N10 g_b
  have Ex_b_11 := Ex_b_10.wr W11
  have F_targetUtilization_b_11 := F_targetUtilization_b_10.other W11 (Or.inr (slot_ne (Or.inr (hw_ hw 243 rfl)) (Or.inr (hw_ hw 257 rfl)) (by decide) (t := .double) (t' := .double) (by decide) (by decide)))
  have F_intervalSeconds_b_11 := F_intervalSeconds_b_10.other W11 (Or.inr (slot_ne (Or.inr (hw_ hw 245 rfl)) (Or.inr (hw_ hw 257 rfl)) (by decide) (t := .int) (t' := .double) (by decide) (by decide)))
  have F_expectedRestartSeconds_b_11 := F_expectedRestartSeconds_b_10.other W11 (Or.inr (slot_ne (Or.inr (hw_ hw 247 rfl)) (Or.inr (hw_ hw 257 rfl)) (by decide) (t := .double) (t' := .double) (by decide) (by decide)))
  have F_targetRecoverySeconds_b_11 := F_targetRecoverySeconds_b_10.other W11 (Or.inr (slot_ne (Or.inr (hw_ hw 249 rfl)) (Or.inr (hw_ hw 257 rfl)) (by decide) (t := .double) (t' := .double) (by decide) (by decide)))
  have F_holdSeconds_b_11 := F_holdSeconds_b_10.other W11 (Or.inr (slot_ne (Or.inr (hw_ hw 251 rfl)) (Or.inr (hw_ hw 257 rfl)) (by decide) (t := .double) (t' := .double) (by decide) (by decide)))
  have F_rescaleCost_b_11 := F_rescaleCost_b_10.other W11 (Or.inr (slot_ne (Or.inr (hw_ hw 253 rfl)) (Or.inr (hw_ hw 257 rfl)) (by decide) (t := .double) (t' := .double) (by decide) (by decide)))
  have F_shortfallCost_b_11 := F_shortfallCost_b_10.other W11 (Or.inr (slot_ne (Or.inr (hw_ hw 255 rfl)) (Or.inr (hw_ hw 257 rfl)) (by decide) (t := .double) (t' := .double) (by decide) (by decide)))
  have F_underProvisionedCost_b_11 := F_underProvisionedCost_b_10.same W11
  have F_forecastMargin_b_11 := F_forecastMargin_b_10.other W11 (Or.inr (slot_ne (Or.inr (hw_ hw 259 rfl)) (Or.inr (hw_ hw 257 rfl)) (by decide) (t := .double) (t' := .double) (by decide) (by decide)))
  have F_seasonSeconds_b_11 := F_seasonSeconds_b_10.other W11 (Or.inr (slot_ne (Or.inr (hw_ hw 261 rfl)) (Or.inr (hw_ hw 257 rfl)) (by decide) (t := .int) (t' := .double) (by decide) (by decide)))
  have F_shortSeasonSeconds_b_11 := F_shortSeasonSeconds_b_10.other W11 (Or.inr (slot_ne (Or.inr (hw_ hw 263 rfl)) (Or.inr (hw_ hw 257 rfl)) (by decide) (t := .int) (t' := .double) (by decide) (by decide)))
  have F_horizonSeconds_b_11 := F_horizonSeconds_b_10.other W11 (Or.inr (slot_ne (Or.inr (hw_ hw 265 rfl)) (Or.inr (hw_ hw 257 rfl)) (by decide) (t := .int) (t' := .double) (by decide) (by decide)))
  have Zs11 : n0 ≤ h11.size := Nat.le_trans Zs10 (Keep.of_wr W11).1
  have hk11 := Nat.le_trans hk10 (Keep.of_wr W11).1
  have K11 := K10.wr W11 (Or.inl (List.mem_of_getElem? (i := 0) rfl))
  refine own_by (S' := T11.setTop (mkF m 78 #[.val (.ref b), .val (.double (FP.l2d 1)), .second, .val (.int x), .val (.double (FP.l2d 0)), .second, .val (.double (FP.l2d 1)), .second, .val (.double (FP.l2d 0)), .second, .val (.double (FP.l2d 0)), .second, .val (.double (FP.l2d 0)), .second, .val (.double (FP.l2d 0)), .second, .val (.double (FP.l2d 0)), .second, .val (.int sn), .val (.int (0 : Int32)), .val (.int hz)] [])) st11 ?_
  refine own_by (S' := T11.setTop (mkF m 79 #[.val (.ref b), .val (.double (FP.l2d 1)), .second, .val (.int x), .val (.double (FP.l2d 0)), .second, .val (.double (FP.l2d 1)), .second, .val (.double (FP.l2d 0)), .second, .val (.double (FP.l2d 0)), .second, .val (.double (FP.l2d 0)), .second, .val (.double (FP.l2d 0)), .second, .val (.double (FP.l2d 0)), .second, .val (.int sn), .val (.int (0 : Int32)), .val (.int hz)] [(.ref b)])) (fun tZ kZ => XS.aloadN X11.here hx rfl (hb hby d3_78) rfl rfl kZ) ?_
  refine own_by (S' := T11.setTop (mkF m 81 #[.val (.ref b), .val (.double (FP.l2d 1)), .second, .val (.int x), .val (.double (FP.l2d 0)), .second, .val (.double (FP.l2d 1)), .second, .val (.double (FP.l2d 0)), .second, .val (.double (FP.l2d 0)), .second, .val (.double (FP.l2d 0)), .second, .val (.double (FP.l2d 0)), .second, .val (.double (FP.l2d 0)), .second, .val (.int sn), .val (.int (0 : Int32)), .val (.int hz)] [(.double (FP.l2d 0)), (.ref b)])) (fun tZ kZ => XS.dload X11.here hx rfl (hb hby d3_79) rfl kZ) ?_
  obtain ⟨T12, h12, X12, e12, W12, st12⟩ := putF X11 hx hZ3 hown3 (host := "") (Or.inl (hw_ hw 258 rfl)) Via.refl e11 F_forecastMargin_b_11 Ex_b_11 (Or.inr ⟨(hw_ hw 259 rfl), rfl, hnm⟩) (hw_ hw 11 rfl) (ty := .double) (by decide) rfl rfl (g := (mkF m 81 #[.val (.ref b), .val (.double (FP.l2d 1)), .second, .val (.int x), .val (.double (FP.l2d 0)), .second, .val (.double (FP.l2d 1)), .second, .val (.double (FP.l2d 0)), .second, .val (.double (FP.l2d 0)), .second, .val (.double (FP.l2d 0)), .second, .val (.double (FP.l2d 0)), .second, .val (.double (FP.l2d 0)), .second, .val (.int sn), .val (.int (0 : Int32)), .val (.int hz)] [(.double (FP.l2d 0)), (.ref b)])) rfl rfl (hb hby d3_81)
  have N12 := Fr.snoc X12 N11 g_b
  have Ex_b_12 := Ex_b_11.wr W12
  have F_targetUtilization_b_12 := F_targetUtilization_b_11.other W12 (Or.inr (slot_ne (Or.inr (hw_ hw 243 rfl)) (Or.inr (hw_ hw 259 rfl)) (by decide) (t := .double) (t' := .double) (by decide) (by decide)))
  have F_intervalSeconds_b_12 := F_intervalSeconds_b_11.other W12 (Or.inr (slot_ne (Or.inr (hw_ hw 245 rfl)) (Or.inr (hw_ hw 259 rfl)) (by decide) (t := .int) (t' := .double) (by decide) (by decide)))
  have F_expectedRestartSeconds_b_12 := F_expectedRestartSeconds_b_11.other W12 (Or.inr (slot_ne (Or.inr (hw_ hw 247 rfl)) (Or.inr (hw_ hw 259 rfl)) (by decide) (t := .double) (t' := .double) (by decide) (by decide)))
  have F_targetRecoverySeconds_b_12 := F_targetRecoverySeconds_b_11.other W12 (Or.inr (slot_ne (Or.inr (hw_ hw 249 rfl)) (Or.inr (hw_ hw 259 rfl)) (by decide) (t := .double) (t' := .double) (by decide) (by decide)))
  have F_holdSeconds_b_12 := F_holdSeconds_b_11.other W12 (Or.inr (slot_ne (Or.inr (hw_ hw 251 rfl)) (Or.inr (hw_ hw 259 rfl)) (by decide) (t := .double) (t' := .double) (by decide) (by decide)))
  have F_rescaleCost_b_12 := F_rescaleCost_b_11.other W12 (Or.inr (slot_ne (Or.inr (hw_ hw 253 rfl)) (Or.inr (hw_ hw 259 rfl)) (by decide) (t := .double) (t' := .double) (by decide) (by decide)))
  have F_shortfallCost_b_12 := F_shortfallCost_b_11.other W12 (Or.inr (slot_ne (Or.inr (hw_ hw 255 rfl)) (Or.inr (hw_ hw 259 rfl)) (by decide) (t := .double) (t' := .double) (by decide) (by decide)))
  have F_underProvisionedCost_b_12 := F_underProvisionedCost_b_11.other W12 (Or.inr (slot_ne (Or.inr (hw_ hw 257 rfl)) (Or.inr (hw_ hw 259 rfl)) (by decide) (t := .double) (t' := .double) (by decide) (by decide)))
  have F_forecastMargin_b_12 := F_forecastMargin_b_11.same W12
  have F_seasonSeconds_b_12 := F_seasonSeconds_b_11.other W12 (Or.inr (slot_ne (Or.inr (hw_ hw 261 rfl)) (Or.inr (hw_ hw 259 rfl)) (by decide) (t := .int) (t' := .double) (by decide) (by decide)))
  have F_shortSeasonSeconds_b_12 := F_shortSeasonSeconds_b_11.other W12 (Or.inr (slot_ne (Or.inr (hw_ hw 263 rfl)) (Or.inr (hw_ hw 259 rfl)) (by decide) (t := .int) (t' := .double) (by decide) (by decide)))
  have F_horizonSeconds_b_12 := F_horizonSeconds_b_11.other W12 (Or.inr (slot_ne (Or.inr (hw_ hw 265 rfl)) (Or.inr (hw_ hw 259 rfl)) (by decide) (t := .int) (t' := .double) (by decide) (by decide)))
  have Zs12 : n0 ≤ h12.size := Nat.le_trans Zs11 (Keep.of_wr W12).1
  have hk12 := Nat.le_trans hk11 (Keep.of_wr W12).1
  have K12 := K11.wr W12 (Or.inl (List.mem_of_getElem? (i := 0) rfl))
  refine own_by (S' := T12.setTop (mkF m 84 #[.val (.ref b), .val (.double (FP.l2d 1)), .second, .val (.int x), .val (.double (FP.l2d 0)), .second, .val (.double (FP.l2d 1)), .second, .val (.double (FP.l2d 0)), .second, .val (.double (FP.l2d 0)), .second, .val (.double (FP.l2d 0)), .second, .val (.double (FP.l2d 0)), .second, .val (.double (FP.l2d 0)), .second, .val (.int sn), .val (.int (0 : Int32)), .val (.int hz)] [])) st12 ?_
  refine own_by (S' := T12.setTop (mkF m 85 #[.val (.ref b), .val (.double (FP.l2d 1)), .second, .val (.int x), .val (.double (FP.l2d 0)), .second, .val (.double (FP.l2d 1)), .second, .val (.double (FP.l2d 0)), .second, .val (.double (FP.l2d 0)), .second, .val (.double (FP.l2d 0)), .second, .val (.double (FP.l2d 0)), .second, .val (.double (FP.l2d 0)), .second, .val (.int sn), .val (.int (0 : Int32)), .val (.int hz)] [(.ref b)])) (fun tZ kZ => XS.aloadN X12.here hx rfl (hb hby d3_84) rfl rfl kZ) ?_
  refine own_by (S' := T12.setTop (mkF m 87 #[.val (.ref b), .val (.double (FP.l2d 1)), .second, .val (.int x), .val (.double (FP.l2d 0)), .second, .val (.double (FP.l2d 1)), .second, .val (.double (FP.l2d 0)), .second, .val (.double (FP.l2d 0)), .second, .val (.double (FP.l2d 0)), .second, .val (.double (FP.l2d 0)), .second, .val (.double (FP.l2d 0)), .second, .val (.int sn), .val (.int (0 : Int32)), .val (.int hz)] [(.int sn), (.ref b)])) (fun tZ kZ => XS.iload X12.here hx rfl (hb hby d3_85) rfl kZ) ?_
  obtain ⟨T13, h13, X13, e13, W13, st13⟩ := putF X12 hx hZ3 hown3 (host := "") (Or.inl (hw_ hw 260 rfl)) Via.refl e12 F_seasonSeconds_b_12 Ex_b_12 (Or.inr ⟨(hw_ hw 261 rfl), rfl, hnm⟩) (hw_ hw 11 rfl) (ty := .int) (by decide) rfl rfl (g := (mkF m 87 #[.val (.ref b), .val (.double (FP.l2d 1)), .second, .val (.int x), .val (.double (FP.l2d 0)), .second, .val (.double (FP.l2d 1)), .second, .val (.double (FP.l2d 0)), .second, .val (.double (FP.l2d 0)), .second, .val (.double (FP.l2d 0)), .second, .val (.double (FP.l2d 0)), .second, .val (.double (FP.l2d 0)), .second, .val (.int sn), .val (.int (0 : Int32)), .val (.int hz)] [(.int sn), (.ref b)])) rfl rfl (hb hby d3_87)
  have N13 := Fr.snoc X13 N12 g_b
  have Ex_b_13 := Ex_b_12.wr W13
  have F_targetUtilization_b_13 := F_targetUtilization_b_12.other W13 (Or.inr (slot_ne (Or.inr (hw_ hw 243 rfl)) (Or.inr (hw_ hw 261 rfl)) (by decide) (t := .double) (t' := .int) (by decide) (by decide)))
  have F_intervalSeconds_b_13 := F_intervalSeconds_b_12.other W13 (Or.inr (slot_ne (Or.inr (hw_ hw 245 rfl)) (Or.inr (hw_ hw 261 rfl)) (by decide) (t := .int) (t' := .int) (by decide) (by decide)))
  have F_expectedRestartSeconds_b_13 := F_expectedRestartSeconds_b_12.other W13 (Or.inr (slot_ne (Or.inr (hw_ hw 247 rfl)) (Or.inr (hw_ hw 261 rfl)) (by decide) (t := .double) (t' := .int) (by decide) (by decide)))
  have F_targetRecoverySeconds_b_13 := F_targetRecoverySeconds_b_12.other W13 (Or.inr (slot_ne (Or.inr (hw_ hw 249 rfl)) (Or.inr (hw_ hw 261 rfl)) (by decide) (t := .double) (t' := .int) (by decide) (by decide)))
  have F_holdSeconds_b_13 := F_holdSeconds_b_12.other W13 (Or.inr (slot_ne (Or.inr (hw_ hw 251 rfl)) (Or.inr (hw_ hw 261 rfl)) (by decide) (t := .double) (t' := .int) (by decide) (by decide)))
  have F_rescaleCost_b_13 := F_rescaleCost_b_12.other W13 (Or.inr (slot_ne (Or.inr (hw_ hw 253 rfl)) (Or.inr (hw_ hw 261 rfl)) (by decide) (t := .double) (t' := .int) (by decide) (by decide)))
  have F_shortfallCost_b_13 := F_shortfallCost_b_12.other W13 (Or.inr (slot_ne (Or.inr (hw_ hw 255 rfl)) (Or.inr (hw_ hw 261 rfl)) (by decide) (t := .double) (t' := .int) (by decide) (by decide)))
  have F_underProvisionedCost_b_13 := F_underProvisionedCost_b_12.other W13 (Or.inr (slot_ne (Or.inr (hw_ hw 257 rfl)) (Or.inr (hw_ hw 261 rfl)) (by decide) (t := .double) (t' := .int) (by decide) (by decide)))
  have F_forecastMargin_b_13 := F_forecastMargin_b_12.other W13 (Or.inr (slot_ne (Or.inr (hw_ hw 259 rfl)) (Or.inr (hw_ hw 261 rfl)) (by decide) (t := .double) (t' := .int) (by decide) (by decide)))
  have F_seasonSeconds_b_13 := F_seasonSeconds_b_12.same W13
  have F_shortSeasonSeconds_b_13 := F_shortSeasonSeconds_b_12.other W13 (Or.inr (slot_ne (Or.inr (hw_ hw 263 rfl)) (Or.inr (hw_ hw 261 rfl)) (by decide) (t := .int) (t' := .int) (by decide) (by decide)))
  have F_horizonSeconds_b_13 := F_horizonSeconds_b_12.other W13 (Or.inr (slot_ne (Or.inr (hw_ hw 265 rfl)) (Or.inr (hw_ hw 261 rfl)) (by decide) (t := .int) (t' := .int) (by decide) (by decide)))
  have Zs13 : n0 ≤ h13.size := Nat.le_trans Zs12 (Keep.of_wr W13).1
  have hk13 := Nat.le_trans hk12 (Keep.of_wr W13).1
  have K13 := K12.wr W13 (Or.inl (List.mem_of_getElem? (i := 0) rfl))
  refine own_by (S' := T13.setTop (mkF m 90 #[.val (.ref b), .val (.double (FP.l2d 1)), .second, .val (.int x), .val (.double (FP.l2d 0)), .second, .val (.double (FP.l2d 1)), .second, .val (.double (FP.l2d 0)), .second, .val (.double (FP.l2d 0)), .second, .val (.double (FP.l2d 0)), .second, .val (.double (FP.l2d 0)), .second, .val (.double (FP.l2d 0)), .second, .val (.int sn), .val (.int (0 : Int32)), .val (.int hz)] [])) st13 ?_
  refine own_by (S' := T13.setTop (mkF m 91 #[.val (.ref b), .val (.double (FP.l2d 1)), .second, .val (.int x), .val (.double (FP.l2d 0)), .second, .val (.double (FP.l2d 1)), .second, .val (.double (FP.l2d 0)), .second, .val (.double (FP.l2d 0)), .second, .val (.double (FP.l2d 0)), .second, .val (.double (FP.l2d 0)), .second, .val (.double (FP.l2d 0)), .second, .val (.int sn), .val (.int (0 : Int32)), .val (.int hz)] [(.ref b)])) (fun tZ kZ => XS.aloadN X13.here hx rfl (hb hby d3_90) rfl rfl kZ) ?_
  refine own_by (S' := T13.setTop (mkF m 93 #[.val (.ref b), .val (.double (FP.l2d 1)), .second, .val (.int x), .val (.double (FP.l2d 0)), .second, .val (.double (FP.l2d 1)), .second, .val (.double (FP.l2d 0)), .second, .val (.double (FP.l2d 0)), .second, .val (.double (FP.l2d 0)), .second, .val (.double (FP.l2d 0)), .second, .val (.double (FP.l2d 0)), .second, .val (.int sn), .val (.int (0 : Int32)), .val (.int hz)] [(.int (0 : Int32)), (.ref b)])) (fun tZ kZ => XS.iload X13.here hx rfl (hb hby d3_91) rfl kZ) ?_
  obtain ⟨T14, h14, X14, e14, W14, st14⟩ := putF X13 hx hZ3 hown3 (host := "") (Or.inl (hw_ hw 262 rfl)) Via.refl e13 F_shortSeasonSeconds_b_13 Ex_b_13 (Or.inr ⟨(hw_ hw 263 rfl), rfl, hnm⟩) (hw_ hw 11 rfl) (ty := .int) (by decide) rfl rfl (g := (mkF m 93 #[.val (.ref b), .val (.double (FP.l2d 1)), .second, .val (.int x), .val (.double (FP.l2d 0)), .second, .val (.double (FP.l2d 1)), .second, .val (.double (FP.l2d 0)), .second, .val (.double (FP.l2d 0)), .second, .val (.double (FP.l2d 0)), .second, .val (.double (FP.l2d 0)), .second, .val (.double (FP.l2d 0)), .second, .val (.int sn), .val (.int (0 : Int32)), .val (.int hz)] [(.int (0 : Int32)), (.ref b)])) rfl rfl (hb hby d3_93)
  have N14 := Fr.snoc X14 N13 g_b
  have Ex_b_14 := Ex_b_13.wr W14
  have F_targetUtilization_b_14 := F_targetUtilization_b_13.other W14 (Or.inr (slot_ne (Or.inr (hw_ hw 243 rfl)) (Or.inr (hw_ hw 263 rfl)) (by decide) (t := .double) (t' := .int) (by decide) (by decide)))
  have F_intervalSeconds_b_14 := F_intervalSeconds_b_13.other W14 (Or.inr (slot_ne (Or.inr (hw_ hw 245 rfl)) (Or.inr (hw_ hw 263 rfl)) (by decide) (t := .int) (t' := .int) (by decide) (by decide)))
  have F_expectedRestartSeconds_b_14 := F_expectedRestartSeconds_b_13.other W14 (Or.inr (slot_ne (Or.inr (hw_ hw 247 rfl)) (Or.inr (hw_ hw 263 rfl)) (by decide) (t := .double) (t' := .int) (by decide) (by decide)))
  have F_targetRecoverySeconds_b_14 := F_targetRecoverySeconds_b_13.other W14 (Or.inr (slot_ne (Or.inr (hw_ hw 249 rfl)) (Or.inr (hw_ hw 263 rfl)) (by decide) (t := .double) (t' := .int) (by decide) (by decide)))
  have F_holdSeconds_b_14 := F_holdSeconds_b_13.other W14 (Or.inr (slot_ne (Or.inr (hw_ hw 251 rfl)) (Or.inr (hw_ hw 263 rfl)) (by decide) (t := .double) (t' := .int) (by decide) (by decide)))
  have F_rescaleCost_b_14 := F_rescaleCost_b_13.other W14 (Or.inr (slot_ne (Or.inr (hw_ hw 253 rfl)) (Or.inr (hw_ hw 263 rfl)) (by decide) (t := .double) (t' := .int) (by decide) (by decide)))
  have F_shortfallCost_b_14 := F_shortfallCost_b_13.other W14 (Or.inr (slot_ne (Or.inr (hw_ hw 255 rfl)) (Or.inr (hw_ hw 263 rfl)) (by decide) (t := .double) (t' := .int) (by decide) (by decide)))
  have F_underProvisionedCost_b_14 := F_underProvisionedCost_b_13.other W14 (Or.inr (slot_ne (Or.inr (hw_ hw 257 rfl)) (Or.inr (hw_ hw 263 rfl)) (by decide) (t := .double) (t' := .int) (by decide) (by decide)))
  have F_forecastMargin_b_14 := F_forecastMargin_b_13.other W14 (Or.inr (slot_ne (Or.inr (hw_ hw 259 rfl)) (Or.inr (hw_ hw 263 rfl)) (by decide) (t := .double) (t' := .int) (by decide) (by decide)))
  have F_seasonSeconds_b_14 := F_seasonSeconds_b_13.other W14 (Or.inr (slot_ne (Or.inr (hw_ hw 261 rfl)) (Or.inr (hw_ hw 263 rfl)) (by decide) (t := .int) (t' := .int) (by decide) (by decide)))
  have F_shortSeasonSeconds_b_14 := F_shortSeasonSeconds_b_13.same W14
  have F_horizonSeconds_b_14 := F_horizonSeconds_b_13.other W14 (Or.inr (slot_ne (Or.inr (hw_ hw 265 rfl)) (Or.inr (hw_ hw 263 rfl)) (by decide) (t := .int) (t' := .int) (by decide) (by decide)))
  have Zs14 : n0 ≤ h14.size := Nat.le_trans Zs13 (Keep.of_wr W14).1
  have hk14 := Nat.le_trans hk13 (Keep.of_wr W14).1
  have K14 := K13.wr W14 (Or.inl (List.mem_of_getElem? (i := 0) rfl))
  refine own_by (S' := T14.setTop (mkF m 96 #[.val (.ref b), .val (.double (FP.l2d 1)), .second, .val (.int x), .val (.double (FP.l2d 0)), .second, .val (.double (FP.l2d 1)), .second, .val (.double (FP.l2d 0)), .second, .val (.double (FP.l2d 0)), .second, .val (.double (FP.l2d 0)), .second, .val (.double (FP.l2d 0)), .second, .val (.double (FP.l2d 0)), .second, .val (.int sn), .val (.int (0 : Int32)), .val (.int hz)] [])) st14 ?_
  refine own_by (S' := T14.setTop (mkF m 97 #[.val (.ref b), .val (.double (FP.l2d 1)), .second, .val (.int x), .val (.double (FP.l2d 0)), .second, .val (.double (FP.l2d 1)), .second, .val (.double (FP.l2d 0)), .second, .val (.double (FP.l2d 0)), .second, .val (.double (FP.l2d 0)), .second, .val (.double (FP.l2d 0)), .second, .val (.double (FP.l2d 0)), .second, .val (.int sn), .val (.int (0 : Int32)), .val (.int hz)] [(.ref b)])) (fun tZ kZ => XS.aloadN X14.here hx rfl (hb hby d3_96) rfl rfl kZ) ?_
  refine own_by (S' := T14.setTop (mkF m 99 #[.val (.ref b), .val (.double (FP.l2d 1)), .second, .val (.int x), .val (.double (FP.l2d 0)), .second, .val (.double (FP.l2d 1)), .second, .val (.double (FP.l2d 0)), .second, .val (.double (FP.l2d 0)), .second, .val (.double (FP.l2d 0)), .second, .val (.double (FP.l2d 0)), .second, .val (.double (FP.l2d 0)), .second, .val (.int sn), .val (.int (0 : Int32)), .val (.int hz)] [(.int hz), (.ref b)])) (fun tZ kZ => XS.iload X14.here hx rfl (hb hby d3_97) rfl kZ) ?_
  obtain ⟨T15, h15, X15, e15, W15, st15⟩ := putF X14 hx hZ3 hown3 (host := "") (Or.inl (hw_ hw 264 rfl)) Via.refl e14 F_horizonSeconds_b_14 Ex_b_14 (Or.inr ⟨(hw_ hw 265 rfl), rfl, hnm⟩) (hw_ hw 11 rfl) (ty := .int) (by decide) rfl rfl (g := (mkF m 99 #[.val (.ref b), .val (.double (FP.l2d 1)), .second, .val (.int x), .val (.double (FP.l2d 0)), .second, .val (.double (FP.l2d 1)), .second, .val (.double (FP.l2d 0)), .second, .val (.double (FP.l2d 0)), .second, .val (.double (FP.l2d 0)), .second, .val (.double (FP.l2d 0)), .second, .val (.double (FP.l2d 0)), .second, .val (.int sn), .val (.int (0 : Int32)), .val (.int hz)] [(.int hz), (.ref b)])) rfl rfl (hb hby d3_99)
  have N15 := Fr.snoc X15 N14 g_b
  have Ex_b_15 := Ex_b_14.wr W15
  have F_targetUtilization_b_15 := F_targetUtilization_b_14.other W15 (Or.inr (slot_ne (Or.inr (hw_ hw 243 rfl)) (Or.inr (hw_ hw 265 rfl)) (by decide) (t := .double) (t' := .int) (by decide) (by decide)))
  have F_intervalSeconds_b_15 := F_intervalSeconds_b_14.other W15 (Or.inr (slot_ne (Or.inr (hw_ hw 245 rfl)) (Or.inr (hw_ hw 265 rfl)) (by decide) (t := .int) (t' := .int) (by decide) (by decide)))
  have F_expectedRestartSeconds_b_15 := F_expectedRestartSeconds_b_14.other W15 (Or.inr (slot_ne (Or.inr (hw_ hw 247 rfl)) (Or.inr (hw_ hw 265 rfl)) (by decide) (t := .double) (t' := .int) (by decide) (by decide)))
  have F_targetRecoverySeconds_b_15 := F_targetRecoverySeconds_b_14.other W15 (Or.inr (slot_ne (Or.inr (hw_ hw 249 rfl)) (Or.inr (hw_ hw 265 rfl)) (by decide) (t := .double) (t' := .int) (by decide) (by decide)))
  have F_holdSeconds_b_15 := F_holdSeconds_b_14.other W15 (Or.inr (slot_ne (Or.inr (hw_ hw 251 rfl)) (Or.inr (hw_ hw 265 rfl)) (by decide) (t := .double) (t' := .int) (by decide) (by decide)))
  have F_rescaleCost_b_15 := F_rescaleCost_b_14.other W15 (Or.inr (slot_ne (Or.inr (hw_ hw 253 rfl)) (Or.inr (hw_ hw 265 rfl)) (by decide) (t := .double) (t' := .int) (by decide) (by decide)))
  have F_shortfallCost_b_15 := F_shortfallCost_b_14.other W15 (Or.inr (slot_ne (Or.inr (hw_ hw 255 rfl)) (Or.inr (hw_ hw 265 rfl)) (by decide) (t := .double) (t' := .int) (by decide) (by decide)))
  have F_underProvisionedCost_b_15 := F_underProvisionedCost_b_14.other W15 (Or.inr (slot_ne (Or.inr (hw_ hw 257 rfl)) (Or.inr (hw_ hw 265 rfl)) (by decide) (t := .double) (t' := .int) (by decide) (by decide)))
  have F_forecastMargin_b_15 := F_forecastMargin_b_14.other W15 (Or.inr (slot_ne (Or.inr (hw_ hw 259 rfl)) (Or.inr (hw_ hw 265 rfl)) (by decide) (t := .double) (t' := .int) (by decide) (by decide)))
  have F_seasonSeconds_b_15 := F_seasonSeconds_b_14.other W15 (Or.inr (slot_ne (Or.inr (hw_ hw 261 rfl)) (Or.inr (hw_ hw 265 rfl)) (by decide) (t := .int) (t' := .int) (by decide) (by decide)))
  have F_shortSeasonSeconds_b_15 := F_shortSeasonSeconds_b_14.other W15 (Or.inr (slot_ne (Or.inr (hw_ hw 263 rfl)) (Or.inr (hw_ hw 265 rfl)) (by decide) (t := .int) (t' := .int) (by decide) (by decide)))
  have F_horizonSeconds_b_15 := F_horizonSeconds_b_14.same W15
  have Zs15 : n0 ≤ h15.size := Nat.le_trans Zs14 (Keep.of_wr W15).1
  have hk15 := Nat.le_trans hk14 (Keep.of_wr W15).1
  have K15 := K14.wr W15 (Or.inl (List.mem_of_getElem? (i := 0) rfl))
  refine own_by (S' := T15.setTop (mkF m 102 #[.val (.ref b), .val (.double (FP.l2d 1)), .second, .val (.int x), .val (.double (FP.l2d 0)), .second, .val (.double (FP.l2d 1)), .second, .val (.double (FP.l2d 0)), .second, .val (.double (FP.l2d 0)), .second, .val (.double (FP.l2d 0)), .second, .val (.double (FP.l2d 0)), .second, .val (.double (FP.l2d 0)), .second, .val (.int sn), .val (.int (0 : Int32)), .val (.int hz)] [])) st15 ?_
  exact own_ret0V X15 hS3 (by rw [e15]; exact hk15) hx Bd.returns (hb hby d3_102) Bd.notSynchronized (by decide) (by decide) (show QSet Z b x hz h0 n0 none T15.heap _ from by rw [e15]; exact ⟨rfl, N15, K15, Ex_b_15, F_intervalSeconds_b_15, F_horizonSeconds_b_15⟩) (own_ib hI3 X15.warmed)
theorem own_cl {H X : Int} (h : 1 ≤ H) (hx : 1 ≤ X) : (H + X - 1) / X = if H % X = 0 then H / X else H / X + 1 := by
  have e := Int.mul_ediv_add_emod H X
  have r1 := Int.emod_nonneg H (by omega : X ≠ 0)
  have r2 := Int.emod_lt_of_pos H (by omega : 0 < X)
  generalize hq : H / X = q at e ⊢
  generalize hr : H % X = r at e r1 r2 ⊢
  split
  · rename_i h0
    have a : H + X - 1 = (X - 1) + X * q := by omega
    rw [a, Int.add_mul_ediv_left _ _ (by omega : X ≠ 0), Int.ediv_eq_zero_of_lt (by omega) (by omega)]
    omega
  · rename_i h0
    have a : H + X - 1 = (r - 1) + X * (q + 1) := by
      rw [Int.mul_add, Int.mul_one]
      omega
    rw [a, Int.add_mul_ediv_left _ _ (by omega : X ≠ 0), Int.ediv_eq_zero_of_lt (by omega) (by omega)]
    omega
theorem own_hz {hz x : Int32} (h : 1 ≤ hz.toInt) (hx : 1 ≤ x.toInt) : (((hz.toInt64 + x.toInt64) - (1 : Int64)) / x.toInt64).toInt32.toInt = if hz.toInt % x.toInt = 0 then hz.toInt / x.toInt else hz.toInt / x.toInt + 1 := by
  have a1 := c_i2l hz
  have a2 := c_i2l x
  have a3 := c_ladd hz.toInt64 x.toInt64
  have a4 := rng64 (hz.toInt64 + x.toInt64)
  have a5 := c_lsub (hz.toInt64 + x.toInt64) 1
  have a6 := rng64 ((hz.toInt64 + x.toInt64) - 1)
  have a7 := rng32 hz
  have a8 := rng32 x
  have e1 : (1 : Int64).toInt = 1 := rfl
  have b1 : ((hz.toInt64 + x.toInt64) - 1).toInt = hz.toInt + x.toInt - 1 := by omega
  have hne : x.toInt64 ≠ -1 := fun q => by rw [q] at a2; have e2 : (-1 : Int64).toInt = -1 := rfl; omega
  have b2 := (c_ldiv ((hz.toInt64 + x.toInt64) - 1) x.toInt64 x.toInt a2 hne).1 (by omega)
  rw [b1, own_cl h hx] at b2
  have b3 := c_l2i (((hz.toInt64 + x.toInt64) - 1) / x.toInt64)
  have b4 := rng32 (((hz.toInt64 + x.toInt64) - 1) / x.toInt64).toInt32
  have d1 := Int.ediv_nonneg (by omega : 0 ≤ hz.toInt) (by omega : 0 ≤ x.toInt)
  have d2 : hz.toInt / x.toInt ≤ hz.toInt := Int.ediv_le_self _ (by omega)
  have d3 : hz.toInt % x.toInt = 0 ∨ hz.toInt / x.toInt + 1 ≤ hz.toInt ∨ hz.toInt < x.toInt := by
    rcases Int.lt_or_le hz.toInt x.toInt with q | q
    · exact Or.inr (Or.inr q)
    · rcases (by omega : x.toInt = 1 ∨ 2 ≤ x.toInt) with q1 | q1
      · left; rw [q1]; omega
      · right; left
        have g := Int.mul_ediv_add_emod hz.toInt x.toInt
        have g1 := Int.emod_nonneg hz.toInt (by omega : x.toInt ≠ 0)
        have g2 : 2 * (hz.toInt / x.toInt) ≤ x.toInt * (hz.toInt / x.toInt) := Int.mul_le_mul_of_nonneg_right q1 d1
        omega
  have d4 : hz.toInt < x.toInt → hz.toInt / x.toInt = 0 := fun q => Int.ediv_eq_zero_of_lt (by omega) q
  split at b2 <;> rename_i h0
  · rw [if_pos h0]; omega
  · rw [if_neg h0]; omega
theorem own_qr {hz x : Int32} (h : 1 ≤ hz.toInt) (hx : 1 ≤ x.toInt) : (hz / x).toInt = hz.toInt / x.toInt ∧ (hz % x).toInt = hz.toInt % x.toInt := by
  have hne : x ≠ -1 := fun q => by rw [q] at hx; exact absurd hx (by decide)
  exact ⟨(c_idiv hz x x.toInt rfl hne).1 (by omega), (c_irem hz x x.toInt rfl).1 (by omega)⟩
theorem own_q1 {hz x : Int32} (h : 1 ≤ hz.toInt) (hx : 1 ≤ x.toInt) (h0 : ¬ hz % x = 0) : (hz / x + 1).toInt = hz.toInt / x.toInt + 1 := by
  obtain ⟨a, b⟩ := own_qr h hx
  have c1 := c_iadd (hz / x) 1
  have c2 := rng32 (hz / x + 1)
  have c3 := rng32 hz
  have e : (1 : Int32).toInt = 1 := rfl
  have d2 : hz.toInt / x.toInt ≤ hz.toInt := Int.ediv_le_self _ (by omega)
  have d1 := Int.ediv_nonneg (by omega : 0 ≤ hz.toInt) (by omega : 0 ≤ x.toInt)
  have hr : ¬ hz.toInt % x.toInt = 0 := fun q => h0 (Int32.toInt_inj.mp (by rw [b, q]; rfl))
  have hlt : hz.toInt / x.toInt < 2147483647 := by
    rcases Int.lt_or_le (hz.toInt / x.toInt) 2147483647 with q | q
    · exact q
    · exfalso
      have g := Int.mul_ediv_add_emod hz.toInt x.toInt
      have g1 := Int.emod_nonneg hz.toInt (by omega : x.toInt ≠ 0)
      have g2 : 1 * (hz.toInt / x.toInt) ≤ x.toInt * (hz.toInt / x.toInt) := Int.mul_le_mul_of_nonneg_right hx d1
      omega
  omega
theorem own_n0 {x : Int32} (h : 1 ≤ x.toInt) : x ≠ 0 := fun q => by rw [q] at h; exact absurd h (by decide)
theorem own_n0L {x : Int32} (h : 1 ≤ x.toInt) : x.toInt64 ≠ 0 := fun q => by
  have a := c_i2l x
  rw [q] at a
  have e : (0 : Int64).toInt = 0 := rfl
  omega
theorem own_x1 (a : Int32) : 1 ≤ ((1 : Int32) + (a &&& (15 : Int32))).toInt := by
  have h1 := c_and a 15 (by decide)
  have h2 := c_iadd 1 (a &&& 15)
  have h3 := rng32 (1 + (a &&& 15))
  have e : (1 : Int32).toInt = 1 := rfl
  have e2 : (15 : Int32).toInt = 15 := rfl
  omega
theorem own_x2 (a : Int32) : 1 ≤ ((1 : Int32) + ((a &&& (2147483647 : Int32)) % (2147483647 : Int32))).toInt := by
  have h1 := c_and a 2147483647 (by decide)
  have h0 := (c_irem (a &&& 2147483647) 2147483647 2147483647 rfl).1 h1.1
  have h2 := c_iadd 1 ((a &&& 2147483647) % 2147483647)
  have h3 := rng32 (1 + ((a &&& 2147483647) % 2147483647))
  have e : (1 : Int32).toInt = 1 := rfl
  omega
theorem own_cp {x : Int32} {cp : Int64} (hx : 1 ≤ x.toInt) (h : cp = if 0 < lcmpW (2147483647 : Int64) ((1000000 : Int64) * x.toInt64) then (1000000 : Int64) * x.toInt64 else 2147483647) : 1 ≤ cp.toInt ∧ cp.toInt ≤ 2147483647 ∧ cp.toInt ≤ 1000000 * x.toInt ∧ ((1000000 : Int64) * x.toInt64).toInt = 1000000 * x.toInt := by
  have a := c_i2l x
  have b := c_lmul 1000000 x.toInt64
  have b2 := rng64 (1000000 * x.toInt64)
  have c := rng32 x
  have e : (1000000 : Int64).toInt = 1000000 := rfl
  have e2 : (2147483647 : Int64).toInt = 2147483647 := rfl
  rw [e, a] at b
  have m : ((1000000 : Int64) * x.toInt64).toInt = 1000000 * x.toInt := by omega
  rw [h]
  split <;> rename_i q
  · rw [lw_gt, own_ltL] at q; omega
  · rw [lw_gt, own_ltL] at q; omega
theorem own_rw1 (a : Int32) : 0 ≤ ((a &&& (63 : Int32)).toInt64).toInt ∧ ((a &&& (63 : Int32)).toInt64).toInt ≤ 2147483647 := by
  have h1 := c_and a 63 (by decide)
  have h2 := c_i2l (a &&& 63)
  have e2 : (63 : Int32).toInt = 63 := rfl
  omega
theorem own_rw2 (a : Int32) : 0 ≤ ((a &&& (2147483647 : Int32)).toInt64).toInt ∧ ((a &&& (2147483647 : Int32)).toInt64).toInt ≤ 2147483647 := by
  have h1 := c_and a 2147483647 (by decide)
  have h2 := c_i2l (a &&& 2147483647)
  have e2 : (2147483647 : Int32).toInt = 2147483647 := rfl
  omega
theorem own_hz1 {rw cp : Int64} {hz : Int32} (h : 0 ≤ rw.toInt) (hc : 1 ≤ cp.toInt) (hc2 : cp.toInt ≤ 2147483647) (e : hz = (1 : Int32) + (rw - rw / cp * cp).toInt32) : 1 ≤ hz.toInt ∧ hz.toInt ≤ cp.toInt := by
  have a := (c_lrem rw cp cp.toInt rfl).1 h
  have b1 := Int.emod_nonneg rw.toInt (by omega : cp.toInt ≠ 0)
  have b2 := Int.emod_lt_of_pos rw.toInt (by omega : 0 < cp.toInt)
  have c1 := c_l2i (rw - rw / cp * cp)
  have c2 := rng32 (rw - rw / cp * cp).toInt32
  have d1 := c_iadd 1 (rw - rw / cp * cp).toInt32
  have d2 := rng32 (1 + (rw - rw / cp * cp).toInt32)
  have e1 : (1 : Int32).toInt = 1 := rfl
  rw [e]
  omega
theorem own_nzL {cp : Int64} (h : 1 ≤ cp.toInt) : cp ≠ 0 := fun q => by rw [q] at h; exact absurd h (by decide)
theorem own_sn {x hz sn : Int32} {cp : Int64} (e : sn = if hz < x then x else hz) (hx : 1 ≤ x.toInt) (hh : 1 ≤ hz.toInt ∧ hz.toInt ≤ cp.toInt) (hc : cp.toInt ≤ 1000000 * x.toInt) (hm : ((1000000 : Int64) * x.toInt64).toInt = 1000000 * x.toInt) : (¬ sn < x) ∧ (¬ 0 < lcmpW sn.toInt64 ((1000000 : Int64) * x.toInt64)) ∧ ¬ sn < hz := by
  rw [lw_gt, own_ltL, own_ltI, own_ltI, hm, c_i2l, e]
  split <;> rename_i q <;> rw [own_ltI] at q <;> refine ⟨?_, ?_, ?_⟩ <;> omega
theorem d45_0 : decode prog_74_method_6_code 0 = .ok (.aload_n 0, 1) := by decide +kernel
theorem d45_1 : decode prog_74_method_6_code 1 = .ok (.getfield 56, 3) := by decide +kernel
theorem d45_4 : decode prog_74_method_6_code 4 = .ok (.i2l, 1) := by decide +kernel
theorem d45_5 : decode prog_74_method_6_code 5 = .ok (.aload_n 0, 1) := by decide +kernel
theorem d45_6 : decode prog_74_method_6_code 6 = .ok (.getfield 25, 3) := by decide +kernel
theorem d45_9 : decode prog_74_method_6_code 9 = .ok (.i2l, 1) := by decide +kernel
theorem d45_10 : decode prog_74_method_6_code 10 = .ok (.ladd, 1) := by decide +kernel
theorem d45_11 : decode prog_74_method_6_code 11 = .ok (.lconst 1, 1) := by decide +kernel
theorem d45_12 : decode prog_74_method_6_code 12 = .ok (.lsub, 1) := by decide +kernel
theorem d45_13 : decode prog_74_method_6_code 13 = .ok (.aload_n 0, 1) := by decide +kernel
theorem d45_14 : decode prog_74_method_6_code 14 = .ok (.getfield 25, 3) := by decide +kernel
theorem d45_17 : decode prog_74_method_6_code 17 = .ok (.i2l, 1) := by decide +kernel
theorem d45_18 : decode prog_74_method_6_code 18 = .ok (.ldiv, 1) := by decide +kernel
theorem d45_19 : decode prog_74_method_6_code 19 = .ok (.l2i, 1) := by decide +kernel
theorem d45_20 : decode prog_74_method_6_code 20 = .ok (.ireturn, 1) := by decide +kernel
theorem ef_rmHz (m : MethodId) (b : Addr) : entryFrame m #[(.ref b)] 1 = mkF m 0 #[.val (.ref b)] [] := by first | (simp [entryFrame, mkF, argsToLocals, Value.category, maxLocals]; done) | rfl
set_option maxRecDepth 65536 in
set_option maxHeartbeats 40000000 in
theorem rmHz (l : Launch) (Z : State) (a0 : Array Value) (hw : ∀ d ∈ tables_1, d.before a0 Z = true) (ws : List Jvm.Cond) (b : Addr) (x hz : Int32) (h0 : Heap) (n0 : Nat) (Z0 : n0 ≤ h0.size) (hx1 : 1 ≤ x.toInt) (Fi : Fld Z h0 b "com/example/tidewatch/tidewatch/core/TidewatchPolicy$Settings" "intervalSeconds" "I" (.int x)) (Fh : Fld Z h0 b "com/example/tidewatch/tidewatch/core/TidewatchPolicy$Settings" "horizonSeconds" "I" (.int hz)) :
    MetFree l (⟨"com/example/tidewatch/tidewatch/core/TidewatchPolicy$Settings", "horizonIntervals", "()I"⟩ : MethodName) (head1 (Jvm.Cond.code (⟨"com/example/tidewatch/tidewatch/core/TidewatchPolicy$Settings", "horizonIntervals", "()I"⟩ : MethodName) prog_74_method_6_code (1 : Nat) (Option.some Jvm.ClassFile.FieldType.int) :: ws) ({ frames := 0, cells := 0, slots := 0, locals := 0 } : Room)) (fun aZ UZ => aZ = #[(.ref b)] ∧ Z.Warmed39 UZ.vm ∧ UZ.heap = h0) (fun _ _ _ _ _ => True) (fun _ UZ oZ VZ => ∃ vZ LZ, oZ = .returned vZ ∧ (QSame (some (.int ((((hz.toInt64 + x.toInt64) - (1 : Int64)) / x.toInt64).toInt32))) h0 n0) vZ VZ.heap LZ ∧ FrameEnd UZ oZ VZ LZ ({ frames := 0, cells := 0, slots := 0, locals := 0 } : Room).cells ({ frames := 0, cells := 0, slots := 0, locals := 0 } : Room).slots) := by
  refine MetFree.of_bodySF (plainFor_of_name pn_11) hisR ?_
  intro p e s m args below meth c s₁ Bd hml0 hP hK
  obtain ⟨rfl, hZ, hh⟩ := hP
  have hx := Bd.exec
  have hby := Bd.bytes
  have hml : c.maxLocals = 1 := hml0
  have hown : s.vm.findClass "com/example/tidewatch/tidewatch/core/TidewatchPolicy$Settings" = some m.cls := findClass_of_methodNamed Bd.named
  have hnm := (name_of_methodNamed Bd.named Bd.method).1
  have X0 : Stand p l e ({ frames := 0, cells := 0, slots := 0, locals := 0 } : Room) s m #[(.ref b)] below meth c s₁ [] 0 0 := Stand.of_body Bd
  have e0 : s₁.heap = h0 := by rw [← hh, Bd.state]; rfl
  have N0 := Fr.nil n0
  show OwnG p e below (OwnE s (QSame (some (.int ((((hz.toInt64 + x.toInt64) - (1 : Int64)) / x.toInt64).toInt32))) h0 n0) ({ frames := 0, cells := 0, slots := 0, locals := 0 } : Room).cells ({ frames := 0, cells := 0, slots := 0, locals := 0 } : Room).slots) _
  refine own_by (S' := s₁.setTop (mkF m 0 #[.val (.ref b)] [])) (fun tZ kZ => castTop (ef_rmHz m b) kZ) ?_
  refine own_by (S' := s₁.setTop (mkF m 1 #[.val (.ref b)] [(.ref b)])) (fun tZ kZ => XS.aloadN X0.here hx rfl (hb hby d45_0) rfl rfl kZ) ?_
  obtain ⟨T1, X1, e1, st1⟩ := getF X0 hx hZ hown (host := "") (Or.inl (hw_ hw 264 rfl)) Via.refl e0 Fh (g := (mkF m 1 #[.val (.ref b)] [(.ref b)])) rfl rfl (hb hby d45_1)
  refine own_by (S' := T1.setTop (mkF m 4 #[.val (.ref b)] [(.int hz)])) st1 ?_
  refine own_by (S' := T1.setTop (mkF m 5 #[.val (.ref b)] [(.long (hz.toInt64))])) (fun tZ kZ => XS.i2l X1.here hx rfl (hb hby d45_4) rfl kZ) ?_
  refine own_by (S' := T1.setTop (mkF m 6 #[.val (.ref b)] [(.ref b), (.long (hz.toInt64))])) (fun tZ kZ => XS.aloadN X1.here hx rfl (hb hby d45_5) rfl rfl kZ) ?_
  obtain ⟨T2, X2, e2, st2⟩ := getF X1 hx hZ hown (host := "") (Or.inl (hw_ hw 244 rfl)) Via.refl e1 Fi (g := (mkF m 6 #[.val (.ref b)] [(.ref b), (.long (hz.toInt64))])) rfl rfl (hb hby d45_6)
  refine own_by (S' := T2.setTop (mkF m 9 #[.val (.ref b)] [(.int x), (.long (hz.toInt64))])) st2 ?_
  refine own_by (S' := T2.setTop (mkF m 10 #[.val (.ref b)] [(.long (x.toInt64)), (.long (hz.toInt64))])) (fun tZ kZ => XS.i2l X2.here hx rfl (hb hby d45_9) rfl kZ) ?_
  refine own_by (S' := T2.setTop (mkF m 11 #[.val (.ref b)] [(.long ((hz.toInt64) + (x.toInt64)))])) (fun tZ kZ => XS.ladd X2.here hx rfl (hb hby d45_10) rfl kZ) ?_
  refine own_by (S' := T2.setTop (mkF m 12 #[.val (.ref b)] [(.long (1 : Int64)), (.long ((hz.toInt64) + (x.toInt64)))])) (fun tZ kZ => XS.lconst X2.here hx rfl (hb hby d45_11) kZ) ?_
  refine own_by (S' := T2.setTop (mkF m 13 #[.val (.ref b)] [(.long (((hz.toInt64) + (x.toInt64)) - (1 : Int64)))])) (fun tZ kZ => XS.lsub X2.here hx rfl (hb hby d45_12) rfl kZ) ?_
  refine own_by (S' := T2.setTop (mkF m 14 #[.val (.ref b)] [(.ref b), (.long (((hz.toInt64) + (x.toInt64)) - (1 : Int64)))])) (fun tZ kZ => XS.aloadN X2.here hx rfl (hb hby d45_13) rfl rfl kZ) ?_
  obtain ⟨T3, X3, e3, st3⟩ := getF X2 hx hZ hown (host := "") (Or.inl (hw_ hw 244 rfl)) Via.refl e2 Fi (g := (mkF m 14 #[.val (.ref b)] [(.ref b), (.long (((hz.toInt64) + (x.toInt64)) - (1 : Int64)))])) rfl rfl (hb hby d45_14)
  refine own_by (S' := T3.setTop (mkF m 17 #[.val (.ref b)] [(.int x), (.long (((hz.toInt64) + (x.toInt64)) - (1 : Int64)))])) st3 ?_
  refine own_by (S' := T3.setTop (mkF m 18 #[.val (.ref b)] [(.long (x.toInt64)), (.long (((hz.toInt64) + (x.toInt64)) - (1 : Int64)))])) (fun tZ kZ => XS.i2l X3.here hx rfl (hb hby d45_17) rfl kZ) ?_
  refine own_by (S' := T3.setTop (mkF m 19 #[.val (.ref b)] [(.long ((((hz.toInt64) + (x.toInt64)) - (1 : Int64)) / (x.toInt64)))])) (fun tZ kZ => XS.ldiv X3.here hx rfl (hb hby d45_18) rfl (own_n0L hx1) kZ) ?_
  refine own_by (S' := T3.setTop (mkF m 20 #[.val (.ref b)] [(.int (((((hz.toInt64) + (x.toInt64)) - (1 : Int64)) / (x.toInt64)).toInt32))])) (fun tZ kZ => XS.l2i X3.here hx rfl (hb hby d45_19) rfl kZ) ?_
  exact own_retI X3 hx (t := .int) Bd.returns (by simp) rfl (hb hby d45_20) Bd.notSynchronized (by decide) (by decide) ⟨rfl, N0, e3⟩
def Q0 (h0 : Heap) (n0 : Nat) (v : Option Value) (h : Heap) (L : List Loc) : Prop := v = some (.int 1) ∧ Fr n0 L
theorem pn_12 : plainName "com/example/tidewatch/tidewatch/core/SettingsHorizonIntervalsPinLaw" = true := by first | (simp [plainName, overriddenIn]; done) | decide +kernel
theorem ef_rm0 (m : MethodId) (p1 : Int32) (p2 : Int32) (p3 : Int32) : entryFrame m #[(.int p1), (.int p2), (.int p3)] maxLocals = mkF m 0 #[.val (.int p1), .val (.int p2), .val (.int p3), .unset, .unset, .unset, .unset, .unset, .unset, .unset, .unset, .unset, .unset, .unset] [] := by first | (simp [entryFrame, mkF, argsToLocals, Value.category, maxLocals]; done) | rfl
set_option maxRecDepth 65536 in
set_option maxHeartbeats 40000000 in
theorem rm0 (l : Launch) (Z : State) (a0 : Array Value) (hw : ∀ d ∈ tables_1, d.before a0 Z = true) (ws : List Jvm.Cond) (p1 p2 p3 cz : Int32) (do_ dt : Addr) (co ct : Cell) (h0 : Heap) (n0 : Nat) (Z0 : n0 ≤ h0.size) (EZ : Ext Z.heap h0) (HC : ∀ q ∈ consts_1, Jvm.Lit.constHeld Z q.1 q.2) (hcw : Jvm.Lit.compactW.before a0 Z = true) (Sc : Sta Z h0 "java/lang/String" "COMPACT_STRINGS" "Z" (.int cz)) (hcz : ¬ cz = 0) (S_o : Sta Z h0 "java/lang/Integer" "DigitOnes" "[B" (.ref do_)) (A_o : Arr Z h0 do_ co .byte) (z_o : co.slots.size = 100) (e_o : ∀ k : Nat, k < 100 → ∃ z : Int32, co.slots[k]? = some (.int z)) (S_t : Sta Z h0 "java/lang/Integer" "DigitTens" "[B" (.ref dt)) (A_t : Arr Z h0 dt ct .byte) (z_t : ct.slots.size = 100) (e_t : ∀ k : Nat, k < 100 → ∃ z : Int32, ct.slots[k]? = some (.int z)) (gz0 : Z.heap.size ≤ n0) :
    MetFree l x (head1 (Jvm.Cond.code x code maxLocals ret :: ws) room_1) (fun aZ UZ => aZ = #[(.int p1), (.int p2), (.int p3)] ∧ UZ = Z ∧ UZ.heap = h0) (fun _ _ _ _ _ => True) (fun _ UZ oZ VZ => ∃ vZ LZ, oZ = .returned vZ ∧ (Q0  h0 n0) vZ VZ.heap LZ ∧ ReturnedEndW UZ oZ VZ LZ room_1.cells room_1.slots) := by
  refine MetFree.of_bodySF (plainFor_of_name pn_12) hisR ?_
  intro p e s m args below meth c s₁ Bd hml0 hP hK
  obtain ⟨rfl, hU, hh⟩ := hP
  have hZ : Z.Warmed39 s.vm := by rw [hU]; exact State.Warmed39.refl Z
  have hx := Bd.exec
  have hby := Bd.bytes
  have hml : c.maxLocals = 14 := hml0
  have hown : s.vm.findClass "com/example/tidewatch/tidewatch/core/SettingsHorizonIntervalsPinLaw" = some m.cls := findClass_of_methodNamed Bd.named
  have hnm := (name_of_methodNamed Bd.named Bd.method).1
  have X0 : Stand p l e room_1 (s.setVm s.vm) m #[(.int p1), (.int p2), (.int p3)] below meth c s₁ [] 0 0 := Stand.of_body Bd
  have e0 : s₁.heap = h0 := by rw [← hh, Bd.state]; rfl
  have N0 := Fr.nil n0
  show OwnG p e below (OwnEW s (Q0  h0 n0) room_1.cells room_1.slots) _
  refine own_by (S' := s₁.setTop (mkF m 0 #[.val (.int p1), .val (.int p2), .val (.int p3), .unset, .unset, .unset, .unset, .unset, .unset, .unset, .unset, .unset, .unset, .unset] [])) (fun tZ kZ => castTop (ef_rm0 m p1 p2 p3) kZ) ?_
  have hS0 : s.Since s.vm 0 := State.WarmedH.since (State.WarmedH.refl s) 0
  have hk0 : 0 ≤ h0.size := Nat.zero_le _
  have hZ0 : Z.Warmed39 (s.setVm s.vm).vm := hZ
  have hown0 : (s.setVm s.vm).vm.findClass "com/example/tidewatch/tidewatch/core/SettingsHorizonIntervalsPinLaw" = some m.cls := hown
  have hZH0 : Z.WarmedH (s.setVm s.vm).vm := by
    show Z.WarmedH s.vm
    rw [hU]; exact State.WarmedH.refl Z
  refine own_by (S' := s₁.setTop (mkF m 1 #[.val (.int p1), .val (.int p2), .val (.int p3), .unset, .unset, .unset, .unset, .unset, .unset, .unset, .unset, .unset, .unset, .unset] [(.int p3)])) (fun tZ kZ => XS.iloadN X0.here hx rfl (hb hby at_0) rfl kZ) ?_
  refine own_by (S' := s₁.setTop (mkF m 2 #[.val (.int p1), .val (.int p2), .val (.int p3), .unset, .unset, .unset, .unset, .unset, .unset, .unset, .unset, .unset, .unset, .unset] [(.int (1 : Int32)), (.int p3)])) (fun tZ kZ => XS.iconst X0.here hx rfl (hb hby at_1) kZ) ?_
  refine own_by (S' := s₁.setTop (mkF m 3 #[.val (.int p1), .val (.int p2), .val (.int p3), .unset, .unset, .unset, .unset, .unset, .unset, .unset, .unset, .unset, .unset, .unset] [(.int (p3 &&& (1 : Int32)))])) (fun tZ kZ => XS.iand X0.here hx rfl (hb hby at_2) rfl kZ) ?_
  have J24 : ∀ (x : Int32) (hx1 : 1 ≤ x.toInt), OwnG p e below (OwnEW s (Q0  h0 n0) room_1.cells room_1.slots) (s₁.setTop (mkF m 24 #[.val (.int p1), .val (.int p2), .val (.int p3), .unset, .unset, .unset, .unset, .unset, .unset, .unset, .unset, .unset, .unset, .unset] [(.int x)])) := by
    intro x hx1
    refine own_by (S' := s₁.setTop (mkF m 25 #[.val (.int p1), .val (.int p2), .val (.int p3), .val (.int x), .unset, .unset, .unset, .unset, .unset, .unset, .unset, .unset, .unset, .unset] [])) (fun tZ kZ => XS.istoreN X0.here hx rfl (hb hby at_24) rfl (l' := #[.val (.int p1), .val (.int p2), .val (.int p3), .val (.int x), .unset, .unset, .unset, .unset, .unset, .unset, .unset, .unset, .unset, .unset]) rfl kZ) ?_
    refine own_by (S' := s₁.setTop (mkF m 28 #[.val (.int p1), .val (.int p2), .val (.int p3), .val (.int x), .unset, .unset, .unset, .unset, .unset, .unset, .unset, .unset, .unset, .unset] [(.long (2147483647 : Int64))])) (fun tZ kZ => X0.ldc2Long hx hown0 (mvT hZ0 (hw_ hw 1 rfl)) (g := (mkF m 25 #[.val (.int p1), .val (.int p2), .val (.int p3), .val (.int x), .unset, .unset, .unset, .unset, .unset, .unset, .unset, .unset, .unset, .unset] [])) rfl (hb hby at_25) _ kZ) ?_
    refine own_by (S' := s₁.setTop (mkF m 31 #[.val (.int p1), .val (.int p2), .val (.int p3), .val (.int x), .unset, .unset, .unset, .unset, .unset, .unset, .unset, .unset, .unset, .unset] [(.long (1000000 : Int64)), (.long (2147483647 : Int64))])) (fun tZ kZ => X0.ldc2Long hx hown0 (mvT hZ0 (hw_ hw 2 rfl)) (g := (mkF m 28 #[.val (.int p1), .val (.int p2), .val (.int p3), .val (.int x), .unset, .unset, .unset, .unset, .unset, .unset, .unset, .unset, .unset, .unset] [(.long (2147483647 : Int64))])) rfl (hb hby at_28) _ kZ) ?_
    refine own_by (S' := s₁.setTop (mkF m 32 #[.val (.int p1), .val (.int p2), .val (.int p3), .val (.int x), .unset, .unset, .unset, .unset, .unset, .unset, .unset, .unset, .unset, .unset] [(.int x), (.long (1000000 : Int64)), (.long (2147483647 : Int64))])) (fun tZ kZ => XS.iloadN X0.here hx rfl (hb hby at_31) rfl kZ) ?_
    refine own_by (S' := s₁.setTop (mkF m 33 #[.val (.int p1), .val (.int p2), .val (.int p3), .val (.int x), .unset, .unset, .unset, .unset, .unset, .unset, .unset, .unset, .unset, .unset] [(.long (x.toInt64)), (.long (1000000 : Int64)), (.long (2147483647 : Int64))])) (fun tZ kZ => XS.i2l X0.here hx rfl (hb hby at_32) rfl kZ) ?_
    refine own_by (S' := s₁.setTop (mkF m 34 #[.val (.int p1), .val (.int p2), .val (.int p3), .val (.int x), .unset, .unset, .unset, .unset, .unset, .unset, .unset, .unset, .unset, .unset] [(.long ((1000000 : Int64) * (x.toInt64))), (.long (2147483647 : Int64))])) (fun tZ kZ => XS.lmul X0.here hx rfl (hb hby at_33) rfl kZ) ?_
    obtain ⟨_, _, ⟨T1, L1, k1, n1⟩, -, X1, ⟨Lc1, hQ1, l1, y1, z1⟩, st1⟩ := Jvm.LawKit.callS X0 hx (y := (⟨"java/lang/Math", "min", "(JJ)J"⟩ : MethodName)) hown0 (mvT hZ0 (hw_ hw 3 rfl)) (mvT hZ0 (hw_ hw 4 rfl)) (mvT hZ0 (hw_ hw 5 rfl)) (mvT hZ0 (hw_ hw 6 rfl)) (by decide) (backOf (W := 0) (rmMj l Z a0 hw [] _ _ h0 n0 Z0) hZ0 (hw_ hw 6 rfl) (hw_ hw 5 rfl) (by decide) (by decide)) (g := (mkF m 34 #[.val (.int p1), .val (.int p2), .val (.int p3), .val (.int x), .unset, .unset, .unset, .unset, .unset, .unset, .unset, .unset, .unset, .unset] [(.long ((1000000 : Int64) * (x.toInt64))), (.long (2147483647 : Int64))])) rfl (by rw [hml]; rfl) (argsL := [(.long (2147483647 : Int64)), (.long ((1000000 : Int64) * (x.toInt64)))]) (rest := []) (lenOf pd_29 rfl) rfl (by show 2 * 0 + _ ≤ _; exact Nat.le_of_eq rfl) (hb hby at_34) (fun _ _ => ⟨rfl, e0, (by decide : 0 + 0 ≤ _), (by decide : 0 + 0 ≤ _)⟩)
    dsimp only [Pt.U, Pt.locs, Pt.cells, Pt.slots] at X1 l1 y1 z1 st1 hQ1
    subst l1 y1 z1
    obtain ⟨rfl, N1q, heq1⟩ := hQ1
    have N1 := Fr.app N0 N1q
    refine own_by (S' := T1.setTop (mkF m 37 #[.val (.int p1), .val (.int p2), .val (.int p3), .val (.int x), .unset, .unset, .unset, .unset, .unset, .unset, .unset, .unset, .unset, .unset] [(.long (if 0 < lcmpW (2147483647 : Int64) ((1000000 : Int64) * x.toInt64) then (1000000 : Int64) * x.toInt64 else 2147483647))])) (fun tZ kZ => st1 _ kZ) ?_
    obtain ⟨cp, hcp⟩ : ∃ z : Int64, z = (if 0 < lcmpW (2147483647 : Int64) ((1000000 : Int64) * x.toInt64) then (1000000 : Int64) * x.toInt64 else 2147483647) := ⟨_, rfl⟩
    rw [← hcp]
    obtain ⟨hc1, hc2, hc3, hm1⟩ := own_cp hx1 hcp
    refine own_by (S' := T1.setTop (mkF m 39 #[.val (.int p1), .val (.int p2), .val (.int p3), .val (.int x), .val (.long cp), .second, .unset, .unset, .unset, .unset, .unset, .unset, .unset, .unset] [])) (fun tZ kZ => XS.lstore X1.here hx rfl (hb hby at_37) rfl (l' := #[.val (.int p1), .val (.int p2), .val (.int p3), .val (.int x), .val (.long cp), .second, .unset, .unset, .unset, .unset, .unset, .unset, .unset, .unset]) rfl kZ) ?_
    refine own_by (S' := T1.setTop (mkF m 40 #[.val (.int p1), .val (.int p2), .val (.int p3), .val (.int x), .val (.long cp), .second, .unset, .unset, .unset, .unset, .unset, .unset, .unset, .unset] [(.int p3)])) (fun tZ kZ => XS.iloadN X1.here hx rfl (hb hby at_39) rfl kZ) ?_
    refine own_by (S' := T1.setTop (mkF m 41 #[.val (.int p1), .val (.int p2), .val (.int p3), .val (.int x), .val (.long cp), .second, .unset, .unset, .unset, .unset, .unset, .unset, .unset, .unset] [(.int (2 : Int32)), (.int p3)])) (fun tZ kZ => XS.iconst X1.here hx rfl (hb hby at_40) kZ) ?_
    refine own_by (S' := T1.setTop (mkF m 42 #[.val (.int p1), .val (.int p2), .val (.int p3), .val (.int x), .val (.long cp), .second, .unset, .unset, .unset, .unset, .unset, .unset, .unset, .unset] [(.int (p3 &&& (2 : Int32)))])) (fun tZ kZ => XS.iand X1.here hx rfl (hb hby at_41) rfl kZ) ?_
    have J58 : ∀ (rv : Int64) (hrv : 0 ≤ rv.toInt ∧ rv.toInt ≤ 2147483647), OwnG p e below (OwnEW s (Q0  h0 n0) room_1.cells room_1.slots) (T1.setTop (mkF m 58 #[.val (.int p1), .val (.int p2), .val (.int p3), .val (.int x), .val (.long cp), .second, .unset, .unset, .unset, .unset, .unset, .unset, .unset, .unset] [(.long rv)])) := by
      intro rv hrv
      refine own_by (S' := T1.setTop (mkF m 60 #[.val (.int p1), .val (.int p2), .val (.int p3), .val (.int x), .val (.long cp), .second, .val (.long rv), .second, .unset, .unset, .unset, .unset, .unset, .unset] [])) (fun tZ kZ => XS.lstore X1.here hx rfl (hb hby at_58) rfl (l' := #[.val (.int p1), .val (.int p2), .val (.int p3), .val (.int x), .val (.long cp), .second, .val (.long rv), .second, .unset, .unset, .unset, .unset, .unset, .unset]) rfl kZ) ?_
      refine own_by (S' := T1.setTop (mkF m 61 #[.val (.int p1), .val (.int p2), .val (.int p3), .val (.int x), .val (.long cp), .second, .val (.long rv), .second, .unset, .unset, .unset, .unset, .unset, .unset] [(.int (1 : Int32))])) (fun tZ kZ => XS.iconst X1.here hx rfl (hb hby at_60) kZ) ?_
      refine own_by (S' := T1.setTop (mkF m 63 #[.val (.int p1), .val (.int p2), .val (.int p3), .val (.int x), .val (.long cp), .second, .val (.long rv), .second, .unset, .unset, .unset, .unset, .unset, .unset] [(.long rv), (.int (1 : Int32))])) (fun tZ kZ => XS.lload X1.here hx rfl (hb hby at_61) rfl kZ) ?_
      refine own_by (S' := T1.setTop (mkF m 65 #[.val (.int p1), .val (.int p2), .val (.int p3), .val (.int x), .val (.long cp), .second, .val (.long rv), .second, .unset, .unset, .unset, .unset, .unset, .unset] [(.long cp), (.long rv), (.int (1 : Int32))])) (fun tZ kZ => XS.lload X1.here hx rfl (hb hby at_63) rfl kZ) ?_
      refine own_by (S' := T1.setTop (mkF m 66 #[.val (.int p1), .val (.int p2), .val (.int p3), .val (.int x), .val (.long cp), .second, .val (.long rv), .second, .unset, .unset, .unset, .unset, .unset, .unset] [(.long (rv - (rv / cp) * cp)), (.int (1 : Int32))])) (fun tZ kZ => XS.lrem X1.here hx rfl (hb hby at_65) rfl (own_nzL hc1) kZ) ?_
      refine own_by (S' := T1.setTop (mkF m 67 #[.val (.int p1), .val (.int p2), .val (.int p3), .val (.int x), .val (.long cp), .second, .val (.long rv), .second, .unset, .unset, .unset, .unset, .unset, .unset] [(.int ((rv - (rv / cp) * cp).toInt32)), (.int (1 : Int32))])) (fun tZ kZ => XS.l2i X1.here hx rfl (hb hby at_66) rfl kZ) ?_
      refine own_by (S' := T1.setTop (mkF m 68 #[.val (.int p1), .val (.int p2), .val (.int p3), .val (.int x), .val (.long cp), .second, .val (.long rv), .second, .unset, .unset, .unset, .unset, .unset, .unset] [(.int ((1 : Int32) + ((rv - (rv / cp) * cp).toInt32)))])) (fun tZ kZ => XS.iadd X1.here hx rfl (hb hby at_67) rfl kZ) ?_
      obtain ⟨hz, hhz⟩ : ∃ z : Int32, z = ((1 : Int32) + ((rv - (rv / cp) * cp).toInt32)) := ⟨_, rfl⟩
      rw [← hhz]
      have hz1 := own_hz1 hrv.1 hc1 hc2 hhz
      refine own_by (S' := T1.setTop (mkF m 70 #[.val (.int p1), .val (.int p2), .val (.int p3), .val (.int x), .val (.long cp), .second, .val (.long rv), .second, .val (.int hz), .unset, .unset, .unset, .unset, .unset] [])) (fun tZ kZ => XS.istore X1.here hx rfl (hb hby at_68) rfl (l' := #[.val (.int p1), .val (.int p2), .val (.int p3), .val (.int x), .val (.long cp), .second, .val (.long rv), .second, .val (.int hz), .unset, .unset, .unset, .unset, .unset]) rfl kZ) ?_
      refine own_by (S' := T1.setTop (mkF m 72 #[.val (.int p1), .val (.int p2), .val (.int p3), .val (.int x), .val (.long cp), .second, .val (.long rv), .second, .val (.int hz), .unset, .unset, .unset, .unset, .unset] [(.int hz)])) (fun tZ kZ => XS.iload X1.here hx rfl (hb hby at_70) rfl kZ) ?_
      refine own_by (S' := T1.setTop (mkF m 73 #[.val (.int p1), .val (.int p2), .val (.int p3), .val (.int x), .val (.long cp), .second, .val (.long rv), .second, .val (.int hz), .unset, .unset, .unset, .unset, .unset] [(.int x), (.int hz)])) (fun tZ kZ => XS.iloadN X1.here hx rfl (hb hby at_72) rfl kZ) ?_
      obtain ⟨_, _, ⟨T2, L2, k2, n2⟩, -, X2, ⟨Lc2, hQ2, l2, y2, z2⟩, st2⟩ := Jvm.LawKit.callS X1 hx (y := (⟨"java/lang/Math", "max", "(II)I"⟩ : MethodName)) hown0 (mvT hZ0 (hw_ hw 7 rfl)) (mvT hZ0 (hw_ hw 8 rfl)) (mvT hZ0 (hw_ hw 5 rfl)) (mvT hZ0 (hw_ hw 9 rfl)) (by decide) (backOf (W := 0) (rmMx l Z a0 hw [] hz x h0 n0 Z0) hZ0 (hw_ hw 9 rfl) (hw_ hw 5 rfl) (by decide) (by decide)) (g := (mkF m 73 #[.val (.int p1), .val (.int p2), .val (.int p3), .val (.int x), .val (.long cp), .second, .val (.long rv), .second, .val (.int hz), .unset, .unset, .unset, .unset, .unset] [(.int x), (.int hz)])) rfl (by rw [hml]; rfl) (argsL := [(.int hz), (.int x)]) (rest := []) (lenOf pd_14 rfl) rfl (by show 2 * 0 + _ ≤ _; exact Nat.le_of_eq rfl) (hb hby at_73) (fun _ _ => ⟨rfl, heq1, (by decide : 0 + 0 ≤ _), (by decide : 0 + 0 ≤ _)⟩)
      dsimp only [Pt.U, Pt.locs, Pt.cells, Pt.slots] at X2 l2 y2 z2 st2 hQ2
      subst l2 y2 z2
      obtain ⟨rfl, N2q, heq2⟩ := hQ2
      have N2 := Fr.app N1 N2q
      refine own_by (S' := T2.setTop (mkF m 76 #[.val (.int p1), .val (.int p2), .val (.int p3), .val (.int x), .val (.long cp), .second, .val (.long rv), .second, .val (.int hz), .unset, .unset, .unset, .unset, .unset] [(.int (if hz < x then x else hz))])) (fun tZ kZ => st2 _ kZ) ?_
      obtain ⟨sn, hsn⟩ : ∃ z : Int32, z = (if hz < x then x else hz) := ⟨_, rfl⟩
      rw [← hsn]
      obtain ⟨hs1, hs2, hs3⟩ := own_sn hsn hx1 hz1 hc3 hm1
      refine own_by (S' := T2.setTop (mkF m 78 #[.val (.int p1), .val (.int p2), .val (.int p3), .val (.int x), .val (.long cp), .second, .val (.long rv), .second, .val (.int hz), .val (.int sn), .unset, .unset, .unset, .unset] [])) (fun tZ kZ => XS.istore X2.here hx rfl (hb hby at_76) rfl (l' := #[.val (.int p1), .val (.int p2), .val (.int p3), .val (.int x), .val (.long cp), .second, .val (.long rv), .second, .val (.int hz), .val (.int sn), .unset, .unset, .unset, .unset]) rfl kZ) ?_
      obtain ⟨T3, h3, X3, e3, E3, A3, D3, U3, st3⟩ := newO X2 hx hZ0 hown0 (hw_ hw 10 rfl) (hw_ hw 11 rfl) (hw_ hw 12 rfl) heq2 (g := (mkF m 78 #[.val (.int p1), .val (.int p2), .val (.int p3), .val (.int x), .val (.long cp), .second, .val (.long rv), .second, .val (.int hz), .val (.int sn), .unset, .unset, .unset, .unset] [])) rfl (hb hby at_78) (by decide) (by decide)
      obtain ⟨b3, g3⟩ : ∃ z, z = h0.size := ⟨_, rfl⟩
      rw [← g3] at A3 D3 U3 st3
      have g_b3 : n0 ≤ b3 := Nat.le_trans Z0 (Nat.le_of_eq g3.symm)
      have sz_b3 : h0.size ≤ b3 := Nat.le_trans (Keep.refl h0 []).1 (Nat.le_of_eq g3.symm)
      have Zs3 : n0 ≤ h3.size := Nat.le_trans Z0 E3.1
      have hk3 := Nat.le_trans hk0 E3.1
      have K3 := (Keep.refl h0 []).ext E3
      have Ex_b3 := A3
      have F_targetUtilization_b3 : Fld Z h3 b3 "com/example/tidewatch/tidewatch/core/TidewatchPolicy$Settings" "targetUtilization" "D" (.double 0) := D3 (Or.inr (hw_ hw 243 rfl)) (ty := .double) (by decide)
      have F_intervalSeconds_b3 : Fld Z h3 b3 "com/example/tidewatch/tidewatch/core/TidewatchPolicy$Settings" "intervalSeconds" "I" (.int (0 : Int32)) := D3 (Or.inr (hw_ hw 245 rfl)) (ty := .int) (by decide)
      have F_expectedRestartSeconds_b3 : Fld Z h3 b3 "com/example/tidewatch/tidewatch/core/TidewatchPolicy$Settings" "expectedRestartSeconds" "D" (.double 0) := D3 (Or.inr (hw_ hw 247 rfl)) (ty := .double) (by decide)
      have F_targetRecoverySeconds_b3 : Fld Z h3 b3 "com/example/tidewatch/tidewatch/core/TidewatchPolicy$Settings" "targetRecoverySeconds" "D" (.double 0) := D3 (Or.inr (hw_ hw 249 rfl)) (ty := .double) (by decide)
      have F_holdSeconds_b3 : Fld Z h3 b3 "com/example/tidewatch/tidewatch/core/TidewatchPolicy$Settings" "holdSeconds" "D" (.double 0) := D3 (Or.inr (hw_ hw 251 rfl)) (ty := .double) (by decide)
      have F_rescaleCost_b3 : Fld Z h3 b3 "com/example/tidewatch/tidewatch/core/TidewatchPolicy$Settings" "rescaleCost" "D" (.double 0) := D3 (Or.inr (hw_ hw 253 rfl)) (ty := .double) (by decide)
      have F_shortfallCost_b3 : Fld Z h3 b3 "com/example/tidewatch/tidewatch/core/TidewatchPolicy$Settings" "shortfallCost" "D" (.double 0) := D3 (Or.inr (hw_ hw 255 rfl)) (ty := .double) (by decide)
      have F_underProvisionedCost_b3 : Fld Z h3 b3 "com/example/tidewatch/tidewatch/core/TidewatchPolicy$Settings" "underProvisionedCost" "D" (.double 0) := D3 (Or.inr (hw_ hw 257 rfl)) (ty := .double) (by decide)
      have F_forecastMargin_b3 : Fld Z h3 b3 "com/example/tidewatch/tidewatch/core/TidewatchPolicy$Settings" "forecastMargin" "D" (.double 0) := D3 (Or.inr (hw_ hw 259 rfl)) (ty := .double) (by decide)
      have F_seasonSeconds_b3 : Fld Z h3 b3 "com/example/tidewatch/tidewatch/core/TidewatchPolicy$Settings" "seasonSeconds" "I" (.int (0 : Int32)) := D3 (Or.inr (hw_ hw 261 rfl)) (ty := .int) (by decide)
      have F_shortSeasonSeconds_b3 : Fld Z h3 b3 "com/example/tidewatch/tidewatch/core/TidewatchPolicy$Settings" "shortSeasonSeconds" "I" (.int (0 : Int32)) := D3 (Or.inr (hw_ hw 263 rfl)) (ty := .int) (by decide)
      have F_horizonSeconds_b3 : Fld Z h3 b3 "com/example/tidewatch/tidewatch/core/TidewatchPolicy$Settings" "horizonSeconds" "I" (.int (0 : Int32)) := D3 (Or.inr (hw_ hw 265 rfl)) (ty := .int) (by decide)
      refine own_by (S' := T3.setTop (mkF m 81 #[.val (.int p1), .val (.int p2), .val (.int p3), .val (.int x), .val (.long cp), .second, .val (.long rv), .second, .val (.int hz), .val (.int sn), .unset, .unset, .unset, .unset] [(.ref b3)])) st3 ?_
      refine own_by (S' := T3.setTop (mkF m 82 #[.val (.int p1), .val (.int p2), .val (.int p3), .val (.int x), .val (.long cp), .second, .val (.long rv), .second, .val (.int hz), .val (.int sn), .unset, .unset, .unset, .unset] [(.ref b3), (.ref b3)])) (fun tZ kZ => XS.dup X3.here hx rfl (hb hby at_81) rfl rfl kZ) ?_
      refine own_by (S' := T3.setTop (mkF m 83 #[.val (.int p1), .val (.int p2), .val (.int p3), .val (.int x), .val (.long cp), .second, .val (.long rv), .second, .val (.int hz), .val (.int sn), .unset, .unset, .unset, .unset] [(.double (FP.l2d 1)), (.ref b3), (.ref b3)])) (fun tZ kZ => XS.dconst1 X3.here hx rfl (hb hby at_82) (by decide +kernel) kZ) ?_
      refine own_by (S' := T3.setTop (mkF m 84 #[.val (.int p1), .val (.int p2), .val (.int p3), .val (.int x), .val (.long cp), .second, .val (.long rv), .second, .val (.int hz), .val (.int sn), .unset, .unset, .unset, .unset] [(.int x), (.double (FP.l2d 1)), (.ref b3), (.ref b3)])) (fun tZ kZ => XS.iloadN X3.here hx rfl (hb hby at_83) rfl kZ) ?_
      refine own_by (S' := T3.setTop (mkF m 85 #[.val (.int p1), .val (.int p2), .val (.int p3), .val (.int x), .val (.long cp), .second, .val (.long rv), .second, .val (.int hz), .val (.int sn), .unset, .unset, .unset, .unset] [(.double (FP.l2d 0)), (.int x), (.double (FP.l2d 1)), (.ref b3), (.ref b3)])) (fun tZ kZ => XS.dconst0 X3.here hx rfl (hb hby at_84) (by decide +kernel) kZ) ?_
      refine own_by (S' := T3.setTop (mkF m 86 #[.val (.int p1), .val (.int p2), .val (.int p3), .val (.int x), .val (.long cp), .second, .val (.long rv), .second, .val (.int hz), .val (.int sn), .unset, .unset, .unset, .unset] [(.double (FP.l2d 1)), (.double (FP.l2d 0)), (.int x), (.double (FP.l2d 1)), (.ref b3), (.ref b3)])) (fun tZ kZ => XS.dconst1 X3.here hx rfl (hb hby at_85) (by decide +kernel) kZ) ?_
      refine own_by (S' := T3.setTop (mkF m 87 #[.val (.int p1), .val (.int p2), .val (.int p3), .val (.int x), .val (.long cp), .second, .val (.long rv), .second, .val (.int hz), .val (.int sn), .unset, .unset, .unset, .unset] [(.double (FP.l2d 0)), (.double (FP.l2d 1)), (.double (FP.l2d 0)), (.int x), (.double (FP.l2d 1)), (.ref b3), (.ref b3)])) (fun tZ kZ => XS.dconst0 X3.here hx rfl (hb hby at_86) (by decide +kernel) kZ) ?_
      refine own_by (S' := T3.setTop (mkF m 88 #[.val (.int p1), .val (.int p2), .val (.int p3), .val (.int x), .val (.long cp), .second, .val (.long rv), .second, .val (.int hz), .val (.int sn), .unset, .unset, .unset, .unset] [(.double (FP.l2d 0)), (.double (FP.l2d 0)), (.double (FP.l2d 1)), (.double (FP.l2d 0)), (.int x), (.double (FP.l2d 1)), (.ref b3), (.ref b3)])) (fun tZ kZ => XS.dconst0 X3.here hx rfl (hb hby at_87) (by decide +kernel) kZ) ?_
      refine own_by (S' := T3.setTop (mkF m 89 #[.val (.int p1), .val (.int p2), .val (.int p3), .val (.int x), .val (.long cp), .second, .val (.long rv), .second, .val (.int hz), .val (.int sn), .unset, .unset, .unset, .unset] [(.double (FP.l2d 0)), (.double (FP.l2d 0)), (.double (FP.l2d 0)), (.double (FP.l2d 1)), (.double (FP.l2d 0)), (.int x), (.double (FP.l2d 1)), (.ref b3), (.ref b3)])) (fun tZ kZ => XS.dconst0 X3.here hx rfl (hb hby at_88) (by decide +kernel) kZ) ?_
      refine own_by (S' := T3.setTop (mkF m 90 #[.val (.int p1), .val (.int p2), .val (.int p3), .val (.int x), .val (.long cp), .second, .val (.long rv), .second, .val (.int hz), .val (.int sn), .unset, .unset, .unset, .unset] [(.double (FP.l2d 0)), (.double (FP.l2d 0)), (.double (FP.l2d 0)), (.double (FP.l2d 0)), (.double (FP.l2d 1)), (.double (FP.l2d 0)), (.int x), (.double (FP.l2d 1)), (.ref b3), (.ref b3)])) (fun tZ kZ => XS.dconst0 X3.here hx rfl (hb hby at_89) (by decide +kernel) kZ) ?_
      refine own_by (S' := T3.setTop (mkF m 91 #[.val (.int p1), .val (.int p2), .val (.int p3), .val (.int x), .val (.long cp), .second, .val (.long rv), .second, .val (.int hz), .val (.int sn), .unset, .unset, .unset, .unset] [(.double (FP.l2d 0)), (.double (FP.l2d 0)), (.double (FP.l2d 0)), (.double (FP.l2d 0)), (.double (FP.l2d 0)), (.double (FP.l2d 1)), (.double (FP.l2d 0)), (.int x), (.double (FP.l2d 1)), (.ref b3), (.ref b3)])) (fun tZ kZ => XS.dconst0 X3.here hx rfl (hb hby at_90) (by decide +kernel) kZ) ?_
      refine own_by (S' := T3.setTop (mkF m 93 #[.val (.int p1), .val (.int p2), .val (.int p3), .val (.int x), .val (.long cp), .second, .val (.long rv), .second, .val (.int hz), .val (.int sn), .unset, .unset, .unset, .unset] [(.int sn), (.double (FP.l2d 0)), (.double (FP.l2d 0)), (.double (FP.l2d 0)), (.double (FP.l2d 0)), (.double (FP.l2d 0)), (.double (FP.l2d 1)), (.double (FP.l2d 0)), (.int x), (.double (FP.l2d 1)), (.ref b3), (.ref b3)])) (fun tZ kZ => XS.iload X3.here hx rfl (hb hby at_91) rfl kZ) ?_
      refine own_by (S' := T3.setTop (mkF m 94 #[.val (.int p1), .val (.int p2), .val (.int p3), .val (.int x), .val (.long cp), .second, .val (.long rv), .second, .val (.int hz), .val (.int sn), .unset, .unset, .unset, .unset] [(.int (0 : Int32)), (.int sn), (.double (FP.l2d 0)), (.double (FP.l2d 0)), (.double (FP.l2d 0)), (.double (FP.l2d 0)), (.double (FP.l2d 0)), (.double (FP.l2d 1)), (.double (FP.l2d 0)), (.int x), (.double (FP.l2d 1)), (.ref b3), (.ref b3)])) (fun tZ kZ => XS.iconst X3.here hx rfl (hb hby at_93) kZ) ?_
      refine own_by (S' := T3.setTop (mkF m 96 #[.val (.int p1), .val (.int p2), .val (.int p3), .val (.int x), .val (.long cp), .second, .val (.long rv), .second, .val (.int hz), .val (.int sn), .unset, .unset, .unset, .unset] [(.int hz), (.int (0 : Int32)), (.int sn), (.double (FP.l2d 0)), (.double (FP.l2d 0)), (.double (FP.l2d 0)), (.double (FP.l2d 0)), (.double (FP.l2d 0)), (.double (FP.l2d 1)), (.double (FP.l2d 0)), (.int x), (.double (FP.l2d 1)), (.ref b3), (.ref b3)])) (fun tZ kZ => XS.iload X3.here hx rfl (hb hby at_94) rfl kZ) ?_
      have ExK3 := own_ext0 K3
      obtain ⟨_, _, ⟨T4, L4, k4, n4⟩, -, X4, hS4, hg4, ⟨Lc4, hQ4, l4, y4, z4⟩, st4⟩ := X3.specialBackS hx (y := (⟨"com/example/tidewatch/tidewatch/core/TidewatchPolicy$Settings", "<init>", "(DIDDDDDDDIII)V"⟩ : MethodName)) rfl hown0 (mvT hZ0 (hw_ hw 13 rfl)) (mvT hZ0 (hw_ hw 14 rfl)) (mvT hZ0 (hw_ hw 15 rfl)) (by decide) (own_backH (Q := QSet Z b3 x hz h3 n0) (I := fun vZ => IB Z vZ ["horizonSeconds", " s", "forecastMargin", "underProvisionedCost", "shortfallCost", "rescaleCost", "holdSeconds", "targetRecoverySeconds", "expectedRestartSeconds", "intervalSeconds"]) (W := 1) (rmSet l Z a0 hw [] b3 x sn hz cz do_ dt co ct h3 n0 Zs3 (⟨Nat.le_trans EZ.1 E3.1, fun aZ cZ qZ => E3.2 aZ cZ (EZ.2 aZ cZ qZ)⟩) HC hcw (Sc.ext ExK3) hcz (S_o.ext ExK3) (A_o.ext ExK3) z_o e_o (S_t.ext ExK3) (A_t.ext ExK3) z_t e_t hx1 hs1 hs2 hz1.1 hs3 Ex_b3 F_targetUtilization_b3 F_intervalSeconds_b3 F_expectedRestartSeconds_b3 F_targetRecoverySeconds_b3 F_holdSeconds_b3 F_rescaleCost_b3 F_shortfallCost_b3 F_underProvisionedCost_b3 F_forecastMargin_b3 F_seasonSeconds_b3 F_shortSeasonSeconds_b3 F_horizonSeconds_b3 g_b3 (Nat.le_trans gz0 g_b3)) hZH0 (hw_ hw 15 rfl) (hw_ hw 12 rfl) (by decide) (by decide)) (g := (mkF m 96 #[.val (.int p1), .val (.int p2), .val (.int p3), .val (.int x), .val (.long cp), .second, .val (.long rv), .second, .val (.int hz), .val (.int sn), .unset, .unset, .unset, .unset] [(.int hz), (.int (0 : Int32)), (.int sn), (.double (FP.l2d 0)), (.double (FP.l2d 0)), (.double (FP.l2d 0)), (.double (FP.l2d 0)), (.double (FP.l2d 0)), (.double (FP.l2d 1)), (.double (FP.l2d 0)), (.int x), (.double (FP.l2d 1)), (.ref b3), (.ref b3)])) rfl (by rw [hml]; rfl) (Steps.refl _) (a := b3) (argsL := [(.double (FP.l2d 1)), (.int x), (.double (FP.l2d 0)), (.double (FP.l2d 1)), (.double (FP.l2d 0)), (.double (FP.l2d 0)), (.double (FP.l2d 0)), (.double (FP.l2d 0)), (.double (FP.l2d 0)), (.int sn), (.int (0 : Int32)), (.int hz)]) (rest := [(.ref b3)]) (lenOf pd_30 rfl) rfl (by show 2 * 0 + _ ≤ _; exact Nat.le_of_eq rfl) (hb hby at_96) (fun _ _ => ⟨rfl, e3, (by decide : 1 + 25 ≤ _), (by decide : 12 + 650 ≤ _)⟩)
      dsimp only [Pt.U, Pt.locs, Pt.cells, Pt.slots] at X4 l4 y4 z4 st4 hQ4 hS4 hg4
      subst l4 y4 z4
      obtain ⟨⟨rfl, N4q, Kc4, qe4, qi4, qh4⟩, hI4⟩ := hQ4
      have N4 := Fr.app N2 N4q
      obtain ⟨X4, hS4, hZ4, hown4⟩ := rebS hS0 hk3 X4 hS4 (by rw [← e3]; exact hg4) hZ0 hown0
      have Zs4 := Nat.le_trans Zs3 Kc4.1
      have K4 := K3.trans Kc4 (fun x hx => by
          simp only [List.mem_cons, List.not_mem_nil, or_false] at hx
          rcases hx with rfl
          · exact Or.inr sz_b3)
      have Ex_b3_4 := Ex_b3.keep Kc4
      refine own_by (S' := T4.setTop (mkF m 99 #[.val (.int p1), .val (.int p2), .val (.int p3), .val (.int x), .val (.long cp), .second, .val (.long rv), .second, .val (.int hz), .val (.int sn), .unset, .unset, .unset, .unset] [(.ref b3)])) (fun tZ kZ => st4.trans kZ) ?_
      refine own_by (S' := T4.setTop (mkF m 101 #[.val (.int p1), .val (.int p2), .val (.int p3), .val (.int x), .val (.long cp), .second, .val (.long rv), .second, .val (.int hz), .val (.int sn), .val (.ref b3), .unset, .unset, .unset] [])) (fun tZ kZ => XS.astore X4.here hx rfl (hb hby at_99) rfl rfl (l' := #[.val (.int p1), .val (.int p2), .val (.int p3), .val (.int x), .val (.long cp), .second, .val (.long rv), .second, .val (.int hz), .val (.int sn), .val (.ref b3), .unset, .unset, .unset]) rfl kZ) ?_
      refine own_by (S' := T4.setTop (mkF m 103 #[.val (.int p1), .val (.int p2), .val (.int p3), .val (.int x), .val (.long cp), .second, .val (.long rv), .second, .val (.int hz), .val (.int sn), .val (.ref b3), .unset, .unset, .unset] [(.int hz)])) (fun tZ kZ => XS.iload X4.here hx rfl (hb hby at_101) rfl kZ) ?_
      refine own_by (S' := T4.setTop (mkF m 104 #[.val (.int p1), .val (.int p2), .val (.int p3), .val (.int x), .val (.long cp), .second, .val (.long rv), .second, .val (.int hz), .val (.int sn), .val (.ref b3), .unset, .unset, .unset] [(.int x), (.int hz)])) (fun tZ kZ => XS.iloadN X4.here hx rfl (hb hby at_103) rfl kZ) ?_
      refine own_by (S' := T4.setTop (mkF m 105 #[.val (.int p1), .val (.int p2), .val (.int p3), .val (.int x), .val (.long cp), .second, .val (.long rv), .second, .val (.int hz), .val (.int sn), .val (.ref b3), .unset, .unset, .unset] [(.int (hz / x))])) (fun tZ kZ => XS.idiv X4.here hx rfl (hb hby at_104) rfl (own_n0 hx1) kZ) ?_
      refine own_by (S' := T4.setTop (mkF m 107 #[.val (.int p1), .val (.int p2), .val (.int p3), .val (.int x), .val (.long cp), .second, .val (.long rv), .second, .val (.int hz), .val (.int sn), .val (.ref b3), .val (.int (hz / x)), .unset, .unset] [])) (fun tZ kZ => XS.istore X4.here hx rfl (hb hby at_105) rfl (l' := #[.val (.int p1), .val (.int p2), .val (.int p3), .val (.int x), .val (.long cp), .second, .val (.long rv), .second, .val (.int hz), .val (.int sn), .val (.ref b3), .val (.int (hz / x)), .unset, .unset]) rfl kZ) ?_
      refine own_by (S' := T4.setTop (mkF m 109 #[.val (.int p1), .val (.int p2), .val (.int p3), .val (.int x), .val (.long cp), .second, .val (.long rv), .second, .val (.int hz), .val (.int sn), .val (.ref b3), .val (.int (hz / x)), .unset, .unset] [(.int hz)])) (fun tZ kZ => XS.iload X4.here hx rfl (hb hby at_107) rfl kZ) ?_
      refine own_by (S' := T4.setTop (mkF m 110 #[.val (.int p1), .val (.int p2), .val (.int p3), .val (.int x), .val (.long cp), .second, .val (.long rv), .second, .val (.int hz), .val (.int sn), .val (.ref b3), .val (.int (hz / x)), .unset, .unset] [(.int x), (.int hz)])) (fun tZ kZ => XS.iloadN X4.here hx rfl (hb hby at_109) rfl kZ) ?_
      refine own_by (S' := T4.setTop (mkF m 111 #[.val (.int p1), .val (.int p2), .val (.int p3), .val (.int x), .val (.long cp), .second, .val (.long rv), .second, .val (.int hz), .val (.int sn), .val (.ref b3), .val (.int (hz / x)), .unset, .unset] [(.int (hz % x))])) (fun tZ kZ => Jvm.RoadKit.iremM X4 hx rfl (hb hby at_110) rfl (own_n0 hx1) kZ) ?_
      refine own_by (S' := T4.setTop (mkF m 113 #[.val (.int p1), .val (.int p2), .val (.int p3), .val (.int x), .val (.long cp), .second, .val (.long rv), .second, .val (.int hz), .val (.int sn), .val (.ref b3), .val (.int (hz / x)), .val (.int (hz % x)), .unset] [])) (fun tZ kZ => XS.istore X4.here hx rfl (hb hby at_111) rfl (l' := #[.val (.int p1), .val (.int p2), .val (.int p3), .val (.int x), .val (.long cp), .second, .val (.long rv), .second, .val (.int hz), .val (.int sn), .val (.ref b3), .val (.int (hz / x)), .val (.int (hz % x)), .unset]) rfl kZ) ?_
      refine own_by (S' := T4.setTop (mkF m 115 #[.val (.int p1), .val (.int p2), .val (.int p3), .val (.int x), .val (.long cp), .second, .val (.long rv), .second, .val (.int hz), .val (.int sn), .val (.ref b3), .val (.int (hz / x)), .val (.int (hz % x)), .unset] [(.int (hz % x))])) (fun tZ kZ => XS.iload X4.here hx rfl (hb hby at_113) rfl kZ) ?_
      by_cases hr0 : (hz % x) = (0 : Int32)
      · refine own_by (S' := T4.setTop (mkF m 118 #[.val (.int p1), .val (.int p2), .val (.int p3), .val (.int x), .val (.long cp), .second, .val (.long rv), .second, .val (.int hz), .val (.int sn), .val (.ref b3), .val (.int (hz / x)), .val (.int (hz % x)), .unset] [])) (fun tZ kZ => XS.ifNo X4.here hx rfl (hb hby at_115) rfl ((if0 _ _).trans (teq hr0).2) kZ) ?_
        have fin : (((hz.toInt64 + x.toInt64) - (1 : Int64)) / x.toInt64).toInt32 = hz / x := by
          apply Int32.toInt_inj.mp
          obtain ⟨q1, q2⟩ := own_qr hz1.1 hx1
          rw [own_hz hz1.1 hx1, if_pos (by rw [← q2, hr0]; rfl), q1]
        refine own_by (S' := T4.setTop (mkF m 120 #[.val (.int p1), .val (.int p2), .val (.int p3), .val (.int x), .val (.long cp), .second, .val (.long rv), .second, .val (.int hz), .val (.int sn), .val (.ref b3), .val (.int (hz / x)), .val (.int (hz % x)), .unset] [(.int (hz / x))])) (fun tZ kZ => XS.iload X4.here hx rfl (hb hby at_118) rfl kZ) ?_
        refine own_by (S' := T4.setTop (mkF m 127 #[.val (.int p1), .val (.int p2), .val (.int p3), .val (.int x), .val (.long cp), .second, .val (.long rv), .second, .val (.int hz), .val (.int sn), .val (.ref b3), .val (.int (hz / x)), .val (.int (hz % x)), .unset] [(.int (hz / x))])) (fun tZ kZ => XS.goto X4.here hx rfl (pc0 := 120) (pc' := 127) rfl (hb hby at_120) (by decide) (by decide) kZ) ?_
        refine own_by (S' := T4.setTop (mkF m 129 #[.val (.int p1), .val (.int p2), .val (.int p3), .val (.int x), .val (.long cp), .second, .val (.long rv), .second, .val (.int hz), .val (.int sn), .val (.ref b3), .val (.int (hz / x)), .val (.int (hz % x)), .val (.int (hz / x))] [])) (fun tZ kZ => XS.istore X4.here hx rfl (hb hby at_127) rfl (l' := #[.val (.int p1), .val (.int p2), .val (.int p3), .val (.int x), .val (.long cp), .second, .val (.long rv), .second, .val (.int hz), .val (.int sn), .val (.ref b3), .val (.int (hz / x)), .val (.int (hz % x)), .val (.int (hz / x))]) rfl kZ) ?_
        refine own_by (S' := T4.setTop (mkF m 131 #[.val (.int p1), .val (.int p2), .val (.int p3), .val (.int x), .val (.long cp), .second, .val (.long rv), .second, .val (.int hz), .val (.int sn), .val (.ref b3), .val (.int (hz / x)), .val (.int (hz % x)), .val (.int (hz / x))] [(.ref b3)])) (fun tZ kZ => XS.aload X4.here hx rfl (hb hby at_129) rfl rfl kZ) ?_
        obtain ⟨cq5, kq5, q5a, q5b, q5c⟩ := isOf hZ4 rfl qe4
        obtain ⟨_, _, ⟨T5, L5, k5, n5⟩, -, X5, ⟨Lc5, hQ5, l5, y5, z5⟩, st5⟩ := X4.virtualBack hx (y := (⟨"com/example/tidewatch/tidewatch/core/TidewatchPolicy$Settings", "horizonIntervals", "()I"⟩ : MethodName)) (z := (⟨"com/example/tidewatch/tidewatch/core/TidewatchPolicy$Settings", "horizonIntervals", "()I"⟩ : MethodName)) hown4 (mvT hZ4 (hw_ hw 266 rfl)) (mvT hZ4 (hw_ hw 267 rfl)) (notFace_of_selects (args := #[]) (mvT hZ4 (hw_ hw 269 rfl))) (mvT hZ4 (hw_ hw 269 rfl)) (mvT hZ4 (hw_ hw 268 rfl)) (by decide) (backOf (W := 0) (rmHz l Z a0 hw [] b3 x hz T4.heap n0 Zs4 hx1 qi4 qh4) hZ4 (hw_ hw 270 rfl) (hw_ hw 12 rfl) (by decide) (by decide)) q5a q5c (g := (mkF m 131 #[.val (.int p1), .val (.int p2), .val (.int p3), .val (.int x), .val (.long cp), .second, .val (.long rv), .second, .val (.int hz), .val (.int sn), .val (.ref b3), .val (.int (hz / x)), .val (.int (hz % x)), .val (.int (hz / x))] [(.ref b3)])) rfl (by rw [hml]; rfl) (Steps.refl _) (argsL := []) (rest := []) (lenOf pd_10 rfl) rfl (by show 2 * 0 + _ ≤ _; exact Nat.le_of_eq rfl) (hb hby at_131) (fun _ _ => ⟨rfl, rfl, (by decide : 26 + 0 ≤ _), (by decide : 662 + 0 ≤ _)⟩)
        dsimp only [Pt.U, Pt.locs, Pt.cells, Pt.slots] at X5 l5 y5 z5 st5 hQ5
        subst l5 y5 z5
        obtain ⟨rfl, N5q, heq5⟩ := hQ5
        have N5 := Fr.app N4 N5q
        refine own_by (S' := T5.setTop (mkF m 134 #[.val (.int p1), .val (.int p2), .val (.int p3), .val (.int x), .val (.long cp), .second, .val (.long rv), .second, .val (.int hz), .val (.int sn), .val (.ref b3), .val (.int (hz / x)), .val (.int (hz % x)), .val (.int (hz / x))] [(.int ((((hz.toInt64 + x.toInt64) - (1 : Int64)) / x.toInt64).toInt32))])) (fun tZ kZ => st5.trans kZ) ?_
        refine own_by (S' := T5.setTop (mkF m 136 #[.val (.int p1), .val (.int p2), .val (.int p3), .val (.int x), .val (.long cp), .second, .val (.long rv), .second, .val (.int hz), .val (.int sn), .val (.ref b3), .val (.int (hz / x)), .val (.int (hz % x)), .val (.int (hz / x))] [(.int (hz / x)), (.int ((((hz.toInt64 + x.toInt64) - (1 : Int64)) / x.toInt64).toInt32))])) (fun tZ kZ => XS.iload X5.here hx rfl (hb hby at_134) rfl kZ) ?_
        refine own_by (S' := T5.setTop (mkF m 139 #[.val (.int p1), .val (.int p2), .val (.int p3), .val (.int x), .val (.long cp), .second, .val (.long rv), .second, .val (.int hz), .val (.int sn), .val (.ref b3), .val (.int (hz / x)), .val (.int (hz % x)), .val (.int (hz / x))] [])) (fun tZ kZ => XS.icmpNo X5.here hx rfl (hb hby at_136) rfl (teq fin).2 kZ) ?_
        refine own_by (S' := T5.setTop (mkF m 140 #[.val (.int p1), .val (.int p2), .val (.int p3), .val (.int x), .val (.long cp), .second, .val (.long rv), .second, .val (.int hz), .val (.int sn), .val (.ref b3), .val (.int (hz / x)), .val (.int (hz % x)), .val (.int (hz / x))] [(.int (1 : Int32))])) (fun tZ kZ => XS.iconst X5.here hx rfl (hb hby at_139) kZ) ?_
        refine own_by (S' := T5.setTop (mkF m 144 #[.val (.int p1), .val (.int p2), .val (.int p3), .val (.int x), .val (.long cp), .second, .val (.long rv), .second, .val (.int hz), .val (.int sn), .val (.ref b3), .val (.int (hz / x)), .val (.int (hz % x)), .val (.int (hz / x))] [(.int (1 : Int32))])) (fun tZ kZ => XS.goto X5.here hx rfl (pc0 := 140) (pc' := 144) rfl (hb hby at_140) (by decide) (by decide) kZ) ?_
        exact own_retWI X5 hS4 (by rw [heq5]; exact (Nat.le_refl _)) hx (t := .boolean) Bd.returns (by simp) rfl (hb hby at_144) Bd.notSynchronized (by decide) (by decide) ⟨rfl, N5⟩
      · refine own_by (S' := T4.setTop (mkF m 123 #[.val (.int p1), .val (.int p2), .val (.int p3), .val (.int x), .val (.long cp), .second, .val (.long rv), .second, .val (.int hz), .val (.int sn), .val (.ref b3), .val (.int (hz / x)), .val (.int (hz % x)), .unset] [])) (fun tZ kZ => XS.ifYes X4.here hx rfl (pc0 := 115) (pc' := 123) rfl (hb hby at_115) rfl ((if0 _ _).trans (feq hr0).2) (by decide) (by decide) kZ) ?_
        have fin : (((hz.toInt64 + x.toInt64) - (1 : Int64)) / x.toInt64).toInt32 = hz / x + 1 := by
          apply Int32.toInt_inj.mp
          obtain ⟨q1, q2⟩ := own_qr hz1.1 hx1
          rw [own_hz hz1.1 hx1, if_neg (fun q => hr0 (Int32.toInt_inj.mp (by rw [q2, q]; rfl))), own_q1 hz1.1 hx1 hr0]
        refine own_by (S' := T4.setTop (mkF m 125 #[.val (.int p1), .val (.int p2), .val (.int p3), .val (.int x), .val (.long cp), .second, .val (.long rv), .second, .val (.int hz), .val (.int sn), .val (.ref b3), .val (.int (hz / x)), .val (.int (hz % x)), .unset] [(.int (hz / x))])) (fun tZ kZ => XS.iload X4.here hx rfl (hb hby at_123) rfl kZ) ?_
        refine own_by (S' := T4.setTop (mkF m 126 #[.val (.int p1), .val (.int p2), .val (.int p3), .val (.int x), .val (.long cp), .second, .val (.long rv), .second, .val (.int hz), .val (.int sn), .val (.ref b3), .val (.int (hz / x)), .val (.int (hz % x)), .unset] [(.int (1 : Int32)), (.int (hz / x))])) (fun tZ kZ => XS.iconst X4.here hx rfl (hb hby at_125) kZ) ?_
        refine own_by (S' := T4.setTop (mkF m 127 #[.val (.int p1), .val (.int p2), .val (.int p3), .val (.int x), .val (.long cp), .second, .val (.long rv), .second, .val (.int hz), .val (.int sn), .val (.ref b3), .val (.int (hz / x)), .val (.int (hz % x)), .unset] [(.int ((hz / x) + (1 : Int32)))])) (fun tZ kZ => XS.iadd X4.here hx rfl (hb hby at_126) rfl kZ) ?_
        refine own_by (S' := T4.setTop (mkF m 129 #[.val (.int p1), .val (.int p2), .val (.int p3), .val (.int x), .val (.long cp), .second, .val (.long rv), .second, .val (.int hz), .val (.int sn), .val (.ref b3), .val (.int (hz / x)), .val (.int (hz % x)), .val (.int ((hz / x) + (1 : Int32)))] [])) (fun tZ kZ => XS.istore X4.here hx rfl (hb hby at_127) rfl (l' := #[.val (.int p1), .val (.int p2), .val (.int p3), .val (.int x), .val (.long cp), .second, .val (.long rv), .second, .val (.int hz), .val (.int sn), .val (.ref b3), .val (.int (hz / x)), .val (.int (hz % x)), .val (.int ((hz / x) + (1 : Int32)))]) rfl kZ) ?_
        refine own_by (S' := T4.setTop (mkF m 131 #[.val (.int p1), .val (.int p2), .val (.int p3), .val (.int x), .val (.long cp), .second, .val (.long rv), .second, .val (.int hz), .val (.int sn), .val (.ref b3), .val (.int (hz / x)), .val (.int (hz % x)), .val (.int ((hz / x) + (1 : Int32)))] [(.ref b3)])) (fun tZ kZ => XS.aload X4.here hx rfl (hb hby at_129) rfl rfl kZ) ?_
        obtain ⟨cq6, kq6, q6a, q6b, q6c⟩ := isOf hZ4 rfl qe4
        obtain ⟨_, _, ⟨T6, L6, k6, n6⟩, -, X6, ⟨Lc6, hQ6, l6, y6, z6⟩, st6⟩ := X4.virtualBack hx (y := (⟨"com/example/tidewatch/tidewatch/core/TidewatchPolicy$Settings", "horizonIntervals", "()I"⟩ : MethodName)) (z := (⟨"com/example/tidewatch/tidewatch/core/TidewatchPolicy$Settings", "horizonIntervals", "()I"⟩ : MethodName)) hown4 (mvT hZ4 (hw_ hw 266 rfl)) (mvT hZ4 (hw_ hw 267 rfl)) (notFace_of_selects (args := #[]) (mvT hZ4 (hw_ hw 269 rfl))) (mvT hZ4 (hw_ hw 269 rfl)) (mvT hZ4 (hw_ hw 268 rfl)) (by decide) (backOf (W := 0) (rmHz l Z a0 hw [] b3 x hz T4.heap n0 Zs4 hx1 qi4 qh4) hZ4 (hw_ hw 270 rfl) (hw_ hw 12 rfl) (by decide) (by decide)) q6a q6c (g := (mkF m 131 #[.val (.int p1), .val (.int p2), .val (.int p3), .val (.int x), .val (.long cp), .second, .val (.long rv), .second, .val (.int hz), .val (.int sn), .val (.ref b3), .val (.int (hz / x)), .val (.int (hz % x)), .val (.int ((hz / x) + (1 : Int32)))] [(.ref b3)])) rfl (by rw [hml]; rfl) (Steps.refl _) (argsL := []) (rest := []) (lenOf pd_10 rfl) rfl (by show 2 * 0 + _ ≤ _; exact Nat.le_of_eq rfl) (hb hby at_131) (fun _ _ => ⟨rfl, rfl, (by decide : 26 + 0 ≤ _), (by decide : 662 + 0 ≤ _)⟩)
        dsimp only [Pt.U, Pt.locs, Pt.cells, Pt.slots] at X6 l6 y6 z6 st6 hQ6
        subst l6 y6 z6
        obtain ⟨rfl, N6q, heq6⟩ := hQ6
        have N6 := Fr.app N4 N6q
        refine own_by (S' := T6.setTop (mkF m 134 #[.val (.int p1), .val (.int p2), .val (.int p3), .val (.int x), .val (.long cp), .second, .val (.long rv), .second, .val (.int hz), .val (.int sn), .val (.ref b3), .val (.int (hz / x)), .val (.int (hz % x)), .val (.int ((hz / x) + (1 : Int32)))] [(.int ((((hz.toInt64 + x.toInt64) - (1 : Int64)) / x.toInt64).toInt32))])) (fun tZ kZ => st6.trans kZ) ?_
        refine own_by (S' := T6.setTop (mkF m 136 #[.val (.int p1), .val (.int p2), .val (.int p3), .val (.int x), .val (.long cp), .second, .val (.long rv), .second, .val (.int hz), .val (.int sn), .val (.ref b3), .val (.int (hz / x)), .val (.int (hz % x)), .val (.int ((hz / x) + (1 : Int32)))] [(.int ((hz / x) + (1 : Int32))), (.int ((((hz.toInt64 + x.toInt64) - (1 : Int64)) / x.toInt64).toInt32))])) (fun tZ kZ => XS.iload X6.here hx rfl (hb hby at_134) rfl kZ) ?_
        refine own_by (S' := T6.setTop (mkF m 139 #[.val (.int p1), .val (.int p2), .val (.int p3), .val (.int x), .val (.long cp), .second, .val (.long rv), .second, .val (.int hz), .val (.int sn), .val (.ref b3), .val (.int (hz / x)), .val (.int (hz % x)), .val (.int ((hz / x) + (1 : Int32)))] [])) (fun tZ kZ => XS.icmpNo X6.here hx rfl (hb hby at_136) rfl (teq fin).2 kZ) ?_
        refine own_by (S' := T6.setTop (mkF m 140 #[.val (.int p1), .val (.int p2), .val (.int p3), .val (.int x), .val (.long cp), .second, .val (.long rv), .second, .val (.int hz), .val (.int sn), .val (.ref b3), .val (.int (hz / x)), .val (.int (hz % x)), .val (.int ((hz / x) + (1 : Int32)))] [(.int (1 : Int32))])) (fun tZ kZ => XS.iconst X6.here hx rfl (hb hby at_139) kZ) ?_
        refine own_by (S' := T6.setTop (mkF m 144 #[.val (.int p1), .val (.int p2), .val (.int p3), .val (.int x), .val (.long cp), .second, .val (.long rv), .second, .val (.int hz), .val (.int sn), .val (.ref b3), .val (.int (hz / x)), .val (.int (hz % x)), .val (.int ((hz / x) + (1 : Int32)))] [(.int (1 : Int32))])) (fun tZ kZ => XS.goto X6.here hx rfl (pc0 := 140) (pc' := 144) rfl (hb hby at_140) (by decide) (by decide) kZ) ?_
        exact own_retWI X6 hS4 (by rw [heq6]; exact (Nat.le_refl _)) hx (t := .boolean) Bd.returns (by simp) rfl (hb hby at_144) Bd.notSynchronized (by decide) (by decide) ⟨rfl, N6⟩
    by_cases hb2 : (p3 &&& (2 : Int32)) = (0 : Int32)
    · refine own_by (S' := T1.setTop (mkF m 53 #[.val (.int p1), .val (.int p2), .val (.int p3), .val (.int x), .val (.long cp), .second, .unset, .unset, .unset, .unset, .unset, .unset, .unset, .unset] [])) (fun tZ kZ => XS.ifYes X1.here hx rfl (pc0 := 42) (pc' := 53) rfl (hb hby at_42) rfl ((if0 _ _).trans (teq hb2).1) (by decide) (by decide) kZ) ?_
      refine own_by (S' := T1.setTop (mkF m 54 #[.val (.int p1), .val (.int p2), .val (.int p3), .val (.int x), .val (.long cp), .second, .unset, .unset, .unset, .unset, .unset, .unset, .unset, .unset] [(.int p2)])) (fun tZ kZ => XS.iloadN X1.here hx rfl (hb hby at_53) rfl kZ) ?_
      refine own_by (S' := T1.setTop (mkF m 56 #[.val (.int p1), .val (.int p2), .val (.int p3), .val (.int x), .val (.long cp), .second, .unset, .unset, .unset, .unset, .unset, .unset, .unset, .unset] [(.int (2147483647 : Int32)), (.int p2)])) (fun tZ kZ => X1.ldcInt hx hown0 (mvT hZ0 (hw_ hw 0 rfl)) (g := (mkF m 54 #[.val (.int p1), .val (.int p2), .val (.int p3), .val (.int x), .val (.long cp), .second, .unset, .unset, .unset, .unset, .unset, .unset, .unset, .unset] [(.int p2)])) rfl (hb hby at_54) _ kZ) ?_
      refine own_by (S' := T1.setTop (mkF m 57 #[.val (.int p1), .val (.int p2), .val (.int p3), .val (.int x), .val (.long cp), .second, .unset, .unset, .unset, .unset, .unset, .unset, .unset, .unset] [(.int (p2 &&& (2147483647 : Int32)))])) (fun tZ kZ => XS.iand X1.here hx rfl (hb hby at_56) rfl kZ) ?_
      refine own_by (S' := T1.setTop (mkF m 58 #[.val (.int p1), .val (.int p2), .val (.int p3), .val (.int x), .val (.long cp), .second, .unset, .unset, .unset, .unset, .unset, .unset, .unset, .unset] [(.long ((p2 &&& (2147483647 : Int32)).toInt64))])) (fun tZ kZ => XS.i2l X1.here hx rfl (hb hby at_57) rfl kZ) ?_
      exact J58 _ (own_rw2 p2)
    · refine own_by (S' := T1.setTop (mkF m 45 #[.val (.int p1), .val (.int p2), .val (.int p3), .val (.int x), .val (.long cp), .second, .unset, .unset, .unset, .unset, .unset, .unset, .unset, .unset] [])) (fun tZ kZ => XS.ifNo X1.here hx rfl (hb hby at_42) rfl ((if0 _ _).trans (feq hb2).1) kZ) ?_
      refine own_by (S' := T1.setTop (mkF m 46 #[.val (.int p1), .val (.int p2), .val (.int p3), .val (.int x), .val (.long cp), .second, .unset, .unset, .unset, .unset, .unset, .unset, .unset, .unset] [(.int p2)])) (fun tZ kZ => XS.iloadN X1.here hx rfl (hb hby at_45) rfl kZ) ?_
      refine own_by (S' := T1.setTop (mkF m 48 #[.val (.int p1), .val (.int p2), .val (.int p3), .val (.int x), .val (.long cp), .second, .unset, .unset, .unset, .unset, .unset, .unset, .unset, .unset] [(.int (63 : Int32)), (.int p2)])) (fun tZ kZ => XS.bipush X1.here hx rfl (hb hby at_46) kZ) ?_
      refine own_by (S' := T1.setTop (mkF m 49 #[.val (.int p1), .val (.int p2), .val (.int p3), .val (.int x), .val (.long cp), .second, .unset, .unset, .unset, .unset, .unset, .unset, .unset, .unset] [(.int (p2 &&& (63 : Int32)))])) (fun tZ kZ => XS.iand X1.here hx rfl (hb hby at_48) rfl kZ) ?_
      refine own_by (S' := T1.setTop (mkF m 50 #[.val (.int p1), .val (.int p2), .val (.int p3), .val (.int x), .val (.long cp), .second, .unset, .unset, .unset, .unset, .unset, .unset, .unset, .unset] [(.long ((p2 &&& (63 : Int32)).toInt64))])) (fun tZ kZ => XS.i2l X1.here hx rfl (hb hby at_49) rfl kZ) ?_
      refine own_by (S' := T1.setTop (mkF m 58 #[.val (.int p1), .val (.int p2), .val (.int p3), .val (.int x), .val (.long cp), .second, .unset, .unset, .unset, .unset, .unset, .unset, .unset, .unset] [(.long ((p2 &&& (63 : Int32)).toInt64))])) (fun tZ kZ => XS.goto X1.here hx rfl (pc0 := 50) (pc' := 58) rfl (hb hby at_50) (by decide) (by decide) kZ) ?_
      exact J58 _ (own_rw1 p2)
  by_cases hb1 : (p3 &&& (1 : Int32)) = (0 : Int32)
  · refine own_by (S' := s₁.setTop (mkF m 15 #[.val (.int p1), .val (.int p2), .val (.int p3), .unset, .unset, .unset, .unset, .unset, .unset, .unset, .unset, .unset, .unset, .unset] [])) (fun tZ kZ => XS.ifYes X0.here hx rfl (pc0 := 3) (pc' := 15) rfl (hb hby at_3) rfl ((if0 _ _).trans (teq hb1).1) (by decide) (by decide) kZ) ?_
    refine own_by (S' := s₁.setTop (mkF m 16 #[.val (.int p1), .val (.int p2), .val (.int p3), .unset, .unset, .unset, .unset, .unset, .unset, .unset, .unset, .unset, .unset, .unset] [(.int (1 : Int32))])) (fun tZ kZ => XS.iconst X0.here hx rfl (hb hby at_15) kZ) ?_
    refine own_by (S' := s₁.setTop (mkF m 17 #[.val (.int p1), .val (.int p2), .val (.int p3), .unset, .unset, .unset, .unset, .unset, .unset, .unset, .unset, .unset, .unset, .unset] [(.int p1), (.int (1 : Int32))])) (fun tZ kZ => XS.iloadN X0.here hx rfl (hb hby at_16) rfl kZ) ?_
    refine own_by (S' := s₁.setTop (mkF m 19 #[.val (.int p1), .val (.int p2), .val (.int p3), .unset, .unset, .unset, .unset, .unset, .unset, .unset, .unset, .unset, .unset, .unset] [(.int (2147483647 : Int32)), (.int p1), (.int (1 : Int32))])) (fun tZ kZ => X0.ldcInt hx hown0 (mvT hZ0 (hw_ hw 0 rfl)) (g := (mkF m 17 #[.val (.int p1), .val (.int p2), .val (.int p3), .unset, .unset, .unset, .unset, .unset, .unset, .unset, .unset, .unset, .unset, .unset] [(.int p1), (.int (1 : Int32))])) rfl (hb hby at_17) _ kZ) ?_
    refine own_by (S' := s₁.setTop (mkF m 20 #[.val (.int p1), .val (.int p2), .val (.int p3), .unset, .unset, .unset, .unset, .unset, .unset, .unset, .unset, .unset, .unset, .unset] [(.int (p1 &&& (2147483647 : Int32))), (.int (1 : Int32))])) (fun tZ kZ => XS.iand X0.here hx rfl (hb hby at_19) rfl kZ) ?_
    refine own_by (S' := s₁.setTop (mkF m 22 #[.val (.int p1), .val (.int p2), .val (.int p3), .unset, .unset, .unset, .unset, .unset, .unset, .unset, .unset, .unset, .unset, .unset] [(.int (2147483647 : Int32)), (.int (p1 &&& (2147483647 : Int32))), (.int (1 : Int32))])) (fun tZ kZ => X0.ldcInt hx hown0 (mvT hZ0 (hw_ hw 0 rfl)) (g := (mkF m 20 #[.val (.int p1), .val (.int p2), .val (.int p3), .unset, .unset, .unset, .unset, .unset, .unset, .unset, .unset, .unset, .unset, .unset] [(.int (p1 &&& (2147483647 : Int32))), (.int (1 : Int32))])) rfl (hb hby at_20) _ kZ) ?_
    refine own_by (S' := s₁.setTop (mkF m 23 #[.val (.int p1), .val (.int p2), .val (.int p3), .unset, .unset, .unset, .unset, .unset, .unset, .unset, .unset, .unset, .unset, .unset] [(.int ((p1 &&& (2147483647 : Int32)) % (2147483647 : Int32))), (.int (1 : Int32))])) (fun tZ kZ => Jvm.RoadKit.iremM X0 hx rfl (hb hby at_22) rfl (by decide) kZ) ?_
    refine own_by (S' := s₁.setTop (mkF m 24 #[.val (.int p1), .val (.int p2), .val (.int p3), .unset, .unset, .unset, .unset, .unset, .unset, .unset, .unset, .unset, .unset, .unset] [(.int ((1 : Int32) + ((p1 &&& (2147483647 : Int32)) % (2147483647 : Int32))))])) (fun tZ kZ => XS.iadd X0.here hx rfl (hb hby at_23) rfl kZ) ?_
    exact J24 _ (own_x2 p1)
  · refine own_by (S' := s₁.setTop (mkF m 6 #[.val (.int p1), .val (.int p2), .val (.int p3), .unset, .unset, .unset, .unset, .unset, .unset, .unset, .unset, .unset, .unset, .unset] [])) (fun tZ kZ => XS.ifNo X0.here hx rfl (hb hby at_3) rfl ((if0 _ _).trans (feq hb1).1) kZ) ?_
    refine own_by (S' := s₁.setTop (mkF m 7 #[.val (.int p1), .val (.int p2), .val (.int p3), .unset, .unset, .unset, .unset, .unset, .unset, .unset, .unset, .unset, .unset, .unset] [(.int (1 : Int32))])) (fun tZ kZ => XS.iconst X0.here hx rfl (hb hby at_6) kZ) ?_
    refine own_by (S' := s₁.setTop (mkF m 8 #[.val (.int p1), .val (.int p2), .val (.int p3), .unset, .unset, .unset, .unset, .unset, .unset, .unset, .unset, .unset, .unset, .unset] [(.int p1), (.int (1 : Int32))])) (fun tZ kZ => XS.iloadN X0.here hx rfl (hb hby at_7) rfl kZ) ?_
    refine own_by (S' := s₁.setTop (mkF m 10 #[.val (.int p1), .val (.int p2), .val (.int p3), .unset, .unset, .unset, .unset, .unset, .unset, .unset, .unset, .unset, .unset, .unset] [(.int (15 : Int32)), (.int p1), (.int (1 : Int32))])) (fun tZ kZ => XS.bipush X0.here hx rfl (hb hby at_8) kZ) ?_
    refine own_by (S' := s₁.setTop (mkF m 11 #[.val (.int p1), .val (.int p2), .val (.int p3), .unset, .unset, .unset, .unset, .unset, .unset, .unset, .unset, .unset, .unset, .unset] [(.int (p1 &&& (15 : Int32))), (.int (1 : Int32))])) (fun tZ kZ => XS.iand X0.here hx rfl (hb hby at_10) rfl kZ) ?_
    refine own_by (S' := s₁.setTop (mkF m 12 #[.val (.int p1), .val (.int p2), .val (.int p3), .unset, .unset, .unset, .unset, .unset, .unset, .unset, .unset, .unset, .unset, .unset] [(.int ((1 : Int32) + (p1 &&& (15 : Int32))))])) (fun tZ kZ => XS.iadd X0.here hx rfl (hb hby at_11) rfl kZ) ?_
    refine own_by (S' := s₁.setTop (mkF m 24 #[.val (.int p1), .val (.int p2), .val (.int p3), .unset, .unset, .unset, .unset, .unset, .unset, .unset, .unset, .unset, .unset, .unset] [(.int ((1 : Int32) + (p1 &&& (15 : Int32))))])) (fun tZ kZ => XS.goto X0.here hx rfl (pc0 := 12) (pc' := 24) rfl (hb hby at_12) (by decide) (by decide) kZ) ?_
    exact J24 _ (own_x1 p1)
theorem own_dig {s : State} {args : Array Value} {u : Term} {a : Addr} {c : Cell} (hf : Fit s) (ev : u.eval args s none [] s = some (.ref a)) (A : Arr s s.heap a c .byte) (hl : (Jvm.Cond.eq (.length u) (.int 100)).value args s none s [] = some true) : c.slots.size = 100 ∧ ∀ k : Nat, k < 100 → ∃ z : Int32, c.slots[k]? = some (.int z) := by
  have h1 : c.slots.size = 100 := own_size ev A hl
  refine ⟨h1, fun k hk => ?_⟩
  have hj : (Int32.ofNat k).toInt = (k : Nat) := Int32.toInt_ofNat_of_lt (by omega)
  obtain ⟨v, h2, h3⟩ := elem_fit (j := Int32.ofNat k) hf A (by
    rintro (q | q)
    · exact own_nneg hj q
    · rw [own_tnc hj] at q; omega)
  rw [own_tnc hj] at h2
  cases v <;> first | exact ⟨_, h2⟩ | (simp [fits] at h3)
theorem own_arrx {s : State} {args a0 : Array Value} {u : Term} {a : Addr} {k : Int32} (ev : u.eval args s none [] s = some (.ref a)) (h : (Jvm.Cond.exactly u "[B").value args s none s [] = some true) (hl : (Jvm.Cond.eq (.length u) (.int k)).value args s none s [] = some true) (w : (Jvm.Cond.arrayClass .byte).before a0 s = true) : ∃ c, Arr s s.heap a c .byte := by
  obtain ⟨cell, k, h1, h2, h3, h4, h5⟩ := Exa.start ev h
  obtain ⟨c2, k2, comp, q1, q2, q3⟩ := Cond.arrayClass_spec w
  have q4 : s.vm.findClass "[B" = some c2 := q1
  cases h2.symm.trans q4
  have h6 := own_eqI hl
  cases hA : s.arrayAt? a with
  | none => simp [Term.eval, ev, hA] at h6
  | some c =>
    have h7 : c = cell ∧ c.vm ≠ .unknown := by
      simp only [State.arrayAt?, h1, h3, Option.bind_eq_bind, Option.bind_some] at hA
      split at hA
      · cases hA
      · rename_i hu
        split at hA
        · cases hA; exact ⟨rfl, fun q => hu (Or.inl q)⟩
        · cases hA
    refine ⟨cell, h1, ⟨fun z q => (by rw [q] at h4; cases h4), k2, q2, comp, q3⟩, by rw [← h7.1]; exact h7.2⟩
set_option maxRecDepth 65536 in
set_option maxHeartbeats 40000000 in
theorem comes_1 {Post : Tables → Env → Array Value → State → Outcome → State → Prop} (hpost : ∀ tb e args s v u, (limb_1_1.after args s (.returned v) u = true ∧ limb_1_2.after args s (.returned v) u = true ∧ True) → FramedW s (.returned v) u (Jvm.fieldLocs frame_1_writes args s ++ Jvm.arrayLocs frame_1_arrays args s ++ Jvm.staticLocs frame_1_statics s) 40 10496 → Post tb e args s (.returned v) u) :
    ArmFor flags0 classFile x code maxLocals ret World_1 tables_1 room_1 Calls_1 rest_1 Pre_1 Post := by
  intro l hfl _ _ p e ha hc hk s m args below hf hA hF happ hP
  obtain ⟨hcalls, hrest, hpre⟩ := hP
  obtain ⟨-, -, -, hnamed, -, -, -, hat⟩ := (Spec.applies_iff hf).mp happ
  obtain ⟨hg, hn⟩ := and_e (Cond.before_iff.mp (show (Jvm.Cond.and given_1 narrow_1).before args s = true from hpre))
  obtain ⟨gc, gr0⟩ := and_e hg
  obtain ⟨ga0, gr1⟩ := and_e gr0
  obtain ⟨ga1, gr2⟩ := and_e gr1
  obtain ⟨w0, w1, w2, rfl⟩ : ∃ w0 w1 w2 : Value, args = #[w0, w1, w2] := by
    have hs : args.size = 3 := by simpa [Cond.value, given_1] using gc
    obtain ⟨L⟩ := args
    match L, hs with
    | [w0, w1, w2], _ => exact ⟨w0, w1, w2, rfl⟩
  have hw := fun d (hd : d ∈ tables_1) => atoms_spec (ws := Jvm.Cond.code x code maxLocals ret :: tables_1) hat d (List.mem_cons_of_mem _ hd)
  have hfit : Fit s := fun {y c} hc i hi => by
    obtain ⟨ha, rfl⟩ := Array.getElem?_eq_some_iff.mp hc
    have q := List.all_eq_true.mp ((Array.all_eq_true_iff_forall_mem.mp hF) _ (Array.getElem_mem ha)) i (List.mem_range.mpr hi)
    simpa [Array.getElem?_eq_getElem hi] using q
  obtain ⟨hsets, hown0⟩ := atoms_of _ (rest_1_c_eq ▸ (show rest_1_c.before _ s = true from hrest))
  have hr0 := Cond.before_iff.mp hown0
  obtain ⟨i0, ei0⟩ := is_v ga0
  obtain rfl : w0 = (.int i0) := Option.some.inj ei0
  obtain ⟨i1, ei1⟩ := is_v ga1
  obtain rfl : w1 = (.int i1) := Option.some.inj ei1
  obtain ⟨i2, ei2⟩ := is_v gr2
  obtain rfl : w2 = (.int i2) := Option.some.inj ei2
  obtain ⟨cz, ecz⟩ := is_v (Cond.before_iff.mp (hsets _ (List.mem_of_getElem? (i := 1) rfl)))
  have Sc : Sta s s.heap "java/lang/String" "COMPACT_STRINGS" "Z" (.int cz) := Sta.start ecz (Or.inl (hsets _ (List.mem_of_getElem? (i := 0) rfl)))
  have hcz : ¬ cz = 0 := own_ne ecz (Cond.before_iff.mp (hsets _ (List.mem_of_getElem? (i := 2) rfl)))
  have hcw : Jvm.Lit.compactW.before #[.int i0, .int i1, .int i2] s = true := (hsets _ (List.mem_of_getElem? (i := 2) rfl))
  obtain ⟨do_, edo_⟩ := exa_v (Cond.before_iff.mp (hsets _ (List.mem_of_getElem? (i := 12) rfl)))
  have S_do_ : Sta s s.heap "java/lang/Integer" "DigitOnes" "[B" (.ref do_) := Sta.start edo_ (Or.inl (hsets _ (List.mem_of_getElem? (i := 11) rfl)))
  obtain ⟨c_do_, A_do_⟩ := own_arrx edo_ (Cond.before_iff.mp (hsets _ (List.mem_of_getElem? (i := 12) rfl))) (Cond.before_iff.mp (hsets _ (List.mem_of_getElem? (i := 13) rfl))) (hw_ hw 63 rfl)
  obtain ⟨z_do_, d_do_⟩ := own_dig hfit edo_ A_do_ (Cond.before_iff.mp (hsets _ (List.mem_of_getElem? (i := 13) rfl)))
  obtain ⟨dt, edt⟩ := exa_v (Cond.before_iff.mp (hsets _ (List.mem_of_getElem? (i := 17) rfl)))
  have S_dt : Sta s s.heap "java/lang/Integer" "DigitTens" "[B" (.ref dt) := Sta.start edt (Or.inl (hsets _ (List.mem_of_getElem? (i := 16) rfl)))
  obtain ⟨c_dt, A_dt⟩ := own_arrx edt (Cond.before_iff.mp (hsets _ (List.mem_of_getElem? (i := 17) rfl))) (Cond.before_iff.mp (hsets _ (List.mem_of_getElem? (i := 18) rfl))) (hw_ hw 63 rfl)
  obtain ⟨z_dt, d_dt⟩ := own_dig hfit edt A_dt (Cond.before_iff.mp (hsets _ (List.mem_of_getElem? (i := 18) rfl)))
  have HC : ∀ q ∈ consts_1, Jvm.Lit.constHeld s q.1 q.2 := hcalls.1
  obtain ⟨n, o, h1, h2, h3, _, L, rfl, ⟨rfl, N⟩, hq⟩ := rm0 l s _ hw tables_1 i0 i1 i2 cz do_ dt c_do_ c_dt s.heap s.heap.size (Nat.le_refl _) ⟨Nat.le_refl _, fun _ _ q => q⟩ HC hcw Sc hcz S_do_ A_do_ z_do_ d_do_ S_dt A_dt z_dt d_dt (Nat.le_refl _) p e ha hc hk s m _ below hf ((Spec.applies_iff_loose hf).mp happ).1 ⟨rfl, rfl, rfl⟩ trivial
  refine ⟨n, _, h1, h2, h3, hpost _ _ _ _ _ _ ⟨Cond.after_iff.mpr rfl, Cond.after_iff.mpr (eq_i res_at (Term.int_eval (1)) rfl), trivial⟩ ⟨hq.1, hq.2.1, hq.2.2.1, (hq.2.2.2.sift fun y hy => Or.inr (N y hy)).mono (by decide) (by decide)⟩⟩
theorem main_1_1 : Claimed_1_1 := comes_1 fun _ _ _ _ _ _ h hF => ⟨h.1, hF⟩
theorem main_1_2 : Claimed_1_2 := comes_1 fun _ _ _ _ _ _ h hF => ⟨h.2.1, hF⟩

end Jvm.Pilot.@@N@@
namespace Jvm.Pilot.@@N@@
open Jvm Jvm.ClassFile Sem Op Lib Jvm.Free Jvm.Stand Jvm.Pilot.@@N@@.Jvm.D
/-! MADE BY PROGRAM (witnessworld.py) out of the Statement's table words and the real class files: 33 classes; the members and pool entries that the words name. The judged class is class 1, her method 1. -/
namespace start1
open Jvm.ClassFile
def u (s : String) : CpInfo := .utf8 (stringToUtf16 s)
/-- a pool by its gaps: so many unusable entries, then the entry; so many at the end -/
def gap : Nat → List CpInfo → List CpInfo
  | 0, r => r
  | n + 1, r => .unusable :: gap n r
def poolList (es : List (Nat × CpInfo)) (last : Nat) : List CpInfo := es.foldr (fun e r => gap e.1 (e.2 :: r)) (gap last [])
def pool (es : List (Nat × CpInfo)) (last : Nat) : Array CpInfo := ⟨poolList es last⟩
def fileOf (pool : Array CpInfo) (this : Nat) (attrs : Array Attribute := #[]) (ms : Array MethodInfo := #[]) (fl : Nat := 33) (sup : Nat := 0) (ifs : Array Nat := #[]) (fds : Array FieldInfo := #[]) : ClassFile where
  minorVersion := 0
  majorVersion := 65
  constantPool := pool
  accessFlags := fl
  thisClass := this
  superClass := sup
  interfaces := ifs
  fields := fds
  methods := ms
  attributes := attrs
def plain (name : String) (sup : Option ClassId) : Class where
  name := name
  kind := .ordinary
  loader := none
  accessFlags := 33
  super := sup
  interfaces := #[]
  cf := none
  fields := #[]
  methods := #[]
  instanceTypes := #[]
  staticTypes := #[]
  resolved := #[]
  callSites := []
  init := .initialized
  statics := none
  mirror := none

def pool0 : Array CpInfo := pool [(5, u "<init>"), (0, u "()V"), (1, .class_ 10), (1, u "java/lang/Object")] 113

def k0c0 : Code := { maxStack := 0, maxLocals := 1, code := object_method_1_code, exceptionTable := #[], attributes := #[] }
def k0m0 : Method := { name := "<init>", desc := "()V", sig := { parameters := [], returnType := none }, accessFlags := 1, code := some k0c0 }
/-- java/lang/Object -/
def k0 : Class := { plain "java/lang/Object" none with
  accessFlags := 33
  interfaces := #[]
  cf := some (fileOf pool0 8 #[] #[{ accessFlags := 1, nameIndex := 5, descriptorIndex := 6, attributes := #[] }] 33 0 #[] #[])
  fields := #[]
  methods := #[k0m0]
  instanceTypes := #[]
  staticTypes := #[]
  resolved := Array.replicate 124 none
  statics := none }

def pool1 : Array CpInfo := pool [(2, .class_ 4), (1, u "java/lang/Object"), (0, u "<init>"), (0, u "()V"), (0, .integer 2147483647), (0, .long 2147483647), (1, .long 1000000), (1, .methodref 13 14), (0, .class_ 15), (0, .nameAndType 16 17), (0, u "java/lang/Math"), (0, u "min"), (0, u "(JJ)J"), (0, .methodref 13 19), (0, .nameAndType 20 21), (0, u "max"), (0, u "(II)I"), (0, .class_ 23), (0, u "com/example/tidewatch/tidewatch/core/TidewatchPolicy$Settings"), (0, .methodref 22 25), (0, .nameAndType 5 26), (0, u "(DIDDDDDDDIII)V"), (0, .methodref 22 28), (0, .nameAndType 29 30), (0, u "horizonIntervals"), (0, u "()I"), (0, .class_ 32), (0, u "com/example/tidewatch/tidewatch/core/SettingsHorizonIntervalsPinLaw"), (2, u "law"), (0, u "(III)Z")] 7

def k1m0 : Method := { name := "<init>", desc := "()V", sig := { parameters := [], returnType := none }, accessFlags := 1, code := none }
def k1c1 : Code := { maxStack := 22, maxLocals := 14, code := code, exceptionTable := #[], attributes := #[] }
def k1m1 : Method := { name := "law", desc := "(III)Z", sig := { parameters := [.int, .int, .int], returnType := some .boolean }, accessFlags := 9, code := some k1c1 }
/-- com/example/tidewatch/tidewatch/core/SettingsHorizonIntervalsPinLaw -/
def k1 : Class := { plain "com/example/tidewatch/tidewatch/core/SettingsHorizonIntervalsPinLaw" (some 0) with
  accessFlags := 49
  interfaces := #[]
  cf := some (fileOf pool1 31 #[] #[{ accessFlags := 1, nameIndex := 5, descriptorIndex := 6, attributes := #[] }, { accessFlags := 9, nameIndex := 35, descriptorIndex := 36, attributes := #[] }] 49 2 #[] #[])
  fields := #[]
  methods := #[k1m0, k1m1]
  instanceTypes := #[]
  staticTypes := #[]
  resolved := Array.replicate 44 none
  statics := none }

def pool2 : Array CpInfo := pool [(1, .class_ 2), (0, u "java/lang/Math"), (1, .class_ 6), (1, u "java/lang/Object"), (0, u "<init>"), (0, u "()V"), (5, u "(D)D"), (83, .class_ 100), (1, u "java/lang/Math$RandomNumberGeneratorHolder"), (20, u "(JJ)J"), (2, u "abs"), (47, u "negativeZeroFloatBits"), (0, u "J"), (2, u "negativeZeroDoubleBits"), (21, u "max"), (2, u "min"), (43, u "$assertionsDisabled"), (0, u "Z"), (88, u "(II)I"), (2, u "twoToTheDoubleScaleDown"), (0, u "D"), (4, u "twoToTheDoubleScaleUp"), (9, u "E"), (3, u "PI"), (2, u "TAU"), (2, u "DEGREES_TO_RADIANS"), (0, u "RADIANS_TO_DEGREES")] 94

def k2m0 : Method := { name := "<init>", desc := "()V", sig := { parameters := [], returnType := none }, accessFlags := 2, code := none }
def k2c1 : Code := { maxStack := 4, maxLocals := 2, code := jdk_29_method_64_code, exceptionTable := #[], attributes := #[] }
def k2m1 : Method := { name := "abs", desc := "(D)D", sig := { parameters := [.double], returnType := some .double }, accessFlags := 9, code := some k2c1 }
def k2c2 : Code := { maxStack := 2, maxLocals := 2, code := jdk_29_method_65_code, exceptionTable := #[], attributes := #[] }
def k2m2 : Method := { name := "max", desc := "(II)I", sig := { parameters := [.int, .int], returnType := some .int }, accessFlags := 9, code := some k2c2 }
def k2c3 : Code := { maxStack := 2, maxLocals := 2, code := jdk_29_method_69_code, exceptionTable := #[], attributes := #[] }
def k2m3 : Method := { name := "min", desc := "(II)I", sig := { parameters := [.int, .int], returnType := some .int }, accessFlags := 9, code := some k2c3 }
def k2c4 : Code := { maxStack := 4, maxLocals := 4, code := jdk_29_method_70_code, exceptionTable := #[], attributes := #[] }
def k2m4 : Method := { name := "min", desc := "(JJ)J", sig := { parameters := [.long, .long], returnType := some .long }, accessFlags := 9, code := some k2c4 }
/-- java/lang/Math -/
def k2 : Class := { plain "java/lang/Math" (some 0) with
  accessFlags := 49
  interfaces := #[]
  cf := some (fileOf pool2 1 #[.nestMembers #[98]] #[{ accessFlags := 2, nameIndex := 7, descriptorIndex := 8, attributes := #[] }, { accessFlags := 9, nameIndex := 124, descriptorIndex := 14, attributes := #[] }, { accessFlags := 9, nameIndex := 198, descriptorIndex := 335, attributes := #[] }, { accessFlags := 9, nameIndex := 201, descriptorIndex := 335, attributes := #[] }, { accessFlags := 9, nameIndex := 201, descriptorIndex := 121, attributes := #[] }] 49 4 #[] #[{ accessFlags := 25, nameIndex := 354, descriptorIndex := 339, attributes := #[] }, { accessFlags := 25, nameIndex := 358, descriptorIndex := 339, attributes := #[] }, { accessFlags := 25, nameIndex := 361, descriptorIndex := 339, attributes := #[] }, { accessFlags := 26, nameIndex := 364, descriptorIndex := 339, attributes := #[] }, { accessFlags := 26, nameIndex := 365, descriptorIndex := 339, attributes := #[] }, { accessFlags := 26, nameIndex := 172, descriptorIndex := 173, attributes := #[] }, { accessFlags := 26, nameIndex := 176, descriptorIndex := 173, attributes := #[] }, { accessFlags := 8, nameIndex := 344, descriptorIndex := 339, attributes := #[] }, { accessFlags := 8, nameIndex := 338, descriptorIndex := 339, attributes := #[] }, { accessFlags := 4120, nameIndex := 245, descriptorIndex := 246, attributes := #[] }])
  fields := #[{ name := "E", type := .double, accessFlags := 25, slot := 0, constantValue := 0 }, { name := "PI", type := .double, accessFlags := 25, slot := 1, constantValue := 0 }, { name := "TAU", type := .double, accessFlags := 25, slot := 2, constantValue := 0 }, { name := "DEGREES_TO_RADIANS", type := .double, accessFlags := 26, slot := 3, constantValue := 0 }, { name := "RADIANS_TO_DEGREES", type := .double, accessFlags := 26, slot := 4, constantValue := 0 }, { name := "negativeZeroFloatBits", type := .long, accessFlags := 26, slot := 5, constantValue := 0 }, { name := "negativeZeroDoubleBits", type := .long, accessFlags := 26, slot := 6, constantValue := 0 }, { name := "twoToTheDoubleScaleUp", type := .double, accessFlags := 8, slot := 7, constantValue := 0 }, { name := "twoToTheDoubleScaleDown", type := .double, accessFlags := 8, slot := 8, constantValue := 0 }, { name := "$assertionsDisabled", type := .boolean, accessFlags := 4120, slot := 9, constantValue := 0 }]
  methods := #[k2m0, k2m1, k2m2, k2m3, k2m4]
  instanceTypes := #[]
  staticTypes := #[.double, .double, .double, .double, .double, .long, .long, .double, .double, .boolean]
  resolved := Array.replicate 460 none
  statics := none }

def pool3 : Array CpInfo := pool [(1, .methodref 2 3), (0, .class_ 4), (0, .nameAndType 5 6), (0, u "java/lang/Object"), (0, u "<init>"), (0, u "()V"), (0, .class_ 8), (0, u "java/lang/Record")] 13

def k3c0 : Code := { maxStack := 1, maxLocals := 1, code := jdk_30_method_1_code, exceptionTable := #[], attributes := #[] }
def k3m0 : Method := { name := "<init>", desc := "()V", sig := { parameters := [], returnType := none }, accessFlags := 4, code := some k3c0 }
/-- java/lang/Record -/
def k3 : Class := { plain "java/lang/Record" (some 0) with
  accessFlags := 1057
  interfaces := #[]
  cf := some (fileOf pool3 7 #[] #[{ accessFlags := 4, nameIndex := 5, descriptorIndex := 6, attributes := #[] }] 1057 2 #[] #[])
  fields := #[]
  methods := #[k3m0]
  instanceTypes := #[]
  staticTypes := #[]
  resolved := Array.replicate 22 none
  statics := none }

def pool4 : Array CpInfo := pool [(1, .class_ 2), (0, u "com/example/tidewatch/tidewatch/core/PolicySettings"), (0, .string 4), (0, u "intervalSeconds"), (0, .methodref 6 7), (0, .class_ 8), (0, .nameAndType 9 10), (0, u "com/example/tidewatch/tidewatch/core/SettingChecks"), (0, u "atLeastOne"), (0, u "(Ljava/lang/String;J)V"), (0, .class_ 12), (0, u "java/lang/Object"), (0, u "INTERVAL_SECONDS"), (0, u "Ljava/lang/String;"), (2, u "checkInterval"), (0, u "(I)V")] 6

def k4c0 : Code := { maxStack := 3, maxLocals := 1, code := prog_52_method_2_code, exceptionTable := #[], attributes := #[] }
def k4m0 : Method := { name := "checkInterval", desc := "(I)V", sig := { parameters := [.int], returnType := none }, accessFlags := 9, code := some k4c0 }
/-- com/example/tidewatch/tidewatch/core/PolicySettings -/
def k4 : Class := { plain "com/example/tidewatch/tidewatch/core/PolicySettings" (some 0) with
  accessFlags := 1537
  interfaces := #[]
  cf := some (fileOf pool4 1 #[] #[{ accessFlags := 9, nameIndex := 17, descriptorIndex := 18, attributes := #[] }] 1537 11 #[] #[{ accessFlags := 25, nameIndex := 13, descriptorIndex := 14, attributes := #[] }])
  fields := #[{ name := "INTERVAL_SECONDS", type := (.object "java/lang/String"), accessFlags := 25, slot := 0, constantValue := 0 }]
  methods := #[k4m0]
  instanceTypes := #[]
  staticTypes := #[(.object "java/lang/String")]
  resolved := Array.replicate 25 none
  statics := none }

def pool5 : Array CpInfo := pool [(1, .class_ 2), (0, u "com/example/tidewatch/tidewatch/core/TidewatchPolicy"), (0, .methodref 4 5), (0, .class_ 6), (0, .nameAndType 7 8), (0, u "java/lang/Record"), (0, u "<init>"), (0, u "()V"), (0, .methodref 10 11), (0, .class_ 12), (0, .nameAndType 13 14), (0, u "java/util/OptionalInt"), (0, u "of"), (0, u "(I)Ljava/util/OptionalInt;"), (0, .methodref 16 17), (0, .class_ 18), (0, .nameAndType 19 20), (0, u "com/example/tidewatch/tidewatch/core/TidewatchPolicy$Settings"), (0, u "check"), (0, u "(DLjava/util/OptionalInt;DDDDDDDIII)V"), (0, .fieldref 16 22), (0, .nameAndType 23 24), (0, u "targetUtilization"), (0, u "D"), (0, .fieldref 16 26), (0, .nameAndType 27 28), (0, u "intervalSeconds"), (0, u "I"), (0, .fieldref 16 30), (0, .nameAndType 31 24), (0, u "expectedRestartSeconds"), (0, .fieldref 16 33), (0, .nameAndType 34 24), (0, u "targetRecoverySeconds"), (0, .fieldref 16 36), (0, .nameAndType 37 24), (0, u "holdSeconds"), (0, .fieldref 16 39), (0, .nameAndType 40 24), (0, u "rescaleCost"), (0, .fieldref 16 42), (0, .nameAndType 43 24), (0, u "shortfallCost"), (0, .fieldref 16 45), (0, .nameAndType 46 24), (0, u "underProvisionedCost"), (0, .fieldref 16 48), (0, .nameAndType 49 24), (0, u "forecastMargin"), (0, .fieldref 16 51), (0, .nameAndType 52 28), (0, u "seasonSeconds"), (0, .fieldref 16 54), (0, .nameAndType 55 28), (0, u "shortSeasonSeconds"), (0, .fieldref 16 57), (0, .nameAndType 58 28), (0, u "horizonSeconds"), (4, .methodref 64 65), (0, .class_ 66), (0, .nameAndType 19 67), (0, u "com/example/tidewatch/tidewatch/core/TargetUtilization"), (0, u "(D)V"), (0, .invokeDynamic 0 69), (0, .nameAndType 70 71), (0, u "accept"), (0, u "()Ljava/util/function/IntConsumer;"), (0, .methodref 10 73), (0, .nameAndType 74 75), (0, u "ifPresent"), (0, u "(Ljava/util/function/IntConsumer;)V"), (0, .string 31), (0, .methodref 78 79), (0, .class_ 80), (0, .nameAndType 81 82), (0, u "com/example/tidewatch/tidewatch/core/SettingChecks"), (0, u "finiteAtLeastZero"), (0, u "(Ljava/lang/String;D)V"), (0, .string 34), (0, .methodref 78 85), (0, .nameAndType 86 82), (0, u "finiteAboveZero"), (0, .string 37), (0, .string 40), (0, .string 43), (0, .string 46), (0, .string 49), (0, .methodref 10 93), (0, .nameAndType 94 95), (0, u "isPresent"), (0, u "()Z"), (0, .methodref 10 97), (0, .nameAndType 98 99), (0, u "getAsInt"), (0, u "()I"), (0, .class_ 101), (0, u "java/lang/StringBuilder"), (0, .methodref 100 5), (0, .methodref 100 104), (0, .nameAndType 105 106), (0, u "append"), (0, u "(I)Ljava/lang/StringBuilder;"), (0, .string 108), (0, u " s"), (0, .methodref 100 110), (0, .nameAndType 105 111), (0, u "(Ljava/lang/String;)Ljava/lang/StringBuilder;"), (0, .methodref 100 113), (0, .nameAndType 114 115), (0, u "toString"), (0, u "()Ljava/lang/String;"), (0, .long 1000000), (30, .string 58), (0, .methodref 78 149), (0, .nameAndType 150 151), (0, u "atLeastOne"), (0, u "(Ljava/lang/String;J)V"), (20, .class_ 173), (0, u "com/example/tidewatch/tidewatch/core/PolicySettings"), (0, u "EXPECTED_RESTART_SECONDS"), (0, u "Ljava/lang/String;"), (1, u "TARGET_RECOVERY_SECONDS"), (0, u "HOLD_SECONDS"), (0, u "RESCALE_COST"), (0, u "SHORTFALL_COST"), (0, u "UNDER_PROVISIONED_COST"), (0, u "FORECAST_MARGIN"), (0, u "SEASON_SECONDS"), (0, u "SHORT_SEASON_SECONDS"), (0, u "HORIZON_SECONDS"), (0, u "(DIDDDDDDDIII)V"), (10, u "horizonIntervals"), (9, .methodType 208), (0, u "(I)V"), (0, .methodHandle 6 210), (0, .interfaceMethodref 172 211), (0, .nameAndType 212 208), (0, u "checkInterval"), (14, .methodHandle 6 228), (0, .methodref 229 230), (0, .class_ 231), (0, .nameAndType 232 233), (0, u "java/lang/invoke/LambdaMetafactory"), (0, u "metafactory"), (0, u "(Ljava/lang/invoke/MethodHandles$Lookup;Ljava/lang/String;Ljava/lang/invoke/MethodType;Ljava/lang/invoke/MethodType;Ljava/lang/invoke/MethodHandle;Ljava/lang/invoke/MethodType;)Ljava/lang/invoke/CallSite;")] 14

def k5c0 : Code := { maxStack := 20, maxLocals := 21, code := prog_74_method_1_code, exceptionTable := #[], attributes := #[] }
def k5m0 : Method := { name := "<init>", desc := "(DIDDDDDDDIII)V", sig := { parameters := [.double, .int, .double, .double, .double, .double, .double, .double, .double, .int, .int, .int], returnType := none }, accessFlags := 1, code := some k5c0 }
def k5c1 : Code := { maxStack := 6, maxLocals := 22, code := prog_74_method_3_code, exceptionTable := #[], attributes := #[] }
def k5m1 : Method := { name := "check", desc := "(DLjava/util/OptionalInt;DDDDDDDIII)V", sig := { parameters := [.double, (.object "java/util/OptionalInt"), .double, .double, .double, .double, .double, .double, .double, .int, .int, .int], returnType := none }, accessFlags := 10, code := some k5c1 }
def k5c2 : Code := { maxStack := 4, maxLocals := 1, code := prog_74_method_6_code, exceptionTable := #[], attributes := #[] }
def k5m2 : Method := { name := "horizonIntervals", desc := "()I", sig := { parameters := [], returnType := some .int }, accessFlags := 0, code := some k5c2 }
/-- com/example/tidewatch/tidewatch/core/TidewatchPolicy$Settings -/
def k5 : Class := { plain "com/example/tidewatch/tidewatch/core/TidewatchPolicy$Settings" (some 3) with
  accessFlags := 49
  interfaces := #[4]
  cf := some (fileOf pool5 16 #[.nestHost 1, .bootstrapMethods #[⟨227, #[207, 209, 207]⟩, ⟨0, #[]⟩]] #[{ accessFlags := 1, nameIndex := 7, descriptorIndex := 186, attributes := #[] }, { accessFlags := 10, nameIndex := 19, descriptorIndex := 20, attributes := #[] }, { accessFlags := 0, nameIndex := 197, descriptorIndex := 99, attributes := #[] }] 49 4 #[172] #[{ accessFlags := 18, nameIndex := 23, descriptorIndex := 24, attributes := #[] }, { accessFlags := 18, nameIndex := 27, descriptorIndex := 28, attributes := #[] }, { accessFlags := 18, nameIndex := 31, descriptorIndex := 24, attributes := #[] }, { accessFlags := 18, nameIndex := 34, descriptorIndex := 24, attributes := #[] }, { accessFlags := 18, nameIndex := 37, descriptorIndex := 24, attributes := #[] }, { accessFlags := 18, nameIndex := 40, descriptorIndex := 24, attributes := #[] }, { accessFlags := 18, nameIndex := 43, descriptorIndex := 24, attributes := #[] }, { accessFlags := 18, nameIndex := 46, descriptorIndex := 24, attributes := #[] }, { accessFlags := 18, nameIndex := 49, descriptorIndex := 24, attributes := #[] }, { accessFlags := 18, nameIndex := 52, descriptorIndex := 28, attributes := #[] }, { accessFlags := 18, nameIndex := 55, descriptorIndex := 28, attributes := #[] }, { accessFlags := 18, nameIndex := 58, descriptorIndex := 28, attributes := #[] }, { accessFlags := 25, nameIndex := 174, descriptorIndex := 175, attributes := #[] }, { accessFlags := 25, nameIndex := 177, descriptorIndex := 175, attributes := #[] }, { accessFlags := 25, nameIndex := 178, descriptorIndex := 175, attributes := #[] }, { accessFlags := 25, nameIndex := 179, descriptorIndex := 175, attributes := #[] }, { accessFlags := 25, nameIndex := 180, descriptorIndex := 175, attributes := #[] }, { accessFlags := 25, nameIndex := 181, descriptorIndex := 175, attributes := #[] }, { accessFlags := 25, nameIndex := 182, descriptorIndex := 175, attributes := #[] }, { accessFlags := 25, nameIndex := 183, descriptorIndex := 175, attributes := #[] }, { accessFlags := 25, nameIndex := 184, descriptorIndex := 175, attributes := #[] }, { accessFlags := 25, nameIndex := 185, descriptorIndex := 175, attributes := #[] }])
  fields := #[{ name := "targetUtilization", type := .double, accessFlags := 18, slot := 0, constantValue := 0 }, { name := "intervalSeconds", type := .int, accessFlags := 18, slot := 1, constantValue := 0 }, { name := "expectedRestartSeconds", type := .double, accessFlags := 18, slot := 2, constantValue := 0 }, { name := "targetRecoverySeconds", type := .double, accessFlags := 18, slot := 3, constantValue := 0 }, { name := "holdSeconds", type := .double, accessFlags := 18, slot := 4, constantValue := 0 }, { name := "rescaleCost", type := .double, accessFlags := 18, slot := 5, constantValue := 0 }, { name := "shortfallCost", type := .double, accessFlags := 18, slot := 6, constantValue := 0 }, { name := "underProvisionedCost", type := .double, accessFlags := 18, slot := 7, constantValue := 0 }, { name := "forecastMargin", type := .double, accessFlags := 18, slot := 8, constantValue := 0 }, { name := "seasonSeconds", type := .int, accessFlags := 18, slot := 9, constantValue := 0 }, { name := "shortSeasonSeconds", type := .int, accessFlags := 18, slot := 10, constantValue := 0 }, { name := "horizonSeconds", type := .int, accessFlags := 18, slot := 11, constantValue := 0 }, { name := "EXPECTED_RESTART_SECONDS", type := (.object "java/lang/String"), accessFlags := 25, slot := 0, constantValue := 0 }, { name := "TARGET_RECOVERY_SECONDS", type := (.object "java/lang/String"), accessFlags := 25, slot := 1, constantValue := 0 }, { name := "HOLD_SECONDS", type := (.object "java/lang/String"), accessFlags := 25, slot := 2, constantValue := 0 }, { name := "RESCALE_COST", type := (.object "java/lang/String"), accessFlags := 25, slot := 3, constantValue := 0 }, { name := "SHORTFALL_COST", type := (.object "java/lang/String"), accessFlags := 25, slot := 4, constantValue := 0 }, { name := "UNDER_PROVISIONED_COST", type := (.object "java/lang/String"), accessFlags := 25, slot := 5, constantValue := 0 }, { name := "FORECAST_MARGIN", type := (.object "java/lang/String"), accessFlags := 25, slot := 6, constantValue := 0 }, { name := "SEASON_SECONDS", type := (.object "java/lang/String"), accessFlags := 25, slot := 7, constantValue := 0 }, { name := "SHORT_SEASON_SECONDS", type := (.object "java/lang/String"), accessFlags := 25, slot := 8, constantValue := 0 }, { name := "HORIZON_SECONDS", type := (.object "java/lang/String"), accessFlags := 25, slot := 9, constantValue := 0 }]
  methods := #[k5m0, k5m1, k5m2]
  instanceTypes := #[.double, .int, .double, .double, .double, .double, .double, .double, .double, .int, .int, .int]
  staticTypes := #[(.object "java/lang/String"), (.object "java/lang/String"), (.object "java/lang/String"), (.object "java/lang/String"), (.object "java/lang/String"), (.object "java/lang/String"), (.object "java/lang/String"), (.object "java/lang/String"), (.object "java/lang/String"), (.object "java/lang/String")]
  resolved := Array.replicate 248 none
  callSites := [(1, 5, .constant 3)]
  statics := none }

def pool6 : Array CpInfo := pool [(1, .methodref 2 3), (0, .class_ 4), (0, .nameAndType 5 6), (0, u "java/lang/Object"), (0, u "<init>"), (0, u "()V"), (0, .fieldref 8 9), (0, .class_ 10), (0, .nameAndType 11 12), (0, u "java/util/OptionalInt"), (0, u "isPresent"), (0, u "Z"), (0, .fieldref 8 14), (0, .nameAndType 15 16), (0, u "value"), (0, u "I"), (2, u "EMPTY"), (0, u "Ljava/util/OptionalInt;"), (0, .methodref 8 22), (0, .nameAndType 5 23), (0, u "(I)V"), (7, .interfaceMethodref 32 33), (0, .class_ 34), (0, .nameAndType 35 23), (0, u "java/util/function/IntConsumer"), (0, u "accept"), (9, u "of"), (9, u "getAsInt"), (0, u "()I"), (40, u "(I)Ljava/util/OptionalInt;"), (1, u "()Z"), (1, u "ifPresent"), (0, u "(Ljava/util/function/IntConsumer;)V")] 33

def k6m0 : Method := { name := "<init>", desc := "()V", sig := { parameters := [], returnType := none }, accessFlags := 2, code := none }
def k6c1 : Code := { maxStack := 2, maxLocals := 2, code := jdk_2649_method_3_code, exceptionTable := #[], attributes := #[] }
def k6m1 : Method := { name := "<init>", desc := "(I)V", sig := { parameters := [.int], returnType := none }, accessFlags := 2, code := some k6c1 }
def k6c2 : Code := { maxStack := 3, maxLocals := 1, code := jdk_2649_method_4_code, exceptionTable := #[], attributes := #[] }
def k6m2 : Method := { name := "of", desc := "(I)Ljava/util/OptionalInt;", sig := { parameters := [.int], returnType := some (.object "java/util/OptionalInt") }, accessFlags := 9, code := some k6c2 }
def k6c3 : Code := { maxStack := 3, maxLocals := 1, code := jdk_2649_method_5_code, exceptionTable := #[], attributes := #[] }
def k6m3 : Method := { name := "getAsInt", desc := "()I", sig := { parameters := [], returnType := some .int }, accessFlags := 1, code := some k6c3 }
def k6c4 : Code := { maxStack := 1, maxLocals := 1, code := jdk_2649_method_6_code, exceptionTable := #[], attributes := #[] }
def k6m4 : Method := { name := "isPresent", desc := "()Z", sig := { parameters := [], returnType := some .boolean }, accessFlags := 1, code := some k6c4 }
def k6c5 : Code := { maxStack := 2, maxLocals := 2, code := jdk_2649_method_8_code, exceptionTable := #[], attributes := #[] }
def k6m5 : Method := { name := "ifPresent", desc := "(Ljava/util/function/IntConsumer;)V", sig := { parameters := [(.object "java/util/function/IntConsumer")], returnType := none }, accessFlags := 1, code := some k6c5 }
/-- java/util/OptionalInt -/
def k6 : Class := { plain "java/util/OptionalInt" (some 0) with
  accessFlags := 49
  interfaces := #[]
  cf := some (fileOf pool6 8 #[] #[{ accessFlags := 2, nameIndex := 5, descriptorIndex := 6, attributes := #[] }, { accessFlags := 2, nameIndex := 5, descriptorIndex := 23, attributes := #[] }, { accessFlags := 9, nameIndex := 45, descriptorIndex := 97, attributes := #[] }, { accessFlags := 1, nameIndex := 55, descriptorIndex := 56, attributes := #[] }, { accessFlags := 1, nameIndex := 11, descriptorIndex := 99, attributes := #[] }, { accessFlags := 1, nameIndex := 101, descriptorIndex := 102, attributes := #[] }] 49 2 #[] #[{ accessFlags := 26, nameIndex := 19, descriptorIndex := 20, attributes := #[] }, { accessFlags := 18, nameIndex := 11, descriptorIndex := 12, attributes := #[] }, { accessFlags := 18, nameIndex := 15, descriptorIndex := 16, attributes := #[] }])
  fields := #[{ name := "EMPTY", type := (.object "java/util/OptionalInt"), accessFlags := 26, slot := 0, constantValue := 0 }, { name := "isPresent", type := .boolean, accessFlags := 18, slot := 0, constantValue := 0 }, { name := "value", type := .int, accessFlags := 18, slot := 1, constantValue := 0 }]
  methods := #[k6m0, k6m1, k6m2, k6m3, k6m4, k6m5]
  instanceTypes := #[.boolean, .int]
  staticTypes := #[(.object "java/util/OptionalInt")]
  resolved := Array.replicate 136 none
  statics := none }

def pool7 : Array CpInfo := pool [(2, .class_ 4), (1, u "java/lang/Object"), (0, u "<init>"), (0, u "()V"), (2, .class_ 10), (0, u "com/example/tidewatch/tidewatch/core/TargetUtilization"), (21, u "NAME"), (0, u "Ljava/lang/String;"), (1, u "DEFAULT"), (0, u "D"), (4, u "check"), (0, u "(D)V")] 3

def k7m0 : Method := { name := "<init>", desc := "()V", sig := { parameters := [], returnType := none }, accessFlags := 2, code := none }
def k7c1 : Code := { maxStack := 6, maxLocals := 2, code := prog_62_method_2_code, exceptionTable := #[], attributes := #[] }
def k7m1 : Method := { name := "check", desc := "(D)V", sig := { parameters := [.double], returnType := none }, accessFlags := 9, code := some k7c1 }
/-- com/example/tidewatch/tidewatch/core/TargetUtilization -/
def k7 : Class := { plain "com/example/tidewatch/tidewatch/core/TargetUtilization" (some 0) with
  accessFlags := 49
  interfaces := #[]
  cf := some (fileOf pool7 9 #[] #[{ accessFlags := 2, nameIndex := 5, descriptorIndex := 6, attributes := #[] }, { accessFlags := 9, nameIndex := 41, descriptorIndex := 42, attributes := #[] }] 49 2 #[] #[{ accessFlags := 25, nameIndex := 32, descriptorIndex := 33, attributes := #[] }, { accessFlags := 25, nameIndex := 35, descriptorIndex := 36, attributes := #[] }])
  fields := #[{ name := "NAME", type := (.object "java/lang/String"), accessFlags := 25, slot := 0, constantValue := 0 }, { name := "DEFAULT", type := .double, accessFlags := 25, slot := 1, constantValue := 0 }]
  methods := #[k7m0, k7m1]
  instanceTypes := #[]
  staticTypes := #[(.object "java/lang/String"), .double]
  resolved := Array.replicate 46 none
  statics := none }

def pool8 : Array CpInfo := pool [(9, u "accept"), (2, .class_ 14), (1, u "java/util/function/IntConsumer"), (0, u "(I)V"), (0, .class_ 17), (0, u "java/lang/Object")] 34

def k8m0 : Method := { name := "accept", desc := "(I)V", sig := { parameters := [.int], returnType := none }, accessFlags := 1025, code := none }
/-- java/util/function/IntConsumer -/
def k8 : Class := { plain "java/util/function/IntConsumer" (some 0) with
  accessFlags := 1537
  interfaces := #[]
  cf := some (fileOf pool8 12 #[] #[{ accessFlags := 1025, nameIndex := 9, descriptorIndex := 15, attributes := #[] }] 1537 16 #[] #[])
  fields := #[]
  methods := #[k8m0]
  instanceTypes := #[]
  staticTypes := #[]
  resolved := Array.replicate 52 none
  statics := none }

def pool9 : Array CpInfo := pool [(1, .class_ 2), (0, u "java/io/Serializable"), (0, .class_ 4), (0, u "java/lang/Object")] 2

/-- java/io/Serializable -/
def k9 : Class := { plain "java/io/Serializable" (some 0) with
  accessFlags := 1537
  interfaces := #[]
  cf := some (fileOf pool9 1 #[] #[] 1537 3 #[] #[])
  fields := #[]
  methods := #[]
  instanceTypes := #[]
  staticTypes := #[]
  resolved := Array.replicate 7 none
  statics := none }

def pool10 : Array CpInfo := pool [(1, .class_ 2), (0, u "java/lang/Comparable"), (0, .class_ 4), (0, u "java/lang/Object")] 7

/-- java/lang/Comparable -/
def k10 : Class := { plain "java/lang/Comparable" (some 0) with
  accessFlags := 1537
  interfaces := #[]
  cf := some (fileOf pool10 1 #[] #[] 1537 3 #[] #[])
  fields := #[]
  methods := #[]
  instanceTypes := #[]
  staticTypes := #[]
  resolved := Array.replicate 12 none
  statics := none }

def pool11 : Array CpInfo := pool [(2, .class_ 4), (1, u "java/lang/CharSequence"), (42, .class_ 48), (0, u "java/lang/CharSequence$1CodePointIterator"), (10, .class_ 60), (0, u "java/lang/CharSequence$1CharIterator"), (5, .class_ 67), (0, u "java/lang/Object")] 63

/-- java/lang/CharSequence -/
def k11 : Class := { plain "java/lang/CharSequence" (some 0) with
  accessFlags := 1537
  interfaces := #[]
  cf := some (fileOf pool11 2 #[.nestMembers #[47, 59]] #[] 1537 66 #[] #[])
  fields := #[]
  methods := #[]
  instanceTypes := #[]
  staticTypes := #[]
  resolved := Array.replicate 131 none
  statics := none }

def pool12 : Array CpInfo := pool [(1, .class_ 2), (0, u "java/lang/constant/Constable"), (0, .class_ 4), (0, u "java/lang/Object")] 6

/-- java/lang/constant/Constable -/
def k12 : Class := { plain "java/lang/constant/Constable" (some 0) with
  accessFlags := 1537
  interfaces := #[]
  cf := some (fileOf pool12 1 #[] #[] 1537 3 #[] #[])
  fields := #[]
  methods := #[]
  instanceTypes := #[]
  staticTypes := #[]
  resolved := Array.replicate 11 none
  statics := none }

def pool13 : Array CpInfo := pool [(1, .class_ 2), (0, u "java/lang/constant/ConstantDesc"), (0, .class_ 4), (0, u "java/lang/Object")] 32

/-- java/lang/constant/ConstantDesc -/
def k13 : Class := { plain "java/lang/constant/ConstantDesc" (some 0) with
  accessFlags := 1537
  interfaces := #[]
  cf := some (fileOf pool13 1 #[] #[] 1537 3 #[] #[])
  fields := #[]
  methods := #[]
  instanceTypes := #[]
  staticTypes := #[]
  resolved := Array.replicate 37 none
  statics := none }

def pool14 : Array CpInfo := pool [(1, .methodref 2 3), (0, .class_ 4), (0, .nameAndType 5 6), (0, u "java/lang/Object"), (0, u "<init>"), (0, u "()V"), (2, .fieldref 10 11), (0, .class_ 12), (0, .nameAndType 13 14), (0, u "java/lang/String"), (0, u "value"), (0, u "[B"), (0, .fieldref 10 16), (0, .nameAndType 17 18), (0, u "coder"), (0, u "B"), (2, u "hash"), (0, u "I"), (2, u "hashIsZero"), (0, u "Z"), (11, .fieldref 10 39), (0, .nameAndType 40 26), (0, u "COMPACT_STRINGS"), (13, .methodref 55 56), (0, .class_ 57), (0, .nameAndType 58 59), (0, u "java/util/Arrays"), (0, u "copyOfRange"), (0, u "([BII)[B"), (82, u "()Z"), (50, .class_ 195), (1, u "java/lang/System"), (16, .methodref 193 213), (0, .nameAndType 214 215), (0, u "arraycopy"), (0, u "(Ljava/lang/Object;ILjava/lang/Object;II)V"), (118, u "()I"), (0, .methodref 10 336), (0, .nameAndType 17 337), (0, u "()B"), (2, u "()[B"), (148, .methodref 10 490), (0, .nameAndType 5 491), (0, u "(Ljava/lang/AbstractStringBuilder;Ljava/lang/Void;)V"), (1, .nameAndType 494 142), (0, u "isLatin1"), (11, .nameAndType 507 334), (0, u "length"), (24, u "getBytes"), (16, .methodref 550 506), (0, .class_ 551), (0, u "java/lang/AbstractStringBuilder"), (0, .methodref 550 553), (0, .nameAndType 554 340), (0, u "getValue"), (20, .class_ 576), (0, u "java/lang/CharSequence"), (22, u "CASE_INSENSITIVE_ORDER"), (0, u "Ljava/util/Comparator;"), (220, u "([BIB)V"), (225, .methodref 550 493), (53, u "serialPersistentFields"), (0, u "[Ljava/io/ObjectStreamField;"), (0, .class_ 1104), (0, u "java/lang/String$CaseInsensitiveComparator"), (1, .class_ 1107), (0, u "java/io/Serializable"), (0, .class_ 1109), (0, u "java/lang/Comparable"), (0, .class_ 1111), (0, u "java/lang/constant/Constable"), (0, .class_ 1113), (0, u "java/lang/constant/ConstantDesc"), (2, u "serialVersionUID"), (0, u "J"), (3, u "REPL"), (0, u "C"), (2, u "LATIN1"), (1, u "UTF16"), (105, u "(Ljava/lang/StringBuilder;)V")] 217

def k14m0 : Method := { name := "<init>", desc := "()V", sig := { parameters := [], returnType := none }, accessFlags := 1, code := none }
def k14c1 : Code := { maxStack := 3, maxLocals := 2, code := jdk_42_method_53_code, exceptionTable := #[], attributes := #[] }
def k14m1 : Method := { name := "<init>", desc := "(Ljava/lang/StringBuilder;)V", sig := { parameters := [(.object "java/lang/StringBuilder")], returnType := none }, accessFlags := 1, code := some k14c1 }
def k14c2 : Code := { maxStack := 2, maxLocals := 1, code := jdk_42_method_54_code, exceptionTable := #[], attributes := #[] }
def k14m2 : Method := { name := "length", desc := "()I", sig := { parameters := [], returnType := some .int }, accessFlags := 1, code := some k14c2 }
def k14c3 : Code := { maxStack := 5, maxLocals := 4, code := jdk_42_method_147_code, exceptionTable := #[], attributes := #[] }
def k14m3 : Method := { name := "getBytes", desc := "([BIB)V", sig := { parameters := [(.array .byte), .int, .byte], returnType := none }, accessFlags := 0, code := some k14c3 }
def k14c4 : Code := { maxStack := 5, maxLocals := 5, code := jdk_42_method_150_code, exceptionTable := #[], attributes := #[] }
def k14m4 : Method := { name := "<init>", desc := "(Ljava/lang/AbstractStringBuilder;Ljava/lang/Void;)V", sig := { parameters := [(.object "java/lang/AbstractStringBuilder"), (.object "java/lang/Void")], returnType := none }, accessFlags := 0, code := some k14c4 }
def k14c5 : Code := { maxStack := 1, maxLocals := 1, code := jdk_42_method_152_code, exceptionTable := #[], attributes := #[] }
def k14m5 : Method := { name := "coder", desc := "()B", sig := { parameters := [], returnType := some .byte }, accessFlags := 0, code := some k14c5 }
/-- java/lang/String -/
def k14 : Class := { plain "java/lang/String" (some 0) with
  accessFlags := 49
  interfaces := #[9, 10, 11, 12, 13]
  cf := some (fileOf pool14 10 #[.nestMembers #[1103]] #[{ accessFlags := 1, nameIndex := 5, descriptorIndex := 6, attributes := #[] }, { accessFlags := 1, nameIndex := 5, descriptorIndex := 1233, attributes := #[] }, { accessFlags := 1, nameIndex := 507, descriptorIndex := 334, attributes := #[] }, { accessFlags := 0, nameIndex := 532, descriptorIndex := 821, attributes := #[] }, { accessFlags := 0, nameIndex := 5, descriptorIndex := 491, attributes := #[] }, { accessFlags := 0, nameIndex := 17, descriptorIndex := 337, attributes := #[] }] 49 2 #[1106, 1108, 575, 1110, 1112] #[{ accessFlags := 18, nameIndex := 13, descriptorIndex := 14, attributes := #[] }, { accessFlags := 18, nameIndex := 17, descriptorIndex := 18, attributes := #[] }, { accessFlags := 2, nameIndex := 21, descriptorIndex := 22, attributes := #[] }, { accessFlags := 2, nameIndex := 25, descriptorIndex := 26, attributes := #[] }, { accessFlags := 26, nameIndex := 1116, descriptorIndex := 1117, attributes := #[] }, { accessFlags := 24, nameIndex := 40, descriptorIndex := 26, attributes := #[] }, { accessFlags := 26, nameIndex := 1101, descriptorIndex := 1102, attributes := #[] }, { accessFlags := 26, nameIndex := 1121, descriptorIndex := 1122, attributes := #[] }, { accessFlags := 25, nameIndex := 599, descriptorIndex := 600, attributes := #[] }, { accessFlags := 24, nameIndex := 1125, descriptorIndex := 18, attributes := #[] }, { accessFlags := 24, nameIndex := 1127, descriptorIndex := 18, attributes := #[] }])
  fields := #[{ name := "value", type := (.array .byte), accessFlags := 18, slot := 0, constantValue := 0 }, { name := "coder", type := .byte, accessFlags := 18, slot := 1, constantValue := 0 }, { name := "hash", type := .int, accessFlags := 2, slot := 2, constantValue := 0 }, { name := "hashIsZero", type := .boolean, accessFlags := 2, slot := 3, constantValue := 0 }, { name := "serialVersionUID", type := .long, accessFlags := 26, slot := 0, constantValue := 0 }, { name := "COMPACT_STRINGS", type := .boolean, accessFlags := 24, slot := 1, constantValue := 0 }, { name := "serialPersistentFields", type := (.array (.object "java/io/ObjectStreamField")), accessFlags := 26, slot := 2, constantValue := 0 }, { name := "REPL", type := .char, accessFlags := 26, slot := 3, constantValue := 0 }, { name := "CASE_INSENSITIVE_ORDER", type := (.object "java/util/Comparator"), accessFlags := 25, slot := 4, constantValue := 0 }, { name := "LATIN1", type := .byte, accessFlags := 24, slot := 5, constantValue := 0 }, { name := "UTF16", type := .byte, accessFlags := 24, slot := 6, constantValue := 0 }]
  methods := #[k14m0, k14m1, k14m2, k14m3, k14m4, k14m5]
  instanceTypes := #[(.array .byte), .byte, .int, .boolean]
  staticTypes := #[.long, .boolean, (.array (.object "java/io/ObjectStreamField")), .char, (.object "java/util/Comparator"), .byte, .byte]
  resolved := Array.replicate 1451 none
  statics := some 0 }

def pool15 : Array CpInfo := pool [(2, .class_ 4), (1, u "java/lang/Object"), (0, u "<init>"), (0, u "()V"), (52, .class_ 61), (1, u "java/lang/Double"), (1, u "(D)Z"), (5, .methodref 70 71), (0, .class_ 72), (0, .nameAndType 73 63), (0, u "com/example/tidewatch/tidewatch/core/SettingChecks"), (0, u "isFiniteAtLeastZero"), (2, .methodref 59 77), (0, .nameAndType 78 63), (0, u "isInfinite"), (4, u "atLeastOne"), (0, u "(Ljava/lang/String;J)V"), (9, u "(Ljava/lang/String;D)V"), (0, u "finiteAtLeastZero"), (0, u "finiteAboveZero")] 2

def k15m0 : Method := { name := "<init>", desc := "()V", sig := { parameters := [], returnType := none }, accessFlags := 2, code := none }
def k15c1 : Code := { maxStack := 6, maxLocals := 3, code := prog_58_method_2_code, exceptionTable := #[], attributes := #[] }
def k15m1 : Method := { name := "atLeastOne", desc := "(Ljava/lang/String;J)V", sig := { parameters := [(.object "java/lang/String"), .long], returnType := none }, accessFlags := 9, code := some k15c1 }
def k15c2 : Code := { maxStack := 6, maxLocals := 3, code := prog_58_method_7_code, exceptionTable := #[], attributes := #[] }
def k15m2 : Method := { name := "finiteAtLeastZero", desc := "(Ljava/lang/String;D)V", sig := { parameters := [(.object "java/lang/String"), .double], returnType := none }, accessFlags := 9, code := some k15c2 }
def k15c3 : Code := { maxStack := 4, maxLocals := 2, code := prog_58_method_8_code, exceptionTable := #[], attributes := #[] }
def k15m3 : Method := { name := "isFiniteAtLeastZero", desc := "(D)Z", sig := { parameters := [.double], returnType := some .boolean }, accessFlags := 9, code := some k15c3 }
def k15c4 : Code := { maxStack := 6, maxLocals := 3, code := prog_58_method_9_code, exceptionTable := #[], attributes := #[] }
def k15m4 : Method := { name := "finiteAboveZero", desc := "(Ljava/lang/String;D)V", sig := { parameters := [(.object "java/lang/String"), .double], returnType := none }, accessFlags := 9, code := some k15c4 }
/-- com/example/tidewatch/tidewatch/core/SettingChecks -/
def k15 : Class := { plain "com/example/tidewatch/tidewatch/core/SettingChecks" (some 0) with
  accessFlags := 49
  interfaces := #[]
  cf := some (fileOf pool15 70 #[] #[{ accessFlags := 2, nameIndex := 5, descriptorIndex := 6, attributes := #[] }, { accessFlags := 9, nameIndex := 83, descriptorIndex := 84, attributes := #[] }, { accessFlags := 9, nameIndex := 95, descriptorIndex := 94, attributes := #[] }, { accessFlags := 9, nameIndex := 73, descriptorIndex := 63, attributes := #[] }, { accessFlags := 9, nameIndex := 96, descriptorIndex := 94, attributes := #[] }] 49 2 #[] #[])
  fields := #[]
  methods := #[k15m0, k15m1, k15m2, k15m3, k15m4]
  instanceTypes := #[]
  staticTypes := #[]
  resolved := Array.replicate 99 none
  statics := none }

def pool16 : Array CpInfo := pool [(2, .class_ 4), (1, u "java/lang/Object"), (0, u "<init>"), (0, u "()V"), (1, .class_ 10), (1, u "java/lang/Number"), (2, .class_ 14), (0, u "java/io/Serializable"), (0, u "serialVersionUID"), (0, u "J")] 20

def k16m0 : Method := { name := "<init>", desc := "()V", sig := { parameters := [], returnType := none }, accessFlags := 1, code := none }
/-- java/lang/Number -/
def k16 : Class := { plain "java/lang/Number" (some 0) with
  accessFlags := 1057
  interfaces := #[9]
  cf := some (fileOf pool16 8 #[] #[{ accessFlags := 1, nameIndex := 5, descriptorIndex := 6, attributes := #[] }] 1057 2 #[13] #[{ accessFlags := 26, nameIndex := 15, descriptorIndex := 16, attributes := #[] }])
  fields := #[{ name := "serialVersionUID", type := .long, accessFlags := 26, slot := 0, constantValue := 0 }]
  methods := #[k16m0]
  instanceTypes := #[]
  staticTypes := #[.long]
  resolved := Array.replicate 37 none
  statics := none }

def pool17 : Array CpInfo := pool [(1, .class_ 2), (0, u "java/lang/Double"), (11, u "(D)Z"), (8, .class_ 25), (1, u "java/lang/Math"), (12, .methodref 23 39), (0, .nameAndType 40 41), (0, u "abs"), (0, u "(D)D"), (69, .double 9218868437227405311), (2, .class_ 116), (1, u "java/lang/Number"), (3, u "value"), (0, u "D"), (5, u "isInfinite"), (45, u "TYPE"), (0, u "Ljava/lang/Class;"), (0, .class_ 176), (0, u "java/lang/Comparable"), (0, .class_ 178), (0, u "java/lang/constant/Constable"), (0, .class_ 180), (0, u "java/lang/constant/ConstantDesc"), (0, u "POSITIVE_INFINITY"), (3, u "NEGATIVE_INFINITY"), (2, u "NaN"), (2, u "MAX_VALUE"), (0, u "MIN_NORMAL"), (0, u "MIN_VALUE"), (2, u "SIZE"), (0, u "I"), (1, u "PRECISION"), (1, u "MAX_EXPONENT"), (1, u "MIN_EXPONENT"), (1, u "BYTES"), (3, u "serialVersionUID"), (0, u "J")] 79

def k17c0 : Code := { maxStack := 4, maxLocals := 2, code := jdk_117_method_7_code, exceptionTable := #[], attributes := #[] }
def k17m0 : Method := { name := "isInfinite", desc := "(D)Z", sig := { parameters := [.double], returnType := some .boolean }, accessFlags := 9, code := some k17c0 }
/-- java/lang/Double -/
def k17 : Class := { plain "java/lang/Double" (some 16) with
  accessFlags := 49
  interfaces := #[10, 12, 13]
  cf := some (fileOf pool17 1 #[] #[{ accessFlags := 9, nameIndex := 127, descriptorIndex := 14, attributes := #[] }] 49 114 #[175, 177, 179] #[{ accessFlags := 25, nameIndex := 181, descriptorIndex := 121, attributes := #[] }, { accessFlags := 25, nameIndex := 185, descriptorIndex := 121, attributes := #[] }, { accessFlags := 25, nameIndex := 188, descriptorIndex := 121, attributes := #[] }, { accessFlags := 25, nameIndex := 191, descriptorIndex := 121, attributes := #[] }, { accessFlags := 25, nameIndex := 192, descriptorIndex := 121, attributes := #[] }, { accessFlags := 25, nameIndex := 193, descriptorIndex := 121, attributes := #[] }, { accessFlags := 25, nameIndex := 196, descriptorIndex := 197, attributes := #[] }, { accessFlags := 25, nameIndex := 199, descriptorIndex := 197, attributes := #[] }, { accessFlags := 25, nameIndex := 201, descriptorIndex := 197, attributes := #[] }, { accessFlags := 25, nameIndex := 203, descriptorIndex := 197, attributes := #[] }, { accessFlags := 25, nameIndex := 205, descriptorIndex := 197, attributes := #[] }, { accessFlags := 25, nameIndex := 173, descriptorIndex := 174, attributes := #[] }, { accessFlags := 18, nameIndex := 120, descriptorIndex := 121, attributes := #[] }, { accessFlags := 26, nameIndex := 209, descriptorIndex := 210, attributes := #[] }])
  fields := #[{ name := "POSITIVE_INFINITY", type := .double, accessFlags := 25, slot := 0, constantValue := 0 }, { name := "NEGATIVE_INFINITY", type := .double, accessFlags := 25, slot := 1, constantValue := 0 }, { name := "NaN", type := .double, accessFlags := 25, slot := 2, constantValue := 0 }, { name := "MAX_VALUE", type := .double, accessFlags := 25, slot := 3, constantValue := 0 }, { name := "MIN_NORMAL", type := .double, accessFlags := 25, slot := 4, constantValue := 0 }, { name := "MIN_VALUE", type := .double, accessFlags := 25, slot := 5, constantValue := 0 }, { name := "SIZE", type := .int, accessFlags := 25, slot := 6, constantValue := 0 }, { name := "PRECISION", type := .int, accessFlags := 25, slot := 7, constantValue := 0 }, { name := "MAX_EXPONENT", type := .int, accessFlags := 25, slot := 8, constantValue := 0 }, { name := "MIN_EXPONENT", type := .int, accessFlags := 25, slot := 9, constantValue := 0 }, { name := "BYTES", type := .int, accessFlags := 25, slot := 10, constantValue := 0 }, { name := "TYPE", type := (.object "java/lang/Class"), accessFlags := 25, slot := 11, constantValue := 0 }, { name := "value", type := .double, accessFlags := 18, slot := 0, constantValue := 0 }, { name := "serialVersionUID", type := .long, accessFlags := 26, slot := 12, constantValue := 0 }]
  methods := #[k17m0]
  instanceTypes := #[.double]
  staticTypes := #[.double, .double, .double, .double, .double, .double, .int, .int, .int, .int, .int, (.object "java/lang/Class"), .long]
  resolved := Array.replicate 290 none
  statics := none }

def pool18 : Array CpInfo := pool [(1, .class_ 2), (0, u "java/lang/Appendable"), (0, .class_ 4), (0, u "java/lang/Object")] 9

/-- java/lang/Appendable -/
def k18 : Class := { plain "java/lang/Appendable" (some 0) with
  accessFlags := 1537
  interfaces := #[]
  cf := some (fileOf pool18 1 #[] #[] 1537 3 #[] #[])
  fields := #[]
  methods := #[]
  instanceTypes := #[]
  staticTypes := #[]
  resolved := Array.replicate 14 none
  statics := none }

def pool19 : Array CpInfo := pool [(1, .class_ 2), (0, u "java/lang/String"), (0, .methodref 4 5), (0, .class_ 6), (0, .nameAndType 7 8), (0, u "java/lang/Object"), (0, u "<init>"), (0, u "()V"), (1, .class_ 12), (1, u "java/lang/AbstractStringBuilder"), (0, u "EMPTYVALUE"), (0, u "[B"), (0, .fieldref 10 16), (0, .nameAndType 17 14), (0, u "value"), (0, .fieldref 1 19), (0, .nameAndType 20 21), (0, u "COMPACT_STRINGS"), (0, u "Z"), (0, .fieldref 10 23), (0, .nameAndType 24 25), (0, u "coder"), (0, u "B"), (6, .methodref 1 33), (0, .nameAndType 34 35), (0, u "length"), (0, u "()I"), (0, .class_ 37), (0, u "java/lang/Integer"), (2, .methodref 1 41), (0, .nameAndType 24 42), (0, u "()B"), (2, u "append"), (0, u "(Ljava/lang/String;)Ljava/lang/AbstractStringBuilder;"), (1, .class_ 49), (0, u "java/lang/CharSequence"), (19, u "(Ljava/lang/String;)V"), (5, u "maybeLatin1"), (3, .fieldref 10 80), (0, .nameAndType 81 82), (0, u "count"), (0, u "I"), (0, .methodref 10 84), (0, .nameAndType 85 86), (0, u "isLatin1"), (0, u "()Z"), (13, .methodref 10 101), (0, .nameAndType 102 103), (0, u "ensureCapacityInternal"), (0, u "(I)V"), (3, u "(I)I"), (80, u "getChars"), (19, .methodref 10 209), (0, .nameAndType 210 211), (0, u "putStringAt"), (0, u "(ILjava/lang/String;)V"), (5, u "inflateIfNeededFor"), (2, .nameAndType 221 222), (0, u "getBytes"), (0, u "([BIB)V"), (22, .methodref 36 246), (0, .nameAndType 247 107), (0, u "stringSize"), (0, .methodref 36 249), (0, .nameAndType 188 250), (0, u "(II[B)I"), (146, .methodref 10 398), (0, .nameAndType 217 69), (0, .methodref 1 220), (3, u "()[B"), (40, .class_ 445), (0, u "java/lang/Appendable"), (65, u "(I)Ljava/lang/AbstractStringBuilder;"), (40, u "getValue")] 56

def k19m0 : Method := { name := "<init>", desc := "()V", sig := { parameters := [], returnType := none }, accessFlags := 0, code := none }
def k19c1 : Code := { maxStack := 2, maxLocals := 2, code := jdk_68_method_2_code, exceptionTable := #[], attributes := #[] }
def k19m1 : Method := { name := "<init>", desc := "(I)V", sig := { parameters := [.int], returnType := none }, accessFlags := 0, code := some k19c1 }
def k19c2 : Code := { maxStack := 1, maxLocals := 1, code := jdk_68_method_6_code, exceptionTable := #[], attributes := #[] }
def k19m2 : Method := { name := "length", desc := "()I", sig := { parameters := [], returnType := some .int }, accessFlags := 1, code := some k19c2 }
def k19c3 : Code := { maxStack := 4, maxLocals := 3, code := jdk_68_method_9_code, exceptionTable := #[], attributes := #[] }
def k19m3 : Method := { name := "ensureCapacityInternal", desc := "(I)V", sig := { parameters := [.int], returnType := none }, accessFlags := 2, code := some k19c3 }
def k19c4 : Code := { maxStack := 3, maxLocals := 3, code := jdk_68_method_22_code, exceptionTable := #[], attributes := #[] }
def k19m4 : Method := { name := "append", desc := "(Ljava/lang/String;)Ljava/lang/AbstractStringBuilder;", sig := { parameters := [(.object "java/lang/String")], returnType := some (.object "java/lang/AbstractStringBuilder") }, accessFlags := 1, code := some k19c4 }
def k19c5 : Code := { maxStack := 4, maxLocals := 4, code := jdk_68_method_32_code, exceptionTable := #[], attributes := #[] }
def k19m5 : Method := { name := "append", desc := "(I)Ljava/lang/AbstractStringBuilder;", sig := { parameters := [.int], returnType := some (.object "java/lang/AbstractStringBuilder") }, accessFlags := 1, code := some k19c5 }
def k19c6 : Code := { maxStack := 1, maxLocals := 1, code := jdk_68_method_64_code, exceptionTable := #[], attributes := #[] }
def k19m6 : Method := { name := "getValue", desc := "()[B", sig := { parameters := [], returnType := some (.array .byte) }, accessFlags := 16, code := some k19c6 }
def k19c7 : Code := { maxStack := 1, maxLocals := 1, code := jdk_68_method_68_code, exceptionTable := #[], attributes := #[] }
def k19m7 : Method := { name := "isLatin1", desc := "()Z", sig := { parameters := [], returnType := some .boolean }, accessFlags := 16, code := some k19c7 }
def k19c8 : Code := { maxStack := 2, maxLocals := 2, code := jdk_68_method_71_code, exceptionTable := #[], attributes := #[] }
def k19m8 : Method := { name := "inflateIfNeededFor", desc := "(Ljava/lang/String;)V", sig := { parameters := [(.object "java/lang/String")], returnType := none }, accessFlags := 2, code := some k19c8 }
def k19c9 : Code := { maxStack := 4, maxLocals := 3, code := jdk_68_method_73_code, exceptionTable := #[], attributes := #[] }
def k19m9 : Method := { name := "putStringAt", desc := "(ILjava/lang/String;)V", sig := { parameters := [.int, (.object "java/lang/String")], returnType := none }, accessFlags := 2, code := some k19c9 }
/-- java/lang/AbstractStringBuilder -/
def k19 : Class := { plain "java/lang/AbstractStringBuilder" (some 0) with
  accessFlags := 1056
  interfaces := #[18, 11]
  cf := some (fileOf pool19 10 #[] #[{ accessFlags := 0, nameIndex := 7, descriptorIndex := 8, attributes := #[] }, { accessFlags := 0, nameIndex := 7, descriptorIndex := 103, attributes := #[] }, { accessFlags := 1, nameIndex := 34, descriptorIndex := 35, attributes := #[] }, { accessFlags := 2, nameIndex := 102, descriptorIndex := 103, attributes := #[] }, { accessFlags := 1, nameIndex := 45, descriptorIndex := 46, attributes := #[] }, { accessFlags := 1, nameIndex := 45, descriptorIndex := 511, attributes := #[] }, { accessFlags := 16, nameIndex := 552, descriptorIndex := 403, attributes := #[] }, { accessFlags := 16, nameIndex := 85, descriptorIndex := 86, attributes := #[] }, { accessFlags := 2, nameIndex := 217, descriptorIndex := 69, attributes := #[] }, { accessFlags := 2, nameIndex := 210, descriptorIndex := 211, attributes := #[] }] 1056 4 #[444, 48] #[{ accessFlags := 0, nameIndex := 17, descriptorIndex := 14, attributes := #[] }, { accessFlags := 0, nameIndex := 24, descriptorIndex := 25, attributes := #[] }, { accessFlags := 0, nameIndex := 75, descriptorIndex := 21, attributes := #[] }, { accessFlags := 0, nameIndex := 81, descriptorIndex := 82, attributes := #[] }, { accessFlags := 26, nameIndex := 13, descriptorIndex := 14, attributes := #[] }])
  fields := #[{ name := "value", type := (.array .byte), accessFlags := 0, slot := 0, constantValue := 0 }, { name := "coder", type := .byte, accessFlags := 0, slot := 1, constantValue := 0 }, { name := "maybeLatin1", type := .boolean, accessFlags := 0, slot := 2, constantValue := 0 }, { name := "count", type := .int, accessFlags := 0, slot := 3, constantValue := 0 }, { name := "EMPTYVALUE", type := (.array .byte), accessFlags := 26, slot := 0, constantValue := 0 }]
  methods := #[k19m0, k19m1, k19m2, k19m3, k19m4, k19m5, k19m6, k19m7, k19m8, k19m9]
  instanceTypes := #[(.array .byte), .byte, .boolean, .int]
  staticTypes := #[(.array .byte)]
  resolved := Array.replicate 609 none
  statics := none }

def pool20 : Array CpInfo := pool [(1, .methodref 2 3), (0, .class_ 4), (0, .nameAndType 5 6), (0, u "java/lang/AbstractStringBuilder"), (0, u "<init>"), (0, u "(I)V"), (11, .class_ 20), (1, u "java/lang/String"), (3, .class_ 26), (1, u "java/lang/StringBuilder"), (0, u "append"), (0, u "(Ljava/lang/String;)Ljava/lang/StringBuilder;"), (0, .methodref 2 30), (0, .nameAndType 27 31), (0, u "(Ljava/lang/String;)Ljava/lang/AbstractStringBuilder;"), (21, .methodref 2 54), (0, .nameAndType 27 55), (0, u "(I)Ljava/lang/AbstractStringBuilder;"), (81, .methodref 18 138), (0, .nameAndType 5 139), (0, u "(Ljava/lang/StringBuilder;)V"), (5, u "()V"), (10, u "()I"), (111, u "(I)Ljava/lang/StringBuilder;"), (74, .methodref 2 344), (0, .nameAndType 345 156), (0, u "length"), (3, .class_ 350), (0, u "java/lang/Appendable"), (0, .class_ 352), (0, u "java/io/Serializable"), (0, .class_ 354), (0, u "java/lang/Comparable"), (0, .class_ 356), (0, u "java/lang/CharSequence"), (0, u "serialVersionUID"), (0, u "J"), (40, u "toString"), (0, u "()Ljava/lang/String;")] 21

def k20c0 : Code := { maxStack := 2, maxLocals := 1, code := jdk_67_method_1_code, exceptionTable := #[], attributes := #[] }
def k20m0 : Method := { name := "<init>", desc := "()V", sig := { parameters := [], returnType := none }, accessFlags := 1, code := some k20c0 }
def k20c1 : Code := { maxStack := 2, maxLocals := 2, code := jdk_67_method_7_code, exceptionTable := #[], attributes := #[] }
def k20m1 : Method := { name := "append", desc := "(Ljava/lang/String;)Ljava/lang/StringBuilder;", sig := { parameters := [(.object "java/lang/String")], returnType := some (.object "java/lang/StringBuilder") }, accessFlags := 1, code := some k20c1 }
def k20c2 : Code := { maxStack := 2, maxLocals := 2, code := jdk_67_method_15_code, exceptionTable := #[], attributes := #[] }
def k20m2 : Method := { name := "append", desc := "(I)Ljava/lang/StringBuilder;", sig := { parameters := [.int], returnType := some (.object "java/lang/StringBuilder") }, accessFlags := 1, code := some k20c2 }
def k20c3 : Code := { maxStack := 3, maxLocals := 1, code := jdk_67_method_42_code, exceptionTable := #[], attributes := #[] }
def k20m3 : Method := { name := "toString", desc := "()Ljava/lang/String;", sig := { parameters := [], returnType := some (.object "java/lang/String") }, accessFlags := 1, code := some k20c3 }
def k20c4 : Code := { maxStack := 1, maxLocals := 1, code := jdk_67_method_93_code, exceptionTable := #[], attributes := #[] }
def k20m4 : Method := { name := "length", desc := "()I", sig := { parameters := [], returnType := some .int }, accessFlags := 4161, code := some k20c4 }
/-- java/lang/StringBuilder -/
def k20 : Class := { plain "java/lang/StringBuilder" (some 19) with
  accessFlags := 49
  interfaces := #[18, 9, 10, 11]
  cf := some (fileOf pool20 24 #[] #[{ accessFlags := 1, nameIndex := 5, descriptorIndex := 145, attributes := #[] }, { accessFlags := 1, nameIndex := 27, descriptorIndex := 28, attributes := #[] }, { accessFlags := 1, nameIndex := 27, descriptorIndex := 268, attributes := #[] }, { accessFlags := 1, nameIndex := 399, descriptorIndex := 400, attributes := #[] }, { accessFlags := 4161, nameIndex := 345, descriptorIndex := 156, attributes := #[] }] 49 2 #[349, 351, 353, 355] #[{ accessFlags := 24, nameIndex := 357, descriptorIndex := 358, attributes := #[] }])
  fields := #[{ name := "serialVersionUID", type := .long, accessFlags := 24, slot := 0, constantValue := 0 }]
  methods := #[k20m0, k20m1, k20m2, k20m3, k20m4]
  instanceTypes := #[(.array .byte), .byte, .boolean, .int]
  staticTypes := #[.long]
  resolved := Array.replicate 422 none
  statics := none }

def pool21 : Array CpInfo := pool [(1, .class_ 2), (0, u "java/lang/Integer"), (16, u "digits"), (0, u "[C"), (33, u "(I)I"), (19, u "stringSize"), (2, u "getChars"), (0, u "(II[B)I"), (4, .fieldref 1 84), (0, .nameAndType 85 86), (0, u "DigitOnes"), (0, u "[B"), (0, .fieldref 1 88), (0, .nameAndType 89 86), (0, u "DigitTens"), (99, .class_ 190), (0, u "java/lang/Integer$IntegerCache"), (3, u "I"), (8, .class_ 204), (0, u "java/lang/Number"), (2, u "value"), (94, u "TYPE"), (0, u "Ljava/lang/Class;"), (0, .class_ 305), (0, u "java/lang/Comparable"), (0, .class_ 307), (0, u "java/lang/constant/Constable"), (0, .class_ 309), (0, u "java/lang/constant/ConstantDesc"), (0, u "MIN_VALUE"), (1, u "MAX_VALUE"), (3, u "SIZE"), (1, u "BYTES"), (1, u "serialVersionUID"), (0, u "J")] 131

def k21c0 : Code := { maxStack := 4, maxLocals := 7, code := jdk_33_method_12_code, exceptionTable := #[], attributes := #[] }
def k21m0 : Method := { name := "getChars", desc := "(II[B)I", sig := { parameters := [.int, .int, (.array .byte)], returnType := some .int }, accessFlags := 8, code := some k21c0 }
def k21c1 : Code := { maxStack := 2, maxLocals := 4, code := jdk_33_method_13_code, exceptionTable := #[], attributes := #[] }
def k21m1 : Method := { name := "stringSize", desc := "(I)I", sig := { parameters := [.int], returnType := some .int }, accessFlags := 8, code := some k21c1 }
/-- java/lang/Integer -/
def k21 : Class := { plain "java/lang/Integer" (some 16) with
  accessFlags := 49
  interfaces := #[10, 12, 13]
  cf := some (fileOf pool21 1 #[.nestMembers #[189]] #[{ accessFlags := 8, nameIndex := 77, descriptorIndex := 78, attributes := #[] }, { accessFlags := 8, nameIndex := 74, descriptorIndex := 54, attributes := #[] }] 49 203 #[304, 306, 308] #[{ accessFlags := 25, nameIndex := 310, descriptorIndex := 194, attributes := #[] }, { accessFlags := 25, nameIndex := 312, descriptorIndex := 194, attributes := #[] }, { accessFlags := 25, nameIndex := 302, descriptorIndex := 303, attributes := #[] }, { accessFlags := 24, nameIndex := 19, descriptorIndex := 20, attributes := #[] }, { accessFlags := 24, nameIndex := 89, descriptorIndex := 86, attributes := #[] }, { accessFlags := 24, nameIndex := 85, descriptorIndex := 86, attributes := #[] }, { accessFlags := 18, nameIndex := 207, descriptorIndex := 194, attributes := #[] }, { accessFlags := 25, nameIndex := 316, descriptorIndex := 194, attributes := #[] }, { accessFlags := 25, nameIndex := 318, descriptorIndex := 194, attributes := #[] }, { accessFlags := 26, nameIndex := 320, descriptorIndex := 321, attributes := #[] }])
  fields := #[{ name := "MIN_VALUE", type := .int, accessFlags := 25, slot := 0, constantValue := 0 }, { name := "MAX_VALUE", type := .int, accessFlags := 25, slot := 1, constantValue := 0 }, { name := "TYPE", type := (.object "java/lang/Class"), accessFlags := 25, slot := 2, constantValue := 0 }, { name := "digits", type := (.array .char), accessFlags := 24, slot := 3, constantValue := 0 }, { name := "DigitTens", type := (.array .byte), accessFlags := 24, slot := 4, constantValue := 0 }, { name := "DigitOnes", type := (.array .byte), accessFlags := 24, slot := 5, constantValue := 0 }, { name := "value", type := .int, accessFlags := 18, slot := 0, constantValue := 0 }, { name := "SIZE", type := .int, accessFlags := 25, slot := 6, constantValue := 0 }, { name := "BYTES", type := .int, accessFlags := 25, slot := 7, constantValue := 0 }, { name := "serialVersionUID", type := .long, accessFlags := 26, slot := 8, constantValue := 0 }]
  methods := #[k21m0, k21m1]
  instanceTypes := #[.int]
  staticTypes := #[.int, .int, (.object "java/lang/Class"), (.array .char), (.array .byte), (.array .byte), .int, .int, .long]
  resolved := Array.replicate 453 none
  statics := some 1 }

def pool22 : Array CpInfo := pool [(2, .class_ 4), (1, u "java/lang/Object"), (0, u "<init>"), (0, u "()V"), (1, .class_ 10), (1, u "java/lang/System"), (0, u "allowSecurityManager"), (0, u "I"), (16, u "cons"), (0, u "Ljava/io/Console;"), (77, .class_ 110), (1, u "java/lang/System$CallersHolder"), (43, u "initialErrStream"), (0, u "Ljava/io/PrintStream;"), (19, u "security"), (0, u "Ljava/lang/SecurityManager;"), (31, .class_ 209), (0, u "java/lang/System$1"), (7, u "props"), (0, u "Ljava/util/Properties;"), (2, u "lineSeparator"), (0, u "Ljava/lang/String;"), (96, .class_ 321), (1, u "java/lang/System$LoggerFinder"), (5, .class_ 328), (0, u "java/lang/System$Logger"), (67, u "err"), (2, u "out"), (91, u "notSupportedJnuEncoding"), (15, u "in"), (17, u "initialIn"), (0, u "Ljava/io/InputStream;"), (35, u "bootLayer"), (0, u "Ljava/lang/ModuleLayer;"), (99, .class_ 664), (0, u "java/lang/System$2"), (9, u "NEVER"), (2, u "MAYBE"), (49, u "arraycopy"), (0, u "(Ljava/lang/Object;ILjava/lang/Object;II)V"), (72, .class_ 802), (0, u "java/lang/System$Logger$Level")] 31

def k22m0 : Method := { name := "<init>", desc := "()V", sig := { parameters := [], returnType := none }, accessFlags := 2, code := none }
def k22m1 : Method := { name := "arraycopy", desc := "(Ljava/lang/Object;ILjava/lang/Object;II)V", sig := { parameters := [(.object "java/lang/Object"), .int, (.object "java/lang/Object"), .int, .int], returnType := none }, accessFlags := 265, code := none }
/-- java/lang/System -/
def k22 : Class := { plain "java/lang/System" (some 0) with
  accessFlags := 49
  interfaces := #[]
  cf := some (fileOf pool22 8 #[.nestMembers #[319, 327, 801, 108, 663, 208]] #[{ accessFlags := 2, nameIndex := 5, descriptorIndex := 6, attributes := #[] }, { accessFlags := 265, nameIndex := 727, descriptorIndex := 728, attributes := #[] }] 49 2 #[] #[{ accessFlags := 25, nameIndex := 507, descriptorIndex := 526, attributes := #[] }, { accessFlags := 25, nameIndex := 399, descriptorIndex := 155, attributes := #[] }, { accessFlags := 25, nameIndex := 396, descriptorIndex := 155, attributes := #[] }, { accessFlags := 10, nameIndex := 525, descriptorIndex := 526, attributes := #[] }, { accessFlags := 26, nameIndex := 674, descriptorIndex := 12, attributes := #[] }, { accessFlags := 26, nameIndex := 677, descriptorIndex := 12, attributes := #[] }, { accessFlags := 10, nameIndex := 11, descriptorIndex := 12, attributes := #[] }, { accessFlags := 74, nameIndex := 175, descriptorIndex := 176, attributes := #[] }, { accessFlags := 10, nameIndex := 491, descriptorIndex := 222, attributes := #[] }, { accessFlags := 74, nameIndex := 29, descriptorIndex := 30, attributes := #[] }, { accessFlags := 74, nameIndex := 154, descriptorIndex := 155, attributes := #[] }, { accessFlags := 10, nameIndex := 217, descriptorIndex := 218, attributes := #[] }, { accessFlags := 10, nameIndex := 221, descriptorIndex := 222, attributes := #[] }, { accessFlags := 8, nameIndex := 562, descriptorIndex := 563, attributes := #[] }])
  fields := #[{ name := "in", type := (.object "java/io/InputStream"), accessFlags := 25, slot := 0, constantValue := 0 }, { name := "out", type := (.object "java/io/PrintStream"), accessFlags := 25, slot := 1, constantValue := 0 }, { name := "err", type := (.object "java/io/PrintStream"), accessFlags := 25, slot := 2, constantValue := 0 }, { name := "initialIn", type := (.object "java/io/InputStream"), accessFlags := 10, slot := 3, constantValue := 0 }, { name := "NEVER", type := .int, accessFlags := 26, slot := 4, constantValue := 0 }, { name := "MAYBE", type := .int, accessFlags := 26, slot := 5, constantValue := 0 }, { name := "allowSecurityManager", type := .int, accessFlags := 10, slot := 6, constantValue := 0 }, { name := "security", type := (.object "java/lang/SecurityManager"), accessFlags := 74, slot := 7, constantValue := 0 }, { name := "notSupportedJnuEncoding", type := (.object "java/lang/String"), accessFlags := 10, slot := 8, constantValue := 0 }, { name := "cons", type := (.object "java/io/Console"), accessFlags := 74, slot := 9, constantValue := 0 }, { name := "initialErrStream", type := (.object "java/io/PrintStream"), accessFlags := 74, slot := 10, constantValue := 0 }, { name := "props", type := (.object "java/util/Properties"), accessFlags := 10, slot := 11, constantValue := 0 }, { name := "lineSeparator", type := (.object "java/lang/String"), accessFlags := 10, slot := 12, constantValue := 0 }, { name := "bootLayer", type := (.object "java/lang/ModuleLayer"), accessFlags := 8, slot := 13, constantValue := 0 }]
  methods := #[k22m0, k22m1]
  instanceTypes := #[]
  staticTypes := #[(.object "java/io/InputStream"), (.object "java/io/PrintStream"), (.object "java/io/PrintStream"), (.object "java/io/InputStream"), .int, .int, .int, (.object "java/lang/SecurityManager"), (.object "java/lang/String"), (.object "java/io/Console"), (.object "java/io/PrintStream"), (.object "java/util/Properties"), (.object "java/lang/String"), (.object "java/lang/ModuleLayer")]
  resolved := Array.replicate 834 none
  statics := none }

def pool23 : Array CpInfo := pool [(2, .class_ 4), (1, u "java/lang/Object"), (0, u "<init>"), (0, u "()V"), (7, .class_ 16), (1, u "java/util/Arrays"), (57, .class_ 76), (1, u "java/util/Arrays$NaturalOrder"), (36, .class_ 115), (1, u "java/util/Arrays$LegacyMergeSort"), (1, u "Z"), (21, u "copyOfRange"), (10, .methodref 151 152), (0, .class_ 153), (0, .nameAndType 154 155), (0, u "java/lang/System"), (0, u "arraycopy"), (0, u "(Ljava/lang/Object;ILjava/lang/Object;II)V"), (148, .methodref 305 306), (0, .class_ 307), (0, .nameAndType 308 309), (0, u "java/lang/Math"), (0, u "min"), (0, u "(II)I"), (29, .methodref 14 340), (0, .nameAndType 341 342), (0, u "copyOfRangeByte"), (0, u "([BII)[B"), (0, .methodref 14 344), (0, .nameAndType 345 346), (0, u "checkLength"), (0, u "(II)V"), (28, .class_ 376), (0, u "java/util/Arrays$ArrayList"), (68, u "$assertionsDisabled"), (269, u "MIN_ARRAY_SORT_GRAN"), (0, u "I"), (2, u "INSERTIONSORT_THRESHOLD"), (255, .class_ 976), (0, u "java/util/Arrays$ArrayItr")] 52

def k23m0 : Method := { name := "<init>", desc := "()V", sig := { parameters := [], returnType := none }, accessFlags := 2, code := none }
def k23c1 : Code := { maxStack := 4, maxLocals := 2, code := jdk_65_method_131_code, exceptionTable := #[], attributes := #[] }
def k23m1 : Method := { name := "checkLength", desc := "(II)V", sig := { parameters := [.int, .int], returnType := none }, accessFlags := 10, code := some k23c1 }
def k23c2 : Code := { maxStack := 3, maxLocals := 3, code := jdk_65_method_132_code, exceptionTable := #[], attributes := #[] }
def k23m2 : Method := { name := "copyOfRange", desc := "([BII)[B", sig := { parameters := [(.array .byte), .int, .int], returnType := some (.array .byte) }, accessFlags := 9, code := some k23c2 }
def k23c3 : Code := { maxStack := 6, maxLocals := 5, code := jdk_65_method_133_code, exceptionTable := #[], attributes := #[] }
def k23m3 : Method := { name := "copyOfRangeByte", desc := "([BII)[B", sig := { parameters := [(.array .byte), .int, .int], returnType := some (.array .byte) }, accessFlags := 10, code := some k23c3 }
/-- java/util/Arrays -/
def k23 : Class := { plain "java/util/Arrays" (some 0) with
  accessFlags := 49
  interfaces := #[]
  cf := some (fileOf pool23 14 #[.nestMembers #[975, 375, 113, 74]] #[{ accessFlags := 2, nameIndex := 5, descriptorIndex := 6, attributes := #[] }, { accessFlags := 10, nameIndex := 345, descriptorIndex := 346, attributes := #[] }, { accessFlags := 9, nameIndex := 139, descriptorIndex := 342, attributes := #[] }, { accessFlags := 10, nameIndex := 341, descriptorIndex := 342, attributes := #[] }] 49 2 #[] #[{ accessFlags := 26, nameIndex := 715, descriptorIndex := 716, attributes := #[] }, { accessFlags := 26, nameIndex := 719, descriptorIndex := 716, attributes := #[] }, { accessFlags := 4120, nameIndex := 445, descriptorIndex := 117, attributes := #[] }])
  fields := #[{ name := "MIN_ARRAY_SORT_GRAN", type := .int, accessFlags := 26, slot := 0, constantValue := 0 }, { name := "INSERTIONSORT_THRESHOLD", type := .int, accessFlags := 26, slot := 1, constantValue := 0 }, { name := "$assertionsDisabled", type := .boolean, accessFlags := 4120, slot := 2, constantValue := 0 }]
  methods := #[k23m0, k23m1, k23m2, k23m3]
  instanceTypes := #[]
  staticTypes := #[.int, .int, .boolean]
  resolved := Array.replicate 1029 none
  statics := none }

def pool24 : Array CpInfo := pool [(4, .class_ 6), (1, u "java/lang/Object"), (0, u "<init>"), (0, u "()V"), (5, .class_ 16), (1, u "java/lang/StringLatin1"), (104, u "$assertionsDisabled"), (0, u "Z"), (98, .class_ 223), (1, u "java/lang/StringLatin1$LinesSpliterator"), (166, .class_ 391), (0, u "java/lang/StringLatin1$CharsSpliterator")] 3

def k24m0 : Method := { name := "<init>", desc := "()V", sig := { parameters := [], returnType := none }, accessFlags := 0, code := none }
/-- java/lang/StringLatin1 -/
def k24 : Class := { plain "java/lang/StringLatin1" (some 0) with
  accessFlags := 48
  interfaces := #[]
  cf := some (fileOf pool24 14 #[.nestMembers #[390, 221]] #[{ accessFlags := 0, nameIndex := 7, descriptorIndex := 8, attributes := #[] }] 48 4 #[] #[{ accessFlags := 4120, nameIndex := 121, descriptorIndex := 122, attributes := #[] }])
  fields := #[{ name := "$assertionsDisabled", type := .boolean, accessFlags := 4120, slot := 0, constantValue := 0 }]
  methods := #[k24m0]
  instanceTypes := #[]
  staticTypes := #[.boolean]
  resolved := Array.replicate 395 none
  statics := none }

def pool25 : Array CpInfo := pool [(2, .class_ 4), (1, u "java/lang/Object"), (0, u "<init>"), (0, u "()V"), (17, .class_ 26), (1, u "jdk/internal/util/Preconditions"), (28, .class_ 56), (0, u "jdk/internal/util/Preconditions$4"), (57, .class_ 115), (0, u "jdk/internal/util/Preconditions$1"), (7, u "SIOOBE_FORMATTER"), (0, u "Ljava/util/function/BiFunction;"), (0, .class_ 126), (0, u "jdk/internal/util/Preconditions$2"), (3, u "AIOOBE_FORMATTER"), (0, .class_ 132), (0, u "jdk/internal/util/Preconditions$3"), (3, u "IOOBE_FORMATTER")] 57

def k25m0 : Method := { name := "<init>", desc := "()V", sig := { parameters := [], returnType := none }, accessFlags := 1, code := none }
/-- jdk/internal/util/Preconditions -/
def k25 : Class := { plain "jdk/internal/util/Preconditions" (some 0) with
  accessFlags := 33
  interfaces := #[]
  cf := some (fileOf pool25 24 #[.nestMembers #[55, 131, 125, 114]] #[{ accessFlags := 1, nameIndex := 5, descriptorIndex := 6, attributes := #[] }] 33 2 #[] #[{ accessFlags := 25, nameIndex := 123, descriptorIndex := 124, attributes := #[] }, { accessFlags := 25, nameIndex := 130, descriptorIndex := 124, attributes := #[] }, { accessFlags := 25, nameIndex := 136, descriptorIndex := 124, attributes := #[] }])
  fields := #[{ name := "SIOOBE_FORMATTER", type := (.object "java/util/function/BiFunction"), accessFlags := 25, slot := 0, constantValue := 0 }, { name := "AIOOBE_FORMATTER", type := (.object "java/util/function/BiFunction"), accessFlags := 25, slot := 1, constantValue := 0 }, { name := "IOOBE_FORMATTER", type := (.object "java/util/function/BiFunction"), accessFlags := 25, slot := 2, constantValue := 0 }]
  methods := #[k25m0]
  instanceTypes := #[]
  staticTypes := #[(.object "java/util/function/BiFunction"), (.object "java/util/function/BiFunction"), (.object "java/util/function/BiFunction")]
  resolved := Array.replicate 194 none
  statics := some 2 }

def pool26 : Array CpInfo := pool [(9, u "<init>"), (6, .class_ 18), (1, u "java/lang/Object"), (0, u "()V"), (1, .class_ 23), (1, u "jdk/internal/util/ArraysSupport"), (0, u "LOG2_ARRAY_LONG_INDEX_SCALE"), (0, u "I"), (2, u "U"), (0, u "Ljdk/internal/misc/Unsafe;"), (8, u "BIG_ENDIAN"), (0, u "Z"), (8, u "LOG2_BYTE_BIT_SIZE"), (4, u "LOG2_ARRAY_INT_INDEX_SCALE"), (54, u "JLA"), (0, u "Ljdk/internal/access/JavaLangAccess;"), (11, u "LOG2_ARRAY_BOOLEAN_INDEX_SCALE"), (9, u "LOG2_ARRAY_BYTE_INDEX_SCALE"), (5, u "LOG2_ARRAY_CHAR_INDEX_SCALE"), (5, u "LOG2_ARRAY_SHORT_INDEX_SCALE"), (18, u "LOG2_ARRAY_FLOAT_INDEX_SCALE"), (24, u "LOG2_ARRAY_DOUBLE_INDEX_SCALE"), (89, u "T_BOOLEAN"), (2, u "T_CHAR"), (1, u "T_FLOAT"), (1, u "T_DOUBLE"), (1, u "T_BYTE"), (1, u "T_SHORT"), (1, u "T_INT"), (1, u "T_LONG"), (1, u "SOFT_MAX_ARRAY_LENGTH")] 83

def k26m0 : Method := { name := "<init>", desc := "()V", sig := { parameters := [], returnType := none }, accessFlags := 2, code := none }
/-- jdk/internal/util/ArraysSupport -/
def k26 : Class := { plain "jdk/internal/util/ArraysSupport" (some 0) with
  accessFlags := 33
  interfaces := #[]
  cf := some (fileOf pool26 21 #[] #[{ accessFlags := 2, nameIndex := 9, descriptorIndex := 19, attributes := #[] }] 33 16 #[] #[{ accessFlags := 24, nameIndex := 28, descriptorIndex := 29, attributes := #[] }, { accessFlags := 26, nameIndex := 38, descriptorIndex := 39, attributes := #[] }, { accessFlags := 25, nameIndex := 121, descriptorIndex := 25, attributes := #[] }, { accessFlags := 25, nameIndex := 131, descriptorIndex := 25, attributes := #[] }, { accessFlags := 25, nameIndex := 137, descriptorIndex := 25, attributes := #[] }, { accessFlags := 25, nameIndex := 143, descriptorIndex := 25, attributes := #[] }, { accessFlags := 25, nameIndex := 53, descriptorIndex := 25, attributes := #[] }, { accessFlags := 25, nameIndex := 24, descriptorIndex := 25, attributes := #[] }, { accessFlags := 25, nameIndex := 162, descriptorIndex := 25, attributes := #[] }, { accessFlags := 25, nameIndex := 187, descriptorIndex := 25, attributes := #[] }, { accessFlags := 26, nameIndex := 48, descriptorIndex := 25, attributes := #[] }, { accessFlags := 25, nameIndex := 277, descriptorIndex := 25, attributes := #[] }, { accessFlags := 25, nameIndex := 280, descriptorIndex := 25, attributes := #[] }, { accessFlags := 25, nameIndex := 282, descriptorIndex := 25, attributes := #[] }, { accessFlags := 25, nameIndex := 284, descriptorIndex := 25, attributes := #[] }, { accessFlags := 25, nameIndex := 286, descriptorIndex := 25, attributes := #[] }, { accessFlags := 25, nameIndex := 288, descriptorIndex := 25, attributes := #[] }, { accessFlags := 25, nameIndex := 290, descriptorIndex := 25, attributes := #[] }, { accessFlags := 25, nameIndex := 292, descriptorIndex := 25, attributes := #[] }, { accessFlags := 26, nameIndex := 108, descriptorIndex := 109, attributes := #[] }, { accessFlags := 25, nameIndex := 294, descriptorIndex := 25, attributes := #[] }])
  fields := #[{ name := "U", type := (.object "jdk/internal/misc/Unsafe"), accessFlags := 24, slot := 0, constantValue := 0 }, { name := "BIG_ENDIAN", type := .boolean, accessFlags := 26, slot := 1, constantValue := 0 }, { name := "LOG2_ARRAY_BOOLEAN_INDEX_SCALE", type := .int, accessFlags := 25, slot := 2, constantValue := 0 }, { name := "LOG2_ARRAY_BYTE_INDEX_SCALE", type := .int, accessFlags := 25, slot := 3, constantValue := 0 }, { name := "LOG2_ARRAY_CHAR_INDEX_SCALE", type := .int, accessFlags := 25, slot := 4, constantValue := 0 }, { name := "LOG2_ARRAY_SHORT_INDEX_SCALE", type := .int, accessFlags := 25, slot := 5, constantValue := 0 }, { name := "LOG2_ARRAY_INT_INDEX_SCALE", type := .int, accessFlags := 25, slot := 6, constantValue := 0 }, { name := "LOG2_ARRAY_LONG_INDEX_SCALE", type := .int, accessFlags := 25, slot := 7, constantValue := 0 }, { name := "LOG2_ARRAY_FLOAT_INDEX_SCALE", type := .int, accessFlags := 25, slot := 8, constantValue := 0 }, { name := "LOG2_ARRAY_DOUBLE_INDEX_SCALE", type := .int, accessFlags := 25, slot := 9, constantValue := 0 }, { name := "LOG2_BYTE_BIT_SIZE", type := .int, accessFlags := 26, slot := 10, constantValue := 0 }, { name := "T_BOOLEAN", type := .int, accessFlags := 25, slot := 11, constantValue := 0 }, { name := "T_CHAR", type := .int, accessFlags := 25, slot := 12, constantValue := 0 }, { name := "T_FLOAT", type := .int, accessFlags := 25, slot := 13, constantValue := 0 }, { name := "T_DOUBLE", type := .int, accessFlags := 25, slot := 14, constantValue := 0 }, { name := "T_BYTE", type := .int, accessFlags := 25, slot := 15, constantValue := 0 }, { name := "T_SHORT", type := .int, accessFlags := 25, slot := 16, constantValue := 0 }, { name := "T_INT", type := .int, accessFlags := 25, slot := 17, constantValue := 0 }, { name := "T_LONG", type := .int, accessFlags := 25, slot := 18, constantValue := 0 }, { name := "JLA", type := (.object "jdk/internal/access/JavaLangAccess"), accessFlags := 26, slot := 19, constantValue := 0 }, { name := "SOFT_MAX_ARRAY_LENGTH", type := .int, accessFlags := 25, slot := 20, constantValue := 0 }]
  methods := #[k26m0]
  instanceTypes := #[]
  staticTypes := #[(.object "jdk/internal/misc/Unsafe"), .boolean, .int, .int, .int, .int, .int, .int, .int, .int, .int, .int, .int, .int, .int, .int, .int, .int, .int, (.object "jdk/internal/access/JavaLangAccess"), .int]
  resolved := Array.replicate 378 none
  statics := none }

def pool27 : Array CpInfo := pool [(1, u "java/lang/Cloneable"), (0, .class_ 1), (0, u "java/lang/Object"), (0, .class_ 3)] 3

/-- java/lang/Cloneable -/
def k27 : Class := { plain "java/lang/Cloneable" (some 0) with
  accessFlags := 1537
  interfaces := #[]
  cf := some (fileOf pool27 2 #[] #[] 1537 4 #[] #[])
  fields := #[]
  methods := #[]
  instanceTypes := #[]
  staticTypes := #[]
  resolved := Array.replicate 8 none
  statics := none }

/-- the primitive byte -/
def k28 : Class := { plain "byte" none with kind := .primitive 'B', accessFlags := 0x411 }
/-- [B -/
def k29 : Class := { plain "[B" (some 0) with kind := .array 28 .byte, interfaces := #[27, 9], accessFlags := 1041 }

/-- the primitive int -/
def k30 : Class := { plain "int" none with kind := .primitive 'I', accessFlags := 0x411 }
/-- [I -/
def k31 : Class := { plain "[I" (some 0) with kind := .array 30 .int, interfaces := #[27, 9], accessFlags := 1041 }

def classes0 : Array Class := #[k0, k1, k2, k3, k4, k5, k6, k7, k8, k9, k10, k11, k12, k13, k14, k15, k16, k17, k18, k19, k20, k21, k22, k23, k24, k25, k26, k27, k28, k29, k30, k31]
/-- the class that the rule has made for the site at 5 of com/example/tidewatch/tidewatch/core/TidewatchPolicy$Settings.check -/
def k32 : Class := Jvm.LamKit.madeRec { classes := classes0 } "com/example/tidewatch/tidewatch/core/TidewatchPolicy$Settings" (Jvm.Lambda.Shape.mk "java/util/function/IntConsumer" "accept" (Jvm.ClassFile.MethodDescriptor.mk ([Jvm.ClassFile.FieldType.int] : List Jvm.ClassFile.FieldType) (Option.none : Option Jvm.ClassFile.FieldType)) ([] : List Jvm.ClassFile.FieldType) (6 : Nat) "com/example/tidewatch/tidewatch/core/PolicySettings" "checkInterval" (Jvm.ClassFile.MethodDescriptor.mk ([Jvm.ClassFile.FieldType.int] : List Jvm.ClassFile.FieldType) (Option.none : Option Jvm.ClassFile.FieldType)) true (Jvm.ClassFile.MethodDescriptor.mk ([Jvm.ClassFile.FieldType.int] : List Jvm.ClassFile.FieldType) (Option.none : Option Jvm.ClassFile.FieldType))) 32

def heap : Heap := #[{ cls := 14, slots := #[.long 0, .int 1, .null, .int 0, .null, .int 0, .int 0], vm := .statics 14 },
  { cls := 21, slots := #[.int 0, .int 0, .null, .null, .ref 5, .ref 4, .int 0, .int 0, .long 0], vm := .statics 21 },
  { cls := 25, slots := #[.null, .null, .null], vm := .statics 25 },
  { cls := 32, slots := #[], vm := .none },
  { cls := 29, slots := #[.int 48, .int 49, .int 50, .int 51, .int 52, .int 53, .int 54, .int 55, .int 56, .int 57, .int 48, .int 49, .int 50, .int 51, .int 52, .int 53, .int 54, .int 55, .int 56, .int 57, .int 48, .int 49, .int 50, .int 51, .int 52, .int 53, .int 54, .int 55, .int 56, .int 57, .int 48, .int 49, .int 50, .int 51, .int 52, .int 53, .int 54, .int 55, .int 56, .int 57, .int 48, .int 49, .int 50, .int 51, .int 52, .int 53, .int 54, .int 55, .int 56, .int 57, .int 48, .int 49, .int 50, .int 51, .int 52, .int 53, .int 54, .int 55, .int 56, .int 57, .int 48, .int 49, .int 50, .int 51, .int 52, .int 53, .int 54, .int 55, .int 56, .int 57, .int 48, .int 49, .int 50, .int 51, .int 52, .int 53, .int 54, .int 55, .int 56, .int 57, .int 48, .int 49, .int 50, .int 51, .int 52, .int 53, .int 54, .int 55, .int 56, .int 57, .int 48, .int 49, .int 50, .int 51, .int 52, .int 53, .int 54, .int 55, .int 56, .int 57], vm := .none },
  { cls := 29, slots := #[.int 48, .int 48, .int 48, .int 48, .int 48, .int 48, .int 48, .int 48, .int 48, .int 48, .int 49, .int 49, .int 49, .int 49, .int 49, .int 49, .int 49, .int 49, .int 49, .int 49, .int 50, .int 50, .int 50, .int 50, .int 50, .int 50, .int 50, .int 50, .int 50, .int 50, .int 51, .int 51, .int 51, .int 51, .int 51, .int 51, .int 51, .int 51, .int 51, .int 51, .int 52, .int 52, .int 52, .int 52, .int 52, .int 52, .int 52, .int 52, .int 52, .int 52, .int 53, .int 53, .int 53, .int 53, .int 53, .int 53, .int 53, .int 53, .int 53, .int 53, .int 54, .int 54, .int 54, .int 54, .int 54, .int 54, .int 54, .int 54, .int 54, .int 54, .int 55, .int 55, .int 55, .int 55, .int 55, .int 55, .int 55, .int 55, .int 55, .int 55, .int 56, .int 56, .int 56, .int 56, .int 56, .int 56, .int 56, .int 56, .int 56, .int 56, .int 57, .int 57, .int 57, .int 57, .int 57, .int 57, .int 57, .int 57, .int 57, .int 57], vm := .none }]
def classes : Array Class := #[k0, k1, k2, k3, k4, k5, k6, k7, k8, k9, k10, k11, k12, k13, k14, k15, k16, k17, k18, k19, k20, k21, k22, k23, k24, k25, k26, k27, k28, k29, k30, k31, k32]
def interned : List (Array UInt16 × Addr) := []
def slotsUsed : Nat := 219
def theMethod : MethodId := ⟨1, 1⟩
def args0 : Array Value := #[.int 5, .int 7, .int 3]
def aboutOver (below : List Frame) : State where
  vm := { classes := classes, interned := interned.toArray }
  heap := heap
  slotsUsed := slotsUsed
  threads := #[{ frames := .invoking theMethod args0 :: below }]
def below0 : List Frame := [.native { method := ⟨0, 0⟩, args := #[] }]
def about1 : State := aboutOver below0
def p0 : Program := .bare "" "" ""
def e0 : Env := launch0.env 0 0 0
theorem w_frames : about1.frames = Frame.invoking theMethod args0 :: below0 := rfl
set_option maxRecDepth 65536 in
theorem w_args : argsFit about1.vm theMethod args0 = true := by decide +kernel
set_option maxRecDepth 65536 in
theorem w_heap : heapFits about1 = true := by decide +kernel
set_option maxRecDepth 65536 in
theorem w_runnable : about1.curStatus? = some .runnable := by decide +kernel
set_option maxRecDepth 65536 in
theorem w_alone : about1.alone = true := by decide +kernel
set_option maxRecDepth 65536 in
theorem w_named : about1.methodNamed? x = some theMethod := by decide +kernel
set_option maxRecDepth 65536 in
theorem w_hears : about1.hears theMethod below0 = true := by decide +kernel
set_option maxRecDepth 65536 in
theorem w_ripe : about1.ripe theMethod args0 below0 = true := by decide +kernel
theorem w_running : about1.status = .running := rfl
set_option maxRecDepth 65536 in
theorem w_room : about1.hasRoom e0.platform room_1 = true :=
  launch0.hasRoom_least _ room_1 (by decide +kernel) (by decide +kernel) (by decide +kernel) (by decide +kernel) (by decide +kernel) (by decide +kernel)
theorem allAtoms_all (ts : List Jvm.Cond) (a : Array Jvm.Value) (st : Jvm.State) : (allAtoms ts).before a st = ts.all (fun c => c.before a st) := by
  induction ts with
  | nil => rfl
  | cons c t ih =>
    show (Jvm.Cond.and c (allAtoms t)).before a st = _
    rw [Jvm.Cond.before_and, ih, List.all_cons]
def words1 : List Jvm.Cond := Jvm.Cond.code x code maxLocals ret :: tables_1
/-- a 'code' word, met by the world's own term for the bytes: nothing is compared byte by byte -/
theorem code_word {y : MethodName} {bytes : ByteArray} {mx : Nat} {rt : Option FieldType} {a : Array Value} {s : State} {m : MethodId} {meth : Method} {c : Code} (h1 : s.methodNamed? y = some m) (h2 : s.vm.method? m = some meth) (h3 : meth.code = some c) (h4 : c.code = bytes)
    (h5 : (c.maxLocals == mx && c.exceptionTable.isEmpty && decide (c.maxStack ≤ mostOperands) && decide (meth.sig.returnType = rt) && !meth.locks && decide (parseMethodDescriptor y.desc = some meth.sig)) = true) : (Jvm.Cond.code y bytes mx rt).before a s = true := by
  simp only [Bool.and_eq_true, beq_iff_eq, Bool.not_eq_true', decide_eq_true_eq] at h5
  obtain ⟨⟨⟨⟨⟨g1, g2⟩, g3⟩, g4⟩, g5⟩, g6⟩ := h5
  simp [Cond.before, Cond.holds, Cond.value, h1, h2, h3, h4, g1, g2, g3, g4, g5, g6]
def isCode : Jvm.Cond → Bool
  | .code _ _ _ _ => true
  | _ => false
theorem all_split {L : List Jvm.Cond} {P : Jvm.Cond → Bool} (h1 : L.all (fun c => isCode c || P c) = true) (h2 : ∀ c ∈ L.filter isCode, P c = true) : L.all P = true := by
  refine List.all_eq_true.mpr fun c hc => ?_
  have h := List.all_eq_true.mp h1 c hc
  rcases Bool.eq_false_or_eq_true (isCode c) with hi | hi
  · exact h2 c (List.mem_filter.mpr ⟨hc, hi⟩)
  · simpa [hi] using h
set_option maxRecDepth 65536 in
theorem w_c0 : (Jvm.Cond.code x code maxLocals ret).before args0 about1 = true := code_word (m := ⟨1, 1⟩) (meth := k1m1) (c := k1c1) (by decide +kernel) rfl rfl rfl (by decide +kernel)
set_option maxRecDepth 65536 in
theorem w_c1 : (Jvm.Cond.code ({ cls := "java/lang/Math", name := "min", desc := "(JJ)J" } : Jvm.MethodName) jdk_29_method_70_code (4 : Nat) (Option.some Jvm.ClassFile.FieldType.long)).before args0 about1 = true := code_word (m := ⟨2, 4⟩) (meth := k2m4) (c := k2c4) (by decide +kernel) rfl rfl rfl (by decide +kernel)
set_option maxRecDepth 65536 in
theorem w_c2 : (Jvm.Cond.code ({ cls := "java/lang/Math", name := "max", desc := "(II)I" } : Jvm.MethodName) jdk_29_method_65_code (2 : Nat) (Option.some Jvm.ClassFile.FieldType.int)).before args0 about1 = true := code_word (m := ⟨2, 2⟩) (meth := k2m2) (c := k2c2) (by decide +kernel) rfl rfl rfl (by decide +kernel)
set_option maxRecDepth 65536 in
theorem w_c3 : (Jvm.Cond.code ({ cls := "com/example/tidewatch/tidewatch/core/TidewatchPolicy$Settings", name := "<init>", desc := "(DIDDDDDDDIII)V" } : Jvm.MethodName) prog_74_method_1_code (21 : Nat) (Option.none : Option Jvm.ClassFile.FieldType)).before args0 about1 = true := code_word (m := ⟨5, 0⟩) (meth := k5m0) (c := k5c0) (by decide +kernel) rfl rfl rfl (by decide +kernel)
set_option maxRecDepth 65536 in
theorem w_c4 : (Jvm.Cond.code ({ cls := "java/lang/Record", name := "<init>", desc := "()V" } : Jvm.MethodName) jdk_30_method_1_code (1 : Nat) (Option.none : Option Jvm.ClassFile.FieldType)).before args0 about1 = true := code_word (m := ⟨3, 0⟩) (meth := k3m0) (c := k3c0) (by decide +kernel) rfl rfl rfl (by decide +kernel)
set_option maxRecDepth 65536 in
theorem w_c5 : (Jvm.Cond.code ({ cls := "java/lang/Object", name := "<init>", desc := "()V" } : Jvm.MethodName) object_method_1_code (1 : Nat) (Option.none : Option Jvm.ClassFile.FieldType)).before args0 about1 = true := code_word (m := ⟨0, 0⟩) (meth := k0m0) (c := k0c0) (by decide +kernel) rfl rfl rfl (by decide +kernel)
set_option maxRecDepth 65536 in
theorem w_c6 : (Jvm.Cond.code ({ cls := "java/util/OptionalInt", name := "of", desc := "(I)Ljava/util/OptionalInt;" } : Jvm.MethodName) jdk_2649_method_4_code (1 : Nat) (Option.some (Jvm.ClassFile.FieldType.object "java/util/OptionalInt"))).before args0 about1 = true := code_word (m := ⟨6, 2⟩) (meth := k6m2) (c := k6c2) (by decide +kernel) rfl rfl rfl (by decide +kernel)
set_option maxRecDepth 65536 in
theorem w_c7 : (Jvm.Cond.code ({ cls := "java/util/OptionalInt", name := "<init>", desc := "(I)V" } : Jvm.MethodName) jdk_2649_method_3_code (2 : Nat) (Option.none : Option Jvm.ClassFile.FieldType)).before args0 about1 = true := code_word (m := ⟨6, 1⟩) (meth := k6m1) (c := k6c1) (by decide +kernel) rfl rfl rfl (by decide +kernel)
set_option maxRecDepth 65536 in
theorem w_c8 : (Jvm.Cond.code ({ cls := "com/example/tidewatch/tidewatch/core/TidewatchPolicy$Settings", name := "check", desc := "(DLjava/util/OptionalInt;DDDDDDDIII)V" } : Jvm.MethodName) prog_74_method_3_code (22 : Nat) (Option.none : Option Jvm.ClassFile.FieldType)).before args0 about1 = true := code_word (m := ⟨5, 1⟩) (meth := k5m1) (c := k5c1) (by decide +kernel) rfl rfl rfl (by decide +kernel)
set_option maxRecDepth 65536 in
theorem w_c9 : (Jvm.Cond.code ({ cls := "com/example/tidewatch/tidewatch/core/TargetUtilization", name := "check", desc := "(D)V" } : Jvm.MethodName) prog_62_method_2_code (2 : Nat) (Option.none : Option Jvm.ClassFile.FieldType)).before args0 about1 = true := code_word (m := ⟨7, 1⟩) (meth := k7m1) (c := k7c1) (by decide +kernel) rfl rfl rfl (by decide +kernel)
set_option maxRecDepth 65536 in
theorem w_c10 : (Jvm.Cond.code ({ cls := "java/util/OptionalInt", name := "ifPresent", desc := "(Ljava/util/function/IntConsumer;)V" } : Jvm.MethodName) jdk_2649_method_8_code (2 : Nat) (Option.none : Option Jvm.ClassFile.FieldType)).before args0 about1 = true := code_word (m := ⟨6, 5⟩) (meth := k6m5) (c := k6c5) (by decide +kernel) rfl rfl rfl (by decide +kernel)
set_option maxRecDepth 65536 in
theorem w_c11 : (Jvm.Cond.code ({ cls := "com/example/tidewatch/tidewatch/core/PolicySettings", name := "checkInterval", desc := "(I)V" } : Jvm.MethodName) prog_52_method_2_code (1 : Nat) (Option.none : Option Jvm.ClassFile.FieldType)).before args0 about1 = true := code_word (m := ⟨4, 0⟩) (meth := k4m0) (c := k4c0) (by decide +kernel) rfl rfl rfl (by decide +kernel)
set_option maxRecDepth 65536 in
theorem w_c12 : (Jvm.Cond.code ({ cls := "com/example/tidewatch/tidewatch/core/SettingChecks", name := "atLeastOne", desc := "(Ljava/lang/String;J)V" } : Jvm.MethodName) prog_58_method_2_code (3 : Nat) (Option.none : Option Jvm.ClassFile.FieldType)).before args0 about1 = true := code_word (m := ⟨15, 1⟩) (meth := k15m1) (c := k15c1) (by decide +kernel) rfl rfl rfl (by decide +kernel)
set_option maxRecDepth 65536 in
theorem w_c13 : (Jvm.Cond.code ({ cls := "com/example/tidewatch/tidewatch/core/SettingChecks", name := "finiteAtLeastZero", desc := "(Ljava/lang/String;D)V" } : Jvm.MethodName) prog_58_method_7_code (3 : Nat) (Option.none : Option Jvm.ClassFile.FieldType)).before args0 about1 = true := code_word (m := ⟨15, 2⟩) (meth := k15m2) (c := k15c2) (by decide +kernel) rfl rfl rfl (by decide +kernel)
set_option maxRecDepth 65536 in
theorem w_c14 : (Jvm.Cond.code ({ cls := "com/example/tidewatch/tidewatch/core/SettingChecks", name := "isFiniteAtLeastZero", desc := "(D)Z" } : Jvm.MethodName) prog_58_method_8_code (2 : Nat) (Option.some Jvm.ClassFile.FieldType.boolean)).before args0 about1 = true := code_word (m := ⟨15, 3⟩) (meth := k15m3) (c := k15c3) (by decide +kernel) rfl rfl rfl (by decide +kernel)
set_option maxRecDepth 65536 in
theorem w_c15 : (Jvm.Cond.code ({ cls := "java/lang/Double", name := "isInfinite", desc := "(D)Z" } : Jvm.MethodName) jdk_117_method_7_code (2 : Nat) (Option.some Jvm.ClassFile.FieldType.boolean)).before args0 about1 = true := code_word (m := ⟨17, 0⟩) (meth := k17m0) (c := k17c0) (by decide +kernel) rfl rfl rfl (by decide +kernel)
set_option maxRecDepth 65536 in
theorem w_c16 : (Jvm.Cond.code ({ cls := "java/lang/Math", name := "abs", desc := "(D)D" } : Jvm.MethodName) jdk_29_method_64_code (2 : Nat) (Option.some Jvm.ClassFile.FieldType.double)).before args0 about1 = true := code_word (m := ⟨2, 1⟩) (meth := k2m1) (c := k2c1) (by decide +kernel) rfl rfl rfl (by decide +kernel)
set_option maxRecDepth 65536 in
theorem w_c17 : (Jvm.Cond.code ({ cls := "com/example/tidewatch/tidewatch/core/SettingChecks", name := "finiteAboveZero", desc := "(Ljava/lang/String;D)V" } : Jvm.MethodName) prog_58_method_9_code (3 : Nat) (Option.none : Option Jvm.ClassFile.FieldType)).before args0 about1 = true := code_word (m := ⟨15, 4⟩) (meth := k15m4) (c := k15c4) (by decide +kernel) rfl rfl rfl (by decide +kernel)
set_option maxRecDepth 65536 in
theorem w_c18 : (Jvm.Cond.code ({ cls := "java/util/OptionalInt", name := "isPresent", desc := "()Z" } : Jvm.MethodName) jdk_2649_method_6_code (1 : Nat) (Option.some Jvm.ClassFile.FieldType.boolean)).before args0 about1 = true := code_word (m := ⟨6, 4⟩) (meth := k6m4) (c := k6c4) (by decide +kernel) rfl rfl rfl (by decide +kernel)
set_option maxRecDepth 65536 in
theorem w_c19 : (Jvm.Cond.code ({ cls := "java/util/OptionalInt", name := "getAsInt", desc := "()I" } : Jvm.MethodName) jdk_2649_method_5_code (1 : Nat) (Option.some Jvm.ClassFile.FieldType.int)).before args0 about1 = true := code_word (m := ⟨6, 3⟩) (meth := k6m3) (c := k6c3) (by decide +kernel) rfl rfl rfl (by decide +kernel)
set_option maxRecDepth 65536 in
theorem w_c20 : (Jvm.Cond.code ({ cls := "java/lang/StringBuilder", name := "<init>", desc := "()V" } : Jvm.MethodName) jdk_67_method_1_code (1 : Nat) (Option.none : Option Jvm.ClassFile.FieldType)).before args0 about1 = true := code_word (m := ⟨20, 0⟩) (meth := k20m0) (c := k20c0) (by decide +kernel) rfl rfl rfl (by decide +kernel)
set_option maxRecDepth 65536 in
theorem w_c21 : (Jvm.Cond.code ({ cls := "java/lang/AbstractStringBuilder", name := "<init>", desc := "(I)V" } : Jvm.MethodName) jdk_68_method_2_code (2 : Nat) (Option.none : Option Jvm.ClassFile.FieldType)).before args0 about1 = true := code_word (m := ⟨19, 1⟩) (meth := k19m1) (c := k19c1) (by decide +kernel) rfl rfl rfl (by decide +kernel)
set_option maxRecDepth 65536 in
theorem w_c22 : (Jvm.Cond.code ({ cls := "java/lang/StringBuilder", name := "append", desc := "(I)Ljava/lang/StringBuilder;" } : Jvm.MethodName) jdk_67_method_15_code (2 : Nat) (Option.some (Jvm.ClassFile.FieldType.object "java/lang/StringBuilder"))).before args0 about1 = true := code_word (m := ⟨20, 2⟩) (meth := k20m2) (c := k20c2) (by decide +kernel) rfl rfl rfl (by decide +kernel)
set_option maxRecDepth 65536 in
theorem w_c23 : (Jvm.Cond.code ({ cls := "java/lang/AbstractStringBuilder", name := "append", desc := "(I)Ljava/lang/AbstractStringBuilder;" } : Jvm.MethodName) jdk_68_method_32_code (4 : Nat) (Option.some (Jvm.ClassFile.FieldType.object "java/lang/AbstractStringBuilder"))).before args0 about1 = true := code_word (m := ⟨19, 5⟩) (meth := k19m5) (c := k19c5) (by decide +kernel) rfl rfl rfl (by decide +kernel)
set_option maxRecDepth 65536 in
theorem w_c24 : (Jvm.Cond.code ({ cls := "java/lang/Integer", name := "stringSize", desc := "(I)I" } : Jvm.MethodName) jdk_33_method_13_code (4 : Nat) (Option.some Jvm.ClassFile.FieldType.int)).before args0 about1 = true := code_word (m := ⟨21, 1⟩) (meth := k21m1) (c := k21c1) (by decide +kernel) rfl rfl rfl (by decide +kernel)
set_option maxRecDepth 65536 in
theorem w_c25 : (Jvm.Cond.code ({ cls := "java/lang/AbstractStringBuilder", name := "ensureCapacityInternal", desc := "(I)V" } : Jvm.MethodName) jdk_68_method_9_code (3 : Nat) (Option.none : Option Jvm.ClassFile.FieldType)).before args0 about1 = true := code_word (m := ⟨19, 3⟩) (meth := k19m3) (c := k19c3) (by decide +kernel) rfl rfl rfl (by decide +kernel)
set_option maxRecDepth 65536 in
theorem w_c26 : (Jvm.Cond.code ({ cls := "java/lang/AbstractStringBuilder", name := "isLatin1", desc := "()Z" } : Jvm.MethodName) jdk_68_method_68_code (1 : Nat) (Option.some Jvm.ClassFile.FieldType.boolean)).before args0 about1 = true := code_word (m := ⟨19, 7⟩) (meth := k19m7) (c := k19c7) (by decide +kernel) rfl rfl rfl (by decide +kernel)
set_option maxRecDepth 65536 in
theorem w_c27 : (Jvm.Cond.code ({ cls := "java/lang/Integer", name := "getChars", desc := "(II[B)I" } : Jvm.MethodName) jdk_33_method_12_code (7 : Nat) (Option.some Jvm.ClassFile.FieldType.int)).before args0 about1 = true := code_word (m := ⟨21, 0⟩) (meth := k21m0) (c := k21c0) (by decide +kernel) rfl rfl rfl (by decide +kernel)
set_option maxRecDepth 65536 in
theorem w_c28 : (Jvm.Cond.code ({ cls := "java/lang/StringBuilder", name := "append", desc := "(Ljava/lang/String;)Ljava/lang/StringBuilder;" } : Jvm.MethodName) jdk_67_method_7_code (2 : Nat) (Option.some (Jvm.ClassFile.FieldType.object "java/lang/StringBuilder"))).before args0 about1 = true := code_word (m := ⟨20, 1⟩) (meth := k20m1) (c := k20c1) (by decide +kernel) rfl rfl rfl (by decide +kernel)
set_option maxRecDepth 65536 in
theorem w_c29 : (Jvm.Cond.code ({ cls := "java/lang/AbstractStringBuilder", name := "append", desc := "(Ljava/lang/String;)Ljava/lang/AbstractStringBuilder;" } : Jvm.MethodName) jdk_68_method_22_code (3 : Nat) (Option.some (Jvm.ClassFile.FieldType.object "java/lang/AbstractStringBuilder"))).before args0 about1 = true := code_word (m := ⟨19, 4⟩) (meth := k19m4) (c := k19c4) (by decide +kernel) rfl rfl rfl (by decide +kernel)
set_option maxRecDepth 65536 in
theorem w_c30 : (Jvm.Cond.code ({ cls := "java/lang/String", name := "length", desc := "()I" } : Jvm.MethodName) jdk_42_method_54_code (1 : Nat) (Option.some Jvm.ClassFile.FieldType.int)).before args0 about1 = true := code_word (m := ⟨14, 2⟩) (meth := k14m2) (c := k14c2) (by decide +kernel) rfl rfl rfl (by decide +kernel)
set_option maxRecDepth 65536 in
theorem w_c31 : (Jvm.Cond.code ({ cls := "java/lang/String", name := "coder", desc := "()B" } : Jvm.MethodName) jdk_42_method_152_code (1 : Nat) (Option.some Jvm.ClassFile.FieldType.byte)).before args0 about1 = true := code_word (m := ⟨14, 5⟩) (meth := k14m5) (c := k14c5) (by decide +kernel) rfl rfl rfl (by decide +kernel)
set_option maxRecDepth 65536 in
theorem w_c32 : (Jvm.Cond.code ({ cls := "java/lang/AbstractStringBuilder", name := "putStringAt", desc := "(ILjava/lang/String;)V" } : Jvm.MethodName) jdk_68_method_73_code (3 : Nat) (Option.none : Option Jvm.ClassFile.FieldType)).before args0 about1 = true := code_word (m := ⟨19, 9⟩) (meth := k19m9) (c := k19c9) (by decide +kernel) rfl rfl rfl (by decide +kernel)
set_option maxRecDepth 65536 in
theorem w_c33 : (Jvm.Cond.code ({ cls := "java/lang/AbstractStringBuilder", name := "inflateIfNeededFor", desc := "(Ljava/lang/String;)V" } : Jvm.MethodName) jdk_68_method_71_code (2 : Nat) (Option.none : Option Jvm.ClassFile.FieldType)).before args0 about1 = true := code_word (m := ⟨19, 8⟩) (meth := k19m8) (c := k19c8) (by decide +kernel) rfl rfl rfl (by decide +kernel)
set_option maxRecDepth 65536 in
theorem w_c34 : (Jvm.Cond.code ({ cls := "java/lang/String", name := "getBytes", desc := "([BIB)V" } : Jvm.MethodName) jdk_42_method_147_code (4 : Nat) (Option.none : Option Jvm.ClassFile.FieldType)).before args0 about1 = true := code_word (m := ⟨14, 3⟩) (meth := k14m3) (c := k14c3) (by decide +kernel) rfl rfl rfl (by decide +kernel)
set_option maxRecDepth 65536 in
theorem w_c35 : (Jvm.Cond.code ({ cls := "java/lang/StringBuilder", name := "toString", desc := "()Ljava/lang/String;" } : Jvm.MethodName) jdk_67_method_42_code (1 : Nat) (Option.some (Jvm.ClassFile.FieldType.object "java/lang/String"))).before args0 about1 = true := code_word (m := ⟨20, 3⟩) (meth := k20m3) (c := k20c3) (by decide +kernel) rfl rfl rfl (by decide +kernel)
set_option maxRecDepth 65536 in
theorem w_c36 : (Jvm.Cond.code ({ cls := "java/lang/String", name := "<init>", desc := "(Ljava/lang/StringBuilder;)V" } : Jvm.MethodName) jdk_42_method_53_code (2 : Nat) (Option.none : Option Jvm.ClassFile.FieldType)).before args0 about1 = true := code_word (m := ⟨14, 1⟩) (meth := k14m1) (c := k14c1) (by decide +kernel) rfl rfl rfl (by decide +kernel)
set_option maxRecDepth 65536 in
theorem w_c37 : (Jvm.Cond.code ({ cls := "java/lang/String", name := "<init>", desc := "(Ljava/lang/AbstractStringBuilder;Ljava/lang/Void;)V" } : Jvm.MethodName) jdk_42_method_150_code (5 : Nat) (Option.none : Option Jvm.ClassFile.FieldType)).before args0 about1 = true := code_word (m := ⟨14, 4⟩) (meth := k14m4) (c := k14c4) (by decide +kernel) rfl rfl rfl (by decide +kernel)
set_option maxRecDepth 65536 in
theorem w_c38 : (Jvm.Cond.code ({ cls := "java/lang/AbstractStringBuilder", name := "getValue", desc := "()[B" } : Jvm.MethodName) jdk_68_method_64_code (1 : Nat) (Option.some (Jvm.ClassFile.FieldType.array Jvm.ClassFile.FieldType.byte))).before args0 about1 = true := code_word (m := ⟨19, 6⟩) (meth := k19m6) (c := k19c6) (by decide +kernel) rfl rfl rfl (by decide +kernel)
set_option maxRecDepth 65536 in
theorem w_c39 : (Jvm.Cond.code ({ cls := "java/lang/StringBuilder", name := "length", desc := "()I" } : Jvm.MethodName) jdk_67_method_93_code (1 : Nat) (Option.some Jvm.ClassFile.FieldType.int)).before args0 about1 = true := code_word (m := ⟨20, 4⟩) (meth := k20m4) (c := k20c4) (by decide +kernel) rfl rfl rfl (by decide +kernel)
set_option maxRecDepth 65536 in
theorem w_c40 : (Jvm.Cond.code ({ cls := "java/lang/AbstractStringBuilder", name := "length", desc := "()I" } : Jvm.MethodName) jdk_68_method_6_code (1 : Nat) (Option.some Jvm.ClassFile.FieldType.int)).before args0 about1 = true := code_word (m := ⟨19, 2⟩) (meth := k19m2) (c := k19c2) (by decide +kernel) rfl rfl rfl (by decide +kernel)
set_option maxRecDepth 65536 in
theorem w_c41 : (Jvm.Cond.code ({ cls := "java/util/Arrays", name := "copyOfRange", desc := "([BII)[B" } : Jvm.MethodName) jdk_65_method_132_code (3 : Nat) (Option.some (Jvm.ClassFile.FieldType.array Jvm.ClassFile.FieldType.byte))).before args0 about1 = true := code_word (m := ⟨23, 2⟩) (meth := k23m2) (c := k23c2) (by decide +kernel) rfl rfl rfl (by decide +kernel)
set_option maxRecDepth 65536 in
theorem w_c42 : (Jvm.Cond.code ({ cls := "java/util/Arrays", name := "copyOfRangeByte", desc := "([BII)[B" } : Jvm.MethodName) jdk_65_method_133_code (5 : Nat) (Option.some (Jvm.ClassFile.FieldType.array Jvm.ClassFile.FieldType.byte))).before args0 about1 = true := code_word (m := ⟨23, 3⟩) (meth := k23m3) (c := k23c3) (by decide +kernel) rfl rfl rfl (by decide +kernel)
set_option maxRecDepth 65536 in
theorem w_c43 : (Jvm.Cond.code ({ cls := "java/util/Arrays", name := "checkLength", desc := "(II)V" } : Jvm.MethodName) jdk_65_method_131_code (2 : Nat) (Option.none : Option Jvm.ClassFile.FieldType)).before args0 about1 = true := code_word (m := ⟨23, 1⟩) (meth := k23m1) (c := k23c1) (by decide +kernel) rfl rfl rfl (by decide +kernel)
set_option maxRecDepth 65536 in
theorem w_c44 : (Jvm.Cond.code ({ cls := "java/lang/Math", name := "min", desc := "(II)I" } : Jvm.MethodName) jdk_29_method_69_code (2 : Nat) (Option.some Jvm.ClassFile.FieldType.int)).before args0 about1 = true := code_word (m := ⟨2, 3⟩) (meth := k2m3) (c := k2c3) (by decide +kernel) rfl rfl rfl (by decide +kernel)
set_option maxRecDepth 65536 in
theorem w_c45 : (Jvm.Cond.code ({ cls := "com/example/tidewatch/tidewatch/core/TidewatchPolicy$Settings", name := "horizonIntervals", desc := "()I" } : Jvm.MethodName) prog_74_method_6_code (1 : Nat) (Option.some Jvm.ClassFile.FieldType.int)).before args0 about1 = true := code_word (m := ⟨5, 2⟩) (meth := k5m2) (c := k5c2) (by decide +kernel) rfl rfl rfl (by decide +kernel)
def codes1 : List Jvm.Cond := [Jvm.Cond.code x code maxLocals ret, Jvm.Cond.code ({ cls := "java/lang/Math", name := "min", desc := "(JJ)J" } : Jvm.MethodName) jdk_29_method_70_code (4 : Nat) (Option.some Jvm.ClassFile.FieldType.long), Jvm.Cond.code ({ cls := "java/lang/Math", name := "max", desc := "(II)I" } : Jvm.MethodName) jdk_29_method_65_code (2 : Nat) (Option.some Jvm.ClassFile.FieldType.int), Jvm.Cond.code ({ cls := "com/example/tidewatch/tidewatch/core/TidewatchPolicy$Settings", name := "<init>", desc := "(DIDDDDDDDIII)V" } : Jvm.MethodName) prog_74_method_1_code (21 : Nat) (Option.none : Option Jvm.ClassFile.FieldType), Jvm.Cond.code ({ cls := "java/lang/Record", name := "<init>", desc := "()V" } : Jvm.MethodName) jdk_30_method_1_code (1 : Nat) (Option.none : Option Jvm.ClassFile.FieldType), Jvm.Cond.code ({ cls := "java/lang/Object", name := "<init>", desc := "()V" } : Jvm.MethodName) object_method_1_code (1 : Nat) (Option.none : Option Jvm.ClassFile.FieldType), Jvm.Cond.code ({ cls := "java/util/OptionalInt", name := "of", desc := "(I)Ljava/util/OptionalInt;" } : Jvm.MethodName) jdk_2649_method_4_code (1 : Nat) (Option.some (Jvm.ClassFile.FieldType.object "java/util/OptionalInt")), Jvm.Cond.code ({ cls := "java/util/OptionalInt", name := "<init>", desc := "(I)V" } : Jvm.MethodName) jdk_2649_method_3_code (2 : Nat) (Option.none : Option Jvm.ClassFile.FieldType), Jvm.Cond.code ({ cls := "com/example/tidewatch/tidewatch/core/TidewatchPolicy$Settings", name := "check", desc := "(DLjava/util/OptionalInt;DDDDDDDIII)V" } : Jvm.MethodName) prog_74_method_3_code (22 : Nat) (Option.none : Option Jvm.ClassFile.FieldType), Jvm.Cond.code ({ cls := "com/example/tidewatch/tidewatch/core/TargetUtilization", name := "check", desc := "(D)V" } : Jvm.MethodName) prog_62_method_2_code (2 : Nat) (Option.none : Option Jvm.ClassFile.FieldType), Jvm.Cond.code ({ cls := "java/util/OptionalInt", name := "ifPresent", desc := "(Ljava/util/function/IntConsumer;)V" } : Jvm.MethodName) jdk_2649_method_8_code (2 : Nat) (Option.none : Option Jvm.ClassFile.FieldType), Jvm.Cond.code ({ cls := "com/example/tidewatch/tidewatch/core/PolicySettings", name := "checkInterval", desc := "(I)V" } : Jvm.MethodName) prog_52_method_2_code (1 : Nat) (Option.none : Option Jvm.ClassFile.FieldType), Jvm.Cond.code ({ cls := "com/example/tidewatch/tidewatch/core/SettingChecks", name := "atLeastOne", desc := "(Ljava/lang/String;J)V" } : Jvm.MethodName) prog_58_method_2_code (3 : Nat) (Option.none : Option Jvm.ClassFile.FieldType), Jvm.Cond.code ({ cls := "com/example/tidewatch/tidewatch/core/SettingChecks", name := "finiteAtLeastZero", desc := "(Ljava/lang/String;D)V" } : Jvm.MethodName) prog_58_method_7_code (3 : Nat) (Option.none : Option Jvm.ClassFile.FieldType), Jvm.Cond.code ({ cls := "com/example/tidewatch/tidewatch/core/SettingChecks", name := "isFiniteAtLeastZero", desc := "(D)Z" } : Jvm.MethodName) prog_58_method_8_code (2 : Nat) (Option.some Jvm.ClassFile.FieldType.boolean), Jvm.Cond.code ({ cls := "java/lang/Double", name := "isInfinite", desc := "(D)Z" } : Jvm.MethodName) jdk_117_method_7_code (2 : Nat) (Option.some Jvm.ClassFile.FieldType.boolean), Jvm.Cond.code ({ cls := "java/lang/Math", name := "abs", desc := "(D)D" } : Jvm.MethodName) jdk_29_method_64_code (2 : Nat) (Option.some Jvm.ClassFile.FieldType.double), Jvm.Cond.code ({ cls := "com/example/tidewatch/tidewatch/core/SettingChecks", name := "finiteAboveZero", desc := "(Ljava/lang/String;D)V" } : Jvm.MethodName) prog_58_method_9_code (3 : Nat) (Option.none : Option Jvm.ClassFile.FieldType), Jvm.Cond.code ({ cls := "java/util/OptionalInt", name := "isPresent", desc := "()Z" } : Jvm.MethodName) jdk_2649_method_6_code (1 : Nat) (Option.some Jvm.ClassFile.FieldType.boolean), Jvm.Cond.code ({ cls := "java/util/OptionalInt", name := "getAsInt", desc := "()I" } : Jvm.MethodName) jdk_2649_method_5_code (1 : Nat) (Option.some Jvm.ClassFile.FieldType.int), Jvm.Cond.code ({ cls := "java/lang/StringBuilder", name := "<init>", desc := "()V" } : Jvm.MethodName) jdk_67_method_1_code (1 : Nat) (Option.none : Option Jvm.ClassFile.FieldType), Jvm.Cond.code ({ cls := "java/lang/AbstractStringBuilder", name := "<init>", desc := "(I)V" } : Jvm.MethodName) jdk_68_method_2_code (2 : Nat) (Option.none : Option Jvm.ClassFile.FieldType), Jvm.Cond.code ({ cls := "java/lang/StringBuilder", name := "append", desc := "(I)Ljava/lang/StringBuilder;" } : Jvm.MethodName) jdk_67_method_15_code (2 : Nat) (Option.some (Jvm.ClassFile.FieldType.object "java/lang/StringBuilder")), Jvm.Cond.code ({ cls := "java/lang/AbstractStringBuilder", name := "append", desc := "(I)Ljava/lang/AbstractStringBuilder;" } : Jvm.MethodName) jdk_68_method_32_code (4 : Nat) (Option.some (Jvm.ClassFile.FieldType.object "java/lang/AbstractStringBuilder")), Jvm.Cond.code ({ cls := "java/lang/Integer", name := "stringSize", desc := "(I)I" } : Jvm.MethodName) jdk_33_method_13_code (4 : Nat) (Option.some Jvm.ClassFile.FieldType.int), Jvm.Cond.code ({ cls := "java/lang/AbstractStringBuilder", name := "ensureCapacityInternal", desc := "(I)V" } : Jvm.MethodName) jdk_68_method_9_code (3 : Nat) (Option.none : Option Jvm.ClassFile.FieldType), Jvm.Cond.code ({ cls := "java/lang/AbstractStringBuilder", name := "isLatin1", desc := "()Z" } : Jvm.MethodName) jdk_68_method_68_code (1 : Nat) (Option.some Jvm.ClassFile.FieldType.boolean), Jvm.Cond.code ({ cls := "java/lang/Integer", name := "getChars", desc := "(II[B)I" } : Jvm.MethodName) jdk_33_method_12_code (7 : Nat) (Option.some Jvm.ClassFile.FieldType.int), Jvm.Cond.code ({ cls := "java/lang/StringBuilder", name := "append", desc := "(Ljava/lang/String;)Ljava/lang/StringBuilder;" } : Jvm.MethodName) jdk_67_method_7_code (2 : Nat) (Option.some (Jvm.ClassFile.FieldType.object "java/lang/StringBuilder")), Jvm.Cond.code ({ cls := "java/lang/AbstractStringBuilder", name := "append", desc := "(Ljava/lang/String;)Ljava/lang/AbstractStringBuilder;" } : Jvm.MethodName) jdk_68_method_22_code (3 : Nat) (Option.some (Jvm.ClassFile.FieldType.object "java/lang/AbstractStringBuilder")), Jvm.Cond.code ({ cls := "java/lang/String", name := "length", desc := "()I" } : Jvm.MethodName) jdk_42_method_54_code (1 : Nat) (Option.some Jvm.ClassFile.FieldType.int), Jvm.Cond.code ({ cls := "java/lang/String", name := "coder", desc := "()B" } : Jvm.MethodName) jdk_42_method_152_code (1 : Nat) (Option.some Jvm.ClassFile.FieldType.byte), Jvm.Cond.code ({ cls := "java/lang/AbstractStringBuilder", name := "putStringAt", desc := "(ILjava/lang/String;)V" } : Jvm.MethodName) jdk_68_method_73_code (3 : Nat) (Option.none : Option Jvm.ClassFile.FieldType), Jvm.Cond.code ({ cls := "java/lang/AbstractStringBuilder", name := "inflateIfNeededFor", desc := "(Ljava/lang/String;)V" } : Jvm.MethodName) jdk_68_method_71_code (2 : Nat) (Option.none : Option Jvm.ClassFile.FieldType), Jvm.Cond.code ({ cls := "java/lang/String", name := "getBytes", desc := "([BIB)V" } : Jvm.MethodName) jdk_42_method_147_code (4 : Nat) (Option.none : Option Jvm.ClassFile.FieldType), Jvm.Cond.code ({ cls := "java/lang/StringBuilder", name := "toString", desc := "()Ljava/lang/String;" } : Jvm.MethodName) jdk_67_method_42_code (1 : Nat) (Option.some (Jvm.ClassFile.FieldType.object "java/lang/String")), Jvm.Cond.code ({ cls := "java/lang/String", name := "<init>", desc := "(Ljava/lang/StringBuilder;)V" } : Jvm.MethodName) jdk_42_method_53_code (2 : Nat) (Option.none : Option Jvm.ClassFile.FieldType), Jvm.Cond.code ({ cls := "java/lang/String", name := "<init>", desc := "(Ljava/lang/AbstractStringBuilder;Ljava/lang/Void;)V" } : Jvm.MethodName) jdk_42_method_150_code (5 : Nat) (Option.none : Option Jvm.ClassFile.FieldType), Jvm.Cond.code ({ cls := "java/lang/AbstractStringBuilder", name := "getValue", desc := "()[B" } : Jvm.MethodName) jdk_68_method_64_code (1 : Nat) (Option.some (Jvm.ClassFile.FieldType.array Jvm.ClassFile.FieldType.byte)), Jvm.Cond.code ({ cls := "java/lang/StringBuilder", name := "length", desc := "()I" } : Jvm.MethodName) jdk_67_method_93_code (1 : Nat) (Option.some Jvm.ClassFile.FieldType.int), Jvm.Cond.code ({ cls := "java/lang/AbstractStringBuilder", name := "length", desc := "()I" } : Jvm.MethodName) jdk_68_method_6_code (1 : Nat) (Option.some Jvm.ClassFile.FieldType.int), Jvm.Cond.code ({ cls := "java/util/Arrays", name := "copyOfRange", desc := "([BII)[B" } : Jvm.MethodName) jdk_65_method_132_code (3 : Nat) (Option.some (Jvm.ClassFile.FieldType.array Jvm.ClassFile.FieldType.byte)), Jvm.Cond.code ({ cls := "java/util/Arrays", name := "copyOfRangeByte", desc := "([BII)[B" } : Jvm.MethodName) jdk_65_method_133_code (5 : Nat) (Option.some (Jvm.ClassFile.FieldType.array Jvm.ClassFile.FieldType.byte)), Jvm.Cond.code ({ cls := "java/util/Arrays", name := "checkLength", desc := "(II)V" } : Jvm.MethodName) jdk_65_method_131_code (2 : Nat) (Option.none : Option Jvm.ClassFile.FieldType), Jvm.Cond.code ({ cls := "java/lang/Math", name := "min", desc := "(II)I" } : Jvm.MethodName) jdk_29_method_69_code (2 : Nat) (Option.some Jvm.ClassFile.FieldType.int), Jvm.Cond.code ({ cls := "com/example/tidewatch/tidewatch/core/TidewatchPolicy$Settings", name := "horizonIntervals", desc := "()I" } : Jvm.MethodName) prog_74_method_6_code (1 : Nat) (Option.some Jvm.ClassFile.FieldType.int)]
set_option maxRecDepth 65536 in
theorem codes_eq : words1.filter isCode = codes1 := rfl
theorem w_codes : ∀ c ∈ words1.filter isCode, c.before args0 about1 = true := by
  rw [codes_eq]
  intro c hc
  simp only [codes1, List.mem_cons, List.not_mem_nil, or_false] at hc
  rcases hc with rfl | rfl | rfl | rfl | rfl | rfl | rfl | rfl | rfl | rfl | rfl | rfl | rfl | rfl | rfl | rfl | rfl | rfl | rfl | rfl | rfl | rfl | rfl | rfl | rfl | rfl | rfl | rfl | rfl | rfl | rfl | rfl | rfl | rfl | rfl | rfl | rfl | rfl | rfl | rfl | rfl | rfl | rfl | rfl | rfl | rfl
  · exact w_c0
  · exact w_c1
  · exact w_c2
  · exact w_c3
  · exact w_c4
  · exact w_c5
  · exact w_c6
  · exact w_c7
  · exact w_c8
  · exact w_c9
  · exact w_c10
  · exact w_c11
  · exact w_c12
  · exact w_c13
  · exact w_c14
  · exact w_c15
  · exact w_c16
  · exact w_c17
  · exact w_c18
  · exact w_c19
  · exact w_c20
  · exact w_c21
  · exact w_c22
  · exact w_c23
  · exact w_c24
  · exact w_c25
  · exact w_c26
  · exact w_c27
  · exact w_c28
  · exact w_c29
  · exact w_c30
  · exact w_c31
  · exact w_c32
  · exact w_c33
  · exact w_c34
  · exact w_c35
  · exact w_c36
  · exact w_c37
  · exact w_c38
  · exact w_c39
  · exact w_c40
  · exact w_c41
  · exact w_c42
  · exact w_c43
  · exact w_c44
  · exact w_c45
set_option maxRecDepth 65536 in
theorem w_t1 : (words1.take 24).all (fun c => isCode c || c.before args0 about1) = true := by decide +kernel
set_option maxRecDepth 65536 in
theorem w_t2 : ((words1.drop 24).take 24).all (fun c => isCode c || c.before args0 about1) = true := by decide +kernel
set_option maxRecDepth 65536 in
theorem w_t3 : (((words1.drop 24).drop 24).take 24).all (fun c => isCode c || c.before args0 about1) = true := by decide +kernel
set_option maxRecDepth 65536 in
theorem w_t4 : ((((words1.drop 24).drop 24).drop 24).take 24).all (fun c => isCode c || c.before args0 about1) = true := by decide +kernel
set_option maxRecDepth 65536 in
theorem w_t5 : (((((words1.drop 24).drop 24).drop 24).drop 24).take 24).all (fun c => isCode c || c.before args0 about1) = true := by decide +kernel
set_option maxRecDepth 65536 in
theorem w_t6 : ((((((words1.drop 24).drop 24).drop 24).drop 24).drop 24).take 24).all (fun c => isCode c || c.before args0 about1) = true := by decide +kernel
set_option maxRecDepth 65536 in
theorem w_t7 : (((((((words1.drop 24).drop 24).drop 24).drop 24).drop 24).drop 24).take 24).all (fun c => isCode c || c.before args0 about1) = true := by decide +kernel
set_option maxRecDepth 65536 in
theorem w_t8 : ((((((((words1.drop 24).drop 24).drop 24).drop 24).drop 24).drop 24).drop 24).take 24).all (fun c => isCode c || c.before args0 about1) = true := by decide +kernel
set_option maxRecDepth 65536 in
theorem w_t9 : (((((((((words1.drop 24).drop 24).drop 24).drop 24).drop 24).drop 24).drop 24).drop 24).take 24).all (fun c => isCode c || c.before args0 about1) = true := by decide +kernel
set_option maxRecDepth 65536 in
theorem w_t10 : ((((((((((words1.drop 24).drop 24).drop 24).drop 24).drop 24).drop 24).drop 24).drop 24).drop 24).take 24).all (fun c => isCode c || c.before args0 about1) = true := by decide +kernel
set_option maxRecDepth 65536 in
theorem w_t11 : (((((((((((words1.drop 24).drop 24).drop 24).drop 24).drop 24).drop 24).drop 24).drop 24).drop 24).drop 24).take 24).all (fun c => isCode c || c.before args0 about1) = true := by decide +kernel
set_option maxRecDepth 65536 in
theorem w_t12 : (((((((((((words1.drop 24).drop 24).drop 24).drop 24).drop 24).drop 24).drop 24).drop 24).drop 24).drop 24).drop 24).all (fun c => isCode c || c.before args0 about1) = true := by decide +kernel
theorem w_tables : (allAtoms (Jvm.Cond.code x code maxLocals ret :: tables_1)).before args0 about1 = true := by
  rw [allAtoms_all]
  show words1.all (fun c => c.before args0 about1) = true
  refine all_split ?_ w_codes
  rw [← List.take_append_drop 24 words1, List.all_append, w_t1, ← List.take_append_drop 24 (words1.drop 24), List.all_append, w_t2, ← List.take_append_drop 24 ((words1.drop 24).drop 24), List.all_append, w_t3, ← List.take_append_drop 24 (((words1.drop 24).drop 24).drop 24), List.all_append, w_t4, ← List.take_append_drop 24 ((((words1.drop 24).drop 24).drop 24).drop 24), List.all_append, w_t5, ← List.take_append_drop 24 (((((words1.drop 24).drop 24).drop 24).drop 24).drop 24), List.all_append, w_t6, ← List.take_append_drop 24 ((((((words1.drop 24).drop 24).drop 24).drop 24).drop 24).drop 24), List.all_append, w_t7, ← List.take_append_drop 24 (((((((words1.drop 24).drop 24).drop 24).drop 24).drop 24).drop 24).drop 24), List.all_append, w_t8, ← List.take_append_drop 24 ((((((((words1.drop 24).drop 24).drop 24).drop 24).drop 24).drop 24).drop 24).drop 24), List.all_append, w_t9, ← List.take_append_drop 24 (((((((((words1.drop 24).drop 24).drop 24).drop 24).drop 24).drop 24).drop 24).drop 24).drop 24), List.all_append, w_t10, ← List.take_append_drop 24 ((((((((((words1.drop 24).drop 24).drop 24).drop 24).drop 24).drop 24).drop 24).drop 24).drop 24).drop 24), List.all_append, w_t11, w_t12]
  rfl
set_option maxRecDepth 65536 in
theorem w_rest : rest_1_c.before args0 about1 = true := by decide +kernel
set_option maxRecDepth 65536 in
theorem w_case : (Jvm.Cond.and given_1 narrow_1).before args0 about1 = true := by decide +kernel
set_option maxRecDepth 65536 in
theorem w_consts : constsHeld consts_1 about1 := Jvm.Lit.constsHeldB_iff.mp (by decide +kernel)
theorem w_applies : (headSpec (Jvm.Cond.code x code maxLocals ret :: tables_1) room_1).applies x e0.platform about1 = true :=
  (Spec.applies_iff w_frames).mpr ⟨w_running, w_runnable, w_alone, w_named, w_hears, w_ripe, w_room, w_tables⟩
theorem atStart : AtStart classFile x code maxLocals ret World_1 tables_1 room_1 Calls_1 rest_1 Pre_1 launch0 p0 e0 about1 theMethod args0 below0 :=
  ⟨lists_1, trivial, launch0.admits_env _ _ _, launch0.least_env, fairChoices_fair.cas, fairChoices_fair.clock, w_frames, w_args, w_heap, w_applies, ⟨w_consts, trivial⟩, w_rest, w_case⟩
end start1
theorem witness_1 : WitnessClaimed_1 := ⟨start1.p0, start1.e0, start1.about1, start1.theMethod, start1.args0, start1.below0, start1.atStart⟩
end Jvm.Pilot.@@N@@
