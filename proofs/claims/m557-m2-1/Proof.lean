import JvmDerived
import JvmDerived.Pilot.@@N@@Statement
import JvmDerived.Pilot.@@N@@Code
set_option linter.unusedVariables false
set_option linter.unusedSimpArgs false
namespace Jvm.Pilot.@@N@@
open Jvm Jvm.ClassFile Sem Op Lib Jvm.Free Jvm.Stand Jvm.LawKit Jvm.RoadKit Bundle Jvm.Pilot.@@N@@.Jvm.D
section Own
variable {p : Program} {l : Launch} {e : Env} {R : Room} {s : State} {m : MethodId} {args : Array Value} {below : List Frame} {meth : Method} {c : Code} {T : State} {locs : List Loc} {cells slots : Nat}
/-- from S the run comes to an end that E tells -/
def OwnG (p : Program) (e : Env) (below : List Frame) (E : Outcome → State → Prop) (S : State) : Prop :=
  ∃ s₂ o, Steps p.tables e below S s₂ ∧ s₂.status = .running ∧ Ended s₂ below o ∧ E o s₂
/-- it returned, Q holds of the value and the heap, and the frame is k new cells of n slots -/
def OwnE (s : State) (Q : Option Value → Heap → List Loc → Prop) (k n : Nat) (o : Outcome) (U : State) : Prop :=
  ∃ v L, o = .returned v ∧ Q v U.heap L ∧ FrameEnd s o U L k n
theorem own_by {E : Outcome → State → Prop} {S S' : State} (h : ∀ t, Steps p.tables e below S' t → Steps p.tables e below S t) (g : OwnG p e below E S') : OwnG p e below E S := by
  obtain ⟨s2, o, h1, r⟩ := g
  exact ⟨s2, o, h _ h1, r⟩
theorem own_ret (X : Stand p l e R s m args below meth c T locs cells slots) (hx : p.tables.exec = Jvm.exec) {pc : Nat} {Ls : Array Slot} {w : Value} {t : FieldType} {i : Instr} {rest : List Value} (hret : meth.sig.returnType = some t) (hn : narrow t w = w)
    (hi : (i = .ireturn ∧ (t = .int ∨ t = .boolean ∨ t = .byte ∨ t = .char ∨ t = .short) ∧ ∃ z, w = .int z) ∨ (i = .lreturn ∧ t = .long ∧ ∃ z, w = .long z) ∨ (i = .dreturn ∧ t = .double ∧ ∃ z, w = .double z) ∨ (i = .freturn ∧ t = .float ∧ ∃ z, w = .float z) ∨ (i = .areturn ∧ t.isReference = true ∧ w.isRef = true))
    (hd : decode c.code pc = .ok (i, 1)) (hlk : meth.locks = false) {Q : Option Value → Heap → List Loc → Prop} {k n : Nat} (hk : cells ≤ k) (hs : slots ≤ n) (hQ : Q (some w) T.heap locs) : OwnG p e below (OwnE s Q k n) (T.setTop (mkF m pc Ls (w :: rest))) := by
  obtain ⟨fs, hr, hrun, hended, hW, hsame⟩ := X.leave (v := some w) (fun h => by rw [hret] at h; cases h) hlk
  exact ⟨_, _, retOut X hx hret hn hi hd hr, hrun, hended, _, _, rfl, hQ, ⟨_, rfl⟩, hW, hsame.mono hk hs⟩
theorem own_retI (X : Stand p l e R s m args below meth c T locs cells slots) (hx : p.tables.exec = Jvm.exec) {pc : Nat} {Ls : Array Slot} {z : Int32} {t : FieldType} {rest : List Value} (hret : meth.sig.returnType = some t) (ht : t = .int ∨ t = .boolean ∨ t = .byte ∨ t = .char ∨ t = .short) (hn : narrow t (.int z) = .int z)
    (hd : decode c.code pc = .ok (.ireturn, 1)) (hlk : meth.locks = false) {Q : Option Value → Heap → List Loc → Prop} {k n : Nat} (hk : cells ≤ k) (hs : slots ≤ n) (hQ : Q (some (.int z)) T.heap locs) : OwnG p e below (OwnE s Q k n) (T.setTop (mkF m pc Ls (.int z :: rest))) :=
  own_ret X hx hret hn (Or.inl ⟨rfl, ht, _, rfl⟩) hd hlk hk hs hQ
theorem own_retL (X : Stand p l e R s m args below meth c T locs cells slots) (hx : p.tables.exec = Jvm.exec) {pc : Nat} {Ls : Array Slot} {z : Int64} {rest : List Value} (hret : meth.sig.returnType = some .long)
    (hd : decode c.code pc = .ok (.lreturn, 1)) (hlk : meth.locks = false) {Q : Option Value → Heap → List Loc → Prop} {k n : Nat} (hk : cells ≤ k) (hs : slots ≤ n) (hQ : Q (some (.long z)) T.heap locs) : OwnG p e below (OwnE s Q k n) (T.setTop (mkF m pc Ls (.long z :: rest))) :=
  own_ret X hx hret rfl (Or.inr (Or.inl ⟨rfl, rfl, _, rfl⟩)) hd hlk hk hs hQ
theorem own_retD (X : Stand p l e R s m args below meth c T locs cells slots) (hx : p.tables.exec = Jvm.exec) {pc : Nat} {Ls : Array Slot} {z : UInt64} {rest : List Value} (hret : meth.sig.returnType = some .double)
    (hd : decode c.code pc = .ok (.dreturn, 1)) (hlk : meth.locks = false) {Q : Option Value → Heap → List Loc → Prop} {k n : Nat} (hk : cells ≤ k) (hs : slots ≤ n) (hQ : Q (some (.double z)) T.heap locs) : OwnG p e below (OwnE s Q k n) (T.setTop (mkF m pc Ls (.double z :: rest))) :=
  own_ret X hx hret rfl (Or.inr (Or.inr (Or.inl ⟨rfl, rfl, _, rfl⟩))) hd hlk hk hs hQ
theorem own_narR {t : FieldType} (ht : t.isReference = true) {w : Value} (hw : w.isRef = true) : narrow t w = w := by
  cases t <;> cases w <;> first | rfl | (simp [FieldType.isReference] at ht; done) | (simp [Value.isRef] at hw; done)
theorem own_retA (X : Stand p l e R s m args below meth c T locs cells slots) (hx : p.tables.exec = Jvm.exec) {pc : Nat} {Ls : Array Slot} {w : Value} {t : FieldType} {rest : List Value} (hret : meth.sig.returnType = some t) (ht : t.isReference = true) (hw : w.isRef = true)
    (hd : decode c.code pc = .ok (.areturn, 1)) (hlk : meth.locks = false) {Q : Option Value → Heap → List Loc → Prop} {k n : Nat} (hk : cells ≤ k) (hs : slots ≤ n) (hQ : Q (some w) T.heap locs) : OwnG p e below (OwnE s Q k n) (T.setTop (mkF m pc Ls (w :: rest))) :=
  own_ret X hx hret (own_narR ht hw) (Or.inr (Or.inr (Or.inr (Or.inr ⟨rfl, ht, hw⟩)))) hd hlk hk hs hQ
theorem own_ret0 (X : Stand p l e R s m args below meth c T locs cells slots) (hx : p.tables.exec = Jvm.exec) {pc : Nat} {Ls : Array Slot} (hret : meth.sig.returnType = none)
    (hd : decode c.code pc = .ok (.return_, 1)) (hlk : meth.locks = false) {Q : Option Value → Heap → List Loc → Prop} {k n : Nat} (hk : cells ≤ k) (hs : slots ≤ n) (hQ : Q none T.heap locs) : OwnG p e below (OwnE s Q k n) (T.setTop (mkF m pc Ls [])) := by
  obtain ⟨fs, hr, hrun, hended, hW, hsame⟩ := X.leave (v := none) (fun _ => rfl) hlk
  exact ⟨_, _, X.returnOut hx hret hd hr, hrun, hended, _, _, rfl, hQ, ⟨_, rfl⟩, hW, hsame.mono hk hs⟩
/-- the same, where the walk may have interned -/
def OwnEW (s : State) (Q : Option Value → Heap → List Loc → Prop) (k n : Nat) (o : Outcome) (U : State) : Prop :=
  ∃ v L, o = .returned v ∧ Q v U.heap L ∧ ReturnedEndW s o U L k n
theorem own_endW {s U : State} {o : Outcome} {L : List Loc} {k n k' n' : Nat} (h : ReturnedEndW s o U L k n) (hk : k ≤ k') (hn : n ≤ n') : ReturnedEndW s o U L k' n' := ⟨h.1, h.2.1, h.2.2.1, h.2.2.2.mono hk hn⟩
theorem own_retW {vm₁ : Vm} (X : Stand p l e R (s.setVm vm₁) m args below meth c T locs cells slots) {n1 : Nat} (hS : s.Since vm₁ n1) (hn1 : n1 ≤ T.heap.size) (hx : p.tables.exec = Jvm.exec) {pc : Nat} {Ls : Array Slot} {w : Value} {t : FieldType} {i : Instr} {rest : List Value} (hret : meth.sig.returnType = some t) (hn : narrow t w = w)
    (hi : (i = .ireturn ∧ (t = .int ∨ t = .boolean ∨ t = .byte ∨ t = .char ∨ t = .short) ∧ ∃ z, w = .int z) ∨ (i = .lreturn ∧ t = .long ∧ ∃ z, w = .long z) ∨ (i = .dreturn ∧ t = .double ∧ ∃ z, w = .double z) ∨ (i = .freturn ∧ t = .float ∧ ∃ z, w = .float z) ∨ (i = .areturn ∧ t.isReference = true ∧ w.isRef = true))
    (hd : decode c.code pc = .ok (i, 1)) (hlk : meth.locks = false) {Q : Option Value → Heap → List Loc → Prop} {k n : Nat} (hk : cells ≤ k) (hs : slots ≤ n) (hQ : Q (some w) T.heap locs) : OwnG p e below (OwnEW s Q k n) (T.setTop (mkF m pc Ls (w :: rest))) := by
  obtain ⟨fs, hr, hrun, hended, hE⟩ := X.leaveW hS hn1 (v := some w) (fun h => by rw [hret] at h; cases h) hlk
  exact ⟨_, _, retOut X hx hret hn hi hd hr, hrun, hended, _, _, rfl, hQ, own_endW hE hk hs⟩
theorem own_retWI {vm₁ : Vm} (X : Stand p l e R (s.setVm vm₁) m args below meth c T locs cells slots) {n1 : Nat} (hS : s.Since vm₁ n1) (hn1 : n1 ≤ T.heap.size) (hx : p.tables.exec = Jvm.exec) {pc : Nat} {Ls : Array Slot} {z : Int32} {t : FieldType} {rest : List Value} (hret : meth.sig.returnType = some t) (ht : t = .int ∨ t = .boolean ∨ t = .byte ∨ t = .char ∨ t = .short) (hn : narrow t (.int z) = .int z)
    (hd : decode c.code pc = .ok (.ireturn, 1)) (hlk : meth.locks = false) {Q : Option Value → Heap → List Loc → Prop} {k n : Nat} (hk : cells ≤ k) (hs : slots ≤ n) (hQ : Q (some (.int z)) T.heap locs) : OwnG p e below (OwnEW s Q k n) (T.setTop (mkF m pc Ls (.int z :: rest))) :=
  own_retW X hS hn1 hx hret hn (Or.inl ⟨rfl, ht, _, rfl⟩) hd hlk hk hs hQ
theorem own_retWA {vm₁ : Vm} (X : Stand p l e R (s.setVm vm₁) m args below meth c T locs cells slots) {n1 : Nat} (hS : s.Since vm₁ n1) (hn1 : n1 ≤ T.heap.size) (hx : p.tables.exec = Jvm.exec) {pc : Nat} {Ls : Array Slot} {w : Value} {t : FieldType} {rest : List Value} (hret : meth.sig.returnType = some t) (ht : t.isReference = true) (hw : w.isRef = true)
    (hd : decode c.code pc = .ok (.areturn, 1)) (hlk : meth.locks = false) {Q : Option Value → Heap → List Loc → Prop} {k n : Nat} (hk : cells ≤ k) (hs : slots ≤ n) (hQ : Q (some w) T.heap locs) : OwnG p e below (OwnEW s Q k n) (T.setTop (mkF m pc Ls (w :: rest))) :=
  own_retW X hS hn1 hx hret (own_narR ht hw) (Or.inr (Or.inr (Or.inr (Or.inr ⟨rfl, ht, hw⟩)))) hd hlk hk hs hQ
theorem own_retW0 {vm₁ : Vm} (X : Stand p l e R (s.setVm vm₁) m args below meth c T locs cells slots) {n1 : Nat} (hS : s.Since vm₁ n1) (hn1 : n1 ≤ T.heap.size) (hx : p.tables.exec = Jvm.exec) {pc : Nat} {Ls : Array Slot} (hret : meth.sig.returnType = none)
    (hd : decode c.code pc = .ok (.return_, 1)) (hlk : meth.locks = false) {Q : Option Value → Heap → List Loc → Prop} {k n : Nat} (hk : cells ≤ k) (hs : slots ≤ n) (hQ : Q none T.heap locs) : OwnG p e below (OwnEW s Q k n) (T.setTop (mkF m pc Ls [])) := by
  obtain ⟨fs, hr, hrun, hended, hE⟩ := X.leaveW hS hn1 (v := none) (fun _ => rfl) hlk
  exact ⟨_, _, X.returnOut hx hret hd hr, hrun, hended, _, _, rfl, hQ, own_endW hE hk hs⟩
theorem own_ext0 {h h' : Heap} (K : Keep h h' []) : Ext h h' := ⟨K.1, fun a c q => K.2.1 a c q (by simp)⟩
theorem own_staK {Z : State} {h h' : Heap} {C n d : String} {v : Value} {ws : List Addr} (S : Sta Z h C n d v) (K : Keep h h' ws) (q : ∀ x ∈ ws, ∃ c : Cell, h[x]? = some c ∧ c.vm.isStatics = false) : Sta Z h' C n d v := by
  obtain ⟨cf, i, k, f, st, cell, h1, h2, h3, h4, h5, h6, h7⟩ := S
  refine ⟨cf, i, k, f, st, cell, h1, h2, h3, h4, K.2.1 st cell h5 (fun hm => ?_), h6, h7⟩
  obtain ⟨c, c1, c2⟩ := q st hm
  rw [h5] at c1
  cases c1
  rw [h6] at c2
  cases c2
theorem own_plain {Z : State} {h : Heap} {a : Addr} {C : String} (E : Exa Z h a C) : ∃ c : Cell, h[a]? = some c ∧ c.vm.isStatics = false := by
  obtain ⟨c, k, h1, h2, h3, h4, h5⟩ := E
  exact ⟨c, h1, h4⟩
theorem own_arrK {Z : State} {h h' : Heap} {a : Addr} {c : Cell} {ty : FieldType} {ws : List Addr} (A : Arr Z h a c ty) (K : Keep h h' ws) (q : a ∉ ws) : Arr Z h' a c ty := ⟨K.2.1 a c A.1 q, A.2⟩
/-- the array at a, of the class k, holds just vs -/
def OwnA (Z : State) (h : Heap) (a : Addr) (k : ClassId) (ty : FieldType) (vs : List Value) : Prop := ∃ c : Cell, Arr Z h a c ty ∧ c.cls = k ∧ c.slots.toList = vs
theorem OwnA.lt {Z : State} {h : Heap} {a : Addr} {k : ClassId} {ty : FieldType} {vs : List Value} (F : OwnA Z h a k ty vs) : a < h.size := by obtain ⟨c, A, -⟩ := F; exact A.lt
theorem OwnA.ext {Z : State} {h h' : Heap} {a : Addr} {k : ClassId} {ty : FieldType} {vs : List Value} (F : OwnA Z h a k ty vs) (E : Ext h h') : OwnA Z h' a k ty vs := by obtain ⟨c, A, r⟩ := F; exact ⟨c, A.ext E, r⟩
theorem OwnA.other {Z : State} {h h' : Heap} {a b : Addr} {k : ClassId} {ty : FieldType} {vs : List Value} {sl : Nat} {v : Value} (F : OwnA Z h a k ty vs) (W : Wr h h' b sl v) (q : a ≠ b) : OwnA Z h' a k ty vs := by obtain ⟨c, A, r⟩ := F; exact ⟨c, A.other W q, r⟩
theorem OwnA.keep {Z : State} {h h' : Heap} {a : Addr} {k : ClassId} {ty : FieldType} {vs : List Value} {ws : List Addr} (F : OwnA Z h a k ty vs) (K : Keep h h' ws) (q : a ∉ ws) : OwnA Z h' a k ty vs := by obtain ⟨c, A, r⟩ := F; exact ⟨c, own_arrK A K q, r⟩
theorem OwnA.new {Z : State} {h : Heap} {a : Addr} {k : ClassId} {ty : FieldType} {z : Int32} (A : Arr Z h a (newA k ty z) ty) : OwnA Z h a k ty (List.replicate z.toNatClampNeg (defaultValue ty)) := ⟨_, A, rfl, by simp [newA]⟩
theorem OwnA.set {Z : State} {h h' : Heap} {a : Addr} {k : ClassId} {ty : FieldType} {vs : List Value} {j : Nat} {v : Value} (F : OwnA Z h a k ty vs) (W : Wr h h' a j v) : OwnA Z h' a k ty (vs.set j v) := by
  obtain ⟨c, A, r1, r2⟩ := F
  refine ⟨_, A.same W, r1, ?_⟩
  rw [← r2]
  simp [Cell.setSlot]
theorem OwnA.inb {c : Cell} {vs : List Value} {j : Int32} (H : c.slots.toList = vs) (h1 : ¬ j < 0) (h2 : j.toNatClampNeg < vs.length) : ¬ (j < 0 ∨ c.slots.size ≤ j.toNatClampNeg) := by
  rintro (q | q)
  · exact h1 q
  · rw [← H, Array.length_toList] at h2; omega
theorem OwnA.at {c : Cell} {vs : List Value} {j : Int32} {v : Value} (H : c.slots.toList = vs) (h : vs[j.toNatClampNeg]? = some v) : c.slots[j.toNatClampNeg]? = some v := by
  rw [← H] at h; simpa using h
theorem OwnA.size {c : Cell} {vs : List Value} {z : Int32} (H : c.slots.toList = vs) (h : vs.length = z.toNatClampNeg) : c.slots.size = z.toNatClampNeg := by
  rw [← h, ← H, Array.length_toList]
theorem OwnA.ofArv {Z : State} {h : Heap} {a : Addr} {k : ClassId} {ty : FieldType} {z : Int32} {vs : List Value} {d : Value} (F : Arv Z h a k ty z vs d) (hl : z.toNatClampNeg = vs.length) : OwnA Z h a k ty vs := by
  obtain ⟨c, A, r1, r2, r3, r4, r5⟩ := F
  refine ⟨c, A, r1, ?_⟩
  apply List.ext_getElem?
  intro i
  by_cases hi : i < c.slots.size
  · have q := r4 i hi
    rw [Array.getElem?_toList, q, List.getD_eq_getElem?_getD]
    rw [r2, hl] at hi
    rw [List.getElem?_eq_getElem hi]; rfl
  · rw [Array.getElem?_toList, Array.getElem?_eq_none (by omega), List.getElem?_eq_none (by omega)]
theorem OwnA.one {Z : State} {h : Heap} {a : Addr} {k k' : ClassId} {ty ty' : FieldType} {vs vs' : List Value} (F : OwnA Z h a k ty vs) (G : OwnA Z h a k' ty' vs') : vs = vs' := by
  obtain ⟨c, A, -, r⟩ := F
  obtain ⟨c', A', -, r'⟩ := G
  have q := A.1.symm.trans A'.1
  cases q
  rw [← r, ← r']
theorem own_fldOne {Z : State} {h : Heap} {a : Addr} {C n d : String} {v w : Value} (F : Fld Z h a C n d v) (G : Fld Z h a C n d w) : v = w := by
  obtain ⟨c, cf, k, i, f, h1, h2, h3, h4, h5, h6, h7⟩ := F
  obtain ⟨c', cf', k', i', f', g1, g2, g3, g4, g5, g6, g7⟩ := G
  have q := h1.symm.trans g1
  cases q
  have q := h2.symm.trans g2
  cases q
  have q := h7.symm.trans g7
  cases q
  rfl
theorem own_decl {Z : State} {a0 : Array Value} {y : MethodName} {b : ByteArray} {ml : Nat} {rt : Option FieldType} (hi : (Jvm.Cond.instanceMethod y).before a0 Z = true) (hc : (Jvm.Cond.code y b ml rt).before a0 Z = true) : (Jvm.Cond.declares y).before a0 Z = true := by
  obtain ⟨mk, methM, hnamed, hmethM, hstM, habM⟩ := Cond.instanceMethod_spec hi
  obtain ⟨m2, cM, q1, -, -, -, -, -, -, hsig⟩ := Cond.code_spec hnamed hc
  cases hmethM.symm.trans q1
  simp [Cond.before, Cond.holds, Cond.value, hnamed, hmethM, hstM, hsig]
theorem own_selp {Z : State} {a0 : Array Value} {C : String} {y y' : MethodName} (h' : (Jvm.Cond.selects C y' y').before a0 Z = true) (hc : y'.cls = y.cls) (hp : (Jvm.Cond.privateMethod y).before a0 Z = true) (hi : (Jvm.Cond.instanceMethod y).before a0 Z = true) (hy : y.cls ≠ "java/lang/invoke/MethodHandle" ∧ y.cls ≠ "java/lang/invoke/VarHandle") : (Jvm.Cond.selects y.cls y y).before a0 Z = true := by
  obtain ⟨c2, r2, m2, q1, q2, q3, q4, kP, hkP, hkPi⟩ := Cond.selects_spec h'
  exact selects_self_of_private (c := m2.cls) (by rw [← hc]; exact findClass_of_methodNamed q3) hkP hkPi (Cond.privateMethod_at hp) hi hy
theorem own_plainA {Z : State} {h : Heap} {a : Addr} {k : ClassId} {ty : FieldType} {vs : List Value} (F : OwnA Z h a k ty vs) : ∃ c : Cell, h[a]? = some c ∧ c.vm.isStatics = false := by
  obtain ⟨c, A, -⟩ := F
  exact ⟨c, A.1, A.plain⟩
theorem own_eqI {args : Array Value} {s : State} {u : Term} {k : Int32} (h : (Jvm.Cond.eq u (.int k)).value args s none s [] = some true) : u.eval args s none [] s = some (.int k) := by
  cases hv : u.eval args s none [] s with
  | none => simp [Cond.value, hv] at h
  | some v => cases v <;> simp [Cond.value, Term.eval, hv] at h ⊢ <;> exact h
theorem own_eqL {args : Array Value} {s : State} {u : Term} {k : Int64} (h : (Jvm.Cond.eq u (.long k)).value args s none s [] = some true) : u.eval args s none [] s = some (.long k) := by
  cases hv : u.eval args s none [] s with
  | none => simp [Cond.value, hv] at h
  | some v => cases v <;> simp [Cond.value, Term.eval, hv] at h ⊢ <;> exact h
theorem own_size {args : Array Value} {s : State} {u : Term} {a : Addr} {cl : Cell} {ty : FieldType} {k : Int32} (ev : u.eval args s none [] s = some (.ref a)) (A : Arr s s.heap a cl ty) (h : (Jvm.Cond.eq (.length u) (.int k)).value args s none s [] = some true) : cl.slots.size = k.toNatClampNeg := by
  have h1 := own_eqI h
  have h2 : s.arrayAt? a = some cl := A.fin (Vm.Alike.refl _)
  simp only [Term.eval, ev, h2, Option.bind_eq_bind, Option.bind_some] at h1
  split at h1
  · rename_i hl
    have h3 : cl.slots.size.toInt32 = k := by simpa using h1
    rw [← h3]
    have := len_toInt hl
    rw [Int32.toNatClampNeg, this]; rfl
  · simp at h1
theorem own_elL {args : Array Value} {s : State} {u : Term} {a : Addr} {cl : Cell} {ty : FieldType} {j : Int32} {k : Int64} (ev : u.eval args s none [] s = some (.ref a)) (A : Arr s s.heap a cl ty) (h : (Jvm.Cond.eq (.elem u (.int j)) (.long k)).value args s none s [] = some true) : cl.slots[j.toNatClampNeg]? = some (.long k) :=
  (elem_in (own_eqL h) ev (Term.int_eval _) A.1).2
theorem own_elI {args : Array Value} {s : State} {u : Term} {a : Addr} {cl : Cell} {ty : FieldType} {j k : Int32} (ev : u.eval args s none [] s = some (.ref a)) (A : Arr s s.heap a cl ty) (h : (Jvm.Cond.eq (.elem u (.int j)) (.int k)).value args s none s [] = some true) : cl.slots[j.toNatClampNeg]? = some (.int k) :=
  (elem_in (own_eqI h) ev (Term.int_eval _) A.1).2
theorem own_ne {args : Array Value} {s : State} {u : Term} {z k : Int32} (ev : u.eval args s none [] s = some (.int z)) (h : (Jvm.Cond.not (Jvm.Cond.eq u (.int k))).value args s none s [] = some true) : ¬ z = k := by
  have h2 := not_v h
  intro q
  subst q
  simp [Cond.value, Term.eval, ev] at h2
theorem own_in {i z : Int32} {cl : Cell} (S : cl.slots.size = z.toNatClampNeg) (h1 : ¬ i < 0) (h2 : i < z) : ¬ (i < 0 ∨ cl.slots.size ≤ i.toNatClampNeg) := by
  rintro (q | q)
  · exact h1 q
  · rw [S] at q
    rw [Int32.lt_iff_toInt_lt] at h1 h2
    have e0 : (0 : Int32).toInt = 0 := rfl
    have e1 : ((i.toNatClampNeg : Nat) : Int) = i.toInt := by rw [Int32.toNatClampNeg]; exact Int.toNat_of_nonneg (by omega)
    have e2 : ((z.toNatClampNeg : Nat) : Int) = z.toInt := by rw [Int32.toNatClampNeg]; exact Int.toNat_of_nonneg (by omega)
    omega
theorem hw_ {Z : State} {a0 : Array Value} (hw : ∀ d ∈ tables_1, d.before a0 Z = true) (i : Nat) {d : Jvm.Cond} (h : tables_1[i]? = some d) : d.before a0 Z = true := hw d (List.mem_of_getElem? h)
end Own

theorem pd_0 : parseMethodDescriptor "(IILjava/util/function/BiFunction;)I" = some ⟨[.int, .int, (.object "java/util/function/BiFunction")], some .int⟩ := by decide +kernel
theorem pd_1 : parseMethodDescriptor "(IIILjava/util/function/BiFunction;)I" = some ⟨[.int, .int, .int, (.object "java/util/function/BiFunction")], some .int⟩ := by decide +kernel
theorem pd_2 : parseMethodDescriptor "()B" = some ⟨[], some .byte⟩ := by decide +kernel
theorem pd_3 : parseMethodDescriptor "([B)I" = some ⟨[(.array .byte)], some .int⟩ := by decide +kernel
theorem pd_4 : parseMethodDescriptor "(II)V" = some ⟨[.int, .int], none⟩ := by decide +kernel
theorem pd_5 : parseMethodDescriptor "(I[B)V" = some ⟨[.int, (.array .byte)], none⟩ := by decide +kernel
theorem pd_6 : parseMethodDescriptor "([BI)C" = some ⟨[(.array .byte), .int], some .char⟩ := by decide +kernel
theorem pd_7 : parseMethodDescriptor "()Z" = some ⟨[], some .boolean⟩ := by decide +kernel
theorem pd_8 : parseMethodDescriptor "(C)Z" = some ⟨[.char], some .boolean⟩ := by decide +kernel
theorem pd_9 : parseMethodDescriptor "([BIIZ)I" = some ⟨[(.array .byte), .int, .int, .boolean], some .int⟩ := by decide +kernel
theorem pd_10 : parseMethodDescriptor "()I" = some ⟨[], some .int⟩ := by decide +kernel
theorem pd_11 : parseMethodDescriptor "(III)I" = some ⟨[.int, .int, .int], some .int⟩ := by decide +kernel
theorem pd_12 : parseMethodDescriptor "([BII)I" = some ⟨[(.array .byte), .int, .int], some .int⟩ := by decide +kernel
theorem pd_13 : parseMethodDescriptor "(I)C" = some ⟨[.int], some .char⟩ := by decide +kernel
theorem pd_14 : parseMethodDescriptor "(Ljava/lang/CharSequence;II)I" = some ⟨[(.object "java/lang/CharSequence"), .int, .int], some .int⟩ := by decide +kernel
theorem pd_15 : parseMethodDescriptor "(I)I" = some ⟨[.int], some .int⟩ := by decide +kernel
theorem pd_16 : parseMethodDescriptor "(I)[B" = some ⟨[.int], some (.array .byte)⟩ := by decide +kernel
theorem pd_17 : parseMethodDescriptor "([BII)V" = some ⟨[(.array .byte), .int, .int], none⟩ := by decide +kernel
theorem pd_18 : parseMethodDescriptor "(II[B)V" = some ⟨[.int, .int, (.array .byte)], none⟩ := by decide +kernel
theorem pd_19 : parseMethodDescriptor "(II)I" = some ⟨[.int, .int], some .int⟩ := by decide +kernel
theorem pd_20 : parseMethodDescriptor "([BII)[B" = some ⟨[(.array .byte), .int, .int], some (.array .byte)⟩ := by decide +kernel
theorem pd_21 : parseMethodDescriptor "([CI[BII)I" = some ⟨[(.array .char), .int, (.array .byte), .int, .int], some .int⟩ := by decide +kernel
theorem pd_22 : parseMethodDescriptor "([CII)[B" = some ⟨[(.array .char), .int, .int], some (.array .byte)⟩ := by decide +kernel
theorem pd_23 : parseMethodDescriptor "([BI[BII)I" = some ⟨[(.array .byte), .int, (.array .byte), .int, .int], some .int⟩ := by decide +kernel
theorem pd_24 : parseMethodDescriptor "([BI)B" = some ⟨[(.array .byte), .int], some .byte⟩ := by decide +kernel
theorem pd_25 : parseMethodDescriptor "([CIILjava/lang/Void;)V" = some ⟨[(.array .char), .int, .int, (.object "java/lang/Void")], none⟩ := by decide +kernel
theorem pd_26 : parseMethodDescriptor "([C)V" = some ⟨[(.array .char)], none⟩ := by decide +kernel
theorem pd_27 : parseMethodDescriptor "([BB)V" = some ⟨[(.array .byte), .byte], none⟩ := by decide +kernel
theorem pd_28 : parseMethodDescriptor "(III)V" = some ⟨[.int, .int, .int], none⟩ := by decide +kernel
theorem pd_29 : parseMethodDescriptor "([BII)Ljava/lang/String;" = some ⟨[(.array .byte), .int, .int], some (.object "java/lang/String")⟩ := by decide +kernel
theorem pd_30 : parseMethodDescriptor "(II)Ljava/lang/String;" = some ⟨[.int, .int], some (.object "java/lang/String")⟩ := by decide +kernel
theorem pd_31 : parseMethodDescriptor "(Ljava/lang/String;I)Ljava/lang/String;" = some ⟨[(.object "java/lang/String"), .int], some (.object "java/lang/String")⟩ := by decide +kernel
theorem pd_32 : parseMethodDescriptor "([CII)I" = some ⟨[(.array .char), .int, .int], some .int⟩ := by decide +kernel
theorem pd_33 : parseMethodDescriptor "(I[C)Ljava/lang/String;" = some ⟨[.int, (.array .char)], some (.object "java/lang/String")⟩ := by decide +kernel
def QSame (r : Option Value) (h0 : Heap) (n0 : Nat) (v : Option Value) (h : Heap) (L : List Loc) : Prop := v = r ∧ Fr n0 L ∧ h = h0
theorem own_str {Z : State} {a0 : Array Value} (hw : ∀ d ∈ tables_1, d.before a0 Z = true) : ∀ a ∈ Bundle.stringAtoms, a.before a0 Z = true := by
  intro a ha
  simp only [Bundle.stringAtoms, List.mem_cons, List.not_mem_nil, or_false] at ha
  rcases ha with rfl | rfl | rfl | rfl | rfl | rfl | rfl
  · exact (hw_ hw 14 rfl)
  · exact (hw_ hw 13 rfl)
  · exact (hw_ hw 26 rfl)
  · exact (hw_ hw 27 rfl)
  · exact (hw_ hw 28 rfl)
  · exact (hw_ hw 29 rfl)
  · exact (hw_ hw 30 rfl)
section OwnL
variable {p : Program} {l : Launch} {e : Env} {R : Room} {s : State} {m : MethodId} {args : Array Value} {below : List Frame} {meth : Method} {c : Code} {T : State} {locs : List Loc} {cells slots : Nat}
theorem own_wh {A B D : State} (h1 : A.WarmedH B.vm) (h2 : B.WarmedH D.vm) : A.WarmedH D.vm := State.WarmedH.trans h1 h2
theorem own_ib {Z A : State} {vm' : Vm} {Ts : List String} (I : IB Z A.vm Ts) (h : A.WarmedH vm') : IB Z vm' Ts := by
  obtain ⟨more, h1, h2⟩ := I
  exact ⟨more, by rw [h.interned_eq]; exact h1, h2⟩
theorem own_ib0 {Z : State} {vm' : Vm} (h : Z.WarmedH vm') : IB Z vm' [] := own_ib IB.start h
/-- a callee that starts where nothing is interned yet, and tells what is interned at its end -/
theorem own_backH {Z : State} {a0 : Array Value} {h : Heap} {y : MethodName} {bytes : ByteArray} {maxL : Nat} {ret : Option FieldType} {rm : Room} {len W : Nat} {as' : Array Value} {Q : Option Value → Heap → List Loc → Prop} {I : Vm → Prop}
    (hM : MetFree l y (head1 [Jvm.Cond.code y bytes maxL ret] rm) (fun a U => a = as' ∧ Z.WarmedH U.vm ∧ U.heap = h) (fun _ _ _ _ _ => True) (fun _ U o U' => ∃ v L, o = .returned v ∧ (Q v U'.heap L ∧ I U'.vm) ∧ ReturnedEndW U o U' L rm.cells rm.slots))
    (hZ : Z.WarmedH s.vm) (wc : (Jvm.Cond.code y bytes maxL ret).before a0 Z = true) (wz : (Jvm.Cond.initialized y.cls).before a0 Z = true) (hf : rm.frames + 1 ≤ R.frames) (hl : W + (maxL + 11) + rm.locals ≤ R.locals) :
    BackS l R p e below s args y len W (fun A a => a = as' ∧ A.U.heap = h ∧ A.cells + rm.cells ≤ R.cells ∧ A.slots + rm.slots ≤ R.slots)
      (fun A _ v B => ∃ L, (Q v B.U.heap L ∧ I B.U.vm) ∧ B.locs = A.locs ++ L ∧ B.cells = A.cells + rm.cells ∧ B.slots = A.slots + rm.slots) :=
  BackS.of_freeW (bytes := bytes) (maxL := maxL) (ret := ret) (E := fun _ _ o t L k n => k = rm.cells ∧ n = rm.slots ∧ ∃ v, o = .returned v ∧ (Q v t.heap L ∧ I t.vm)) hM hf hl
    (fun m meth c A a Y hp => have hU : Z.Warmed39 A.U.vm := (own_wh hZ Y.warmed).wide
      ⟨by show (Jvm.Cond.and _ .tt).before a A.U = true; rw [Cond.before_and, mv hU wc]; rfl, mv hU wc, mv hU wz, hp.2.2.1, hp.2.2.2⟩)
    (fun m meth c A a g mk Y hp => ⟨hp.1, own_wh hZ Y.warmed, hp.2.1⟩) (fun _ _ _ _ _ _ _ _ _ => trivial)
    (fun _ _ _ _ ⟨v, L, h1, h2, h3⟩ => ⟨L, _, _, h3, rfl, rfl, v, h1, h2⟩)
    (fun m meth c A a g mk v t L k n Y hp _ _ ⟨e1, e2, v', e3, e4⟩ => by cases e3; subst e1 e2; exact ⟨L, e4, rfl, rfl, rfl⟩)
/-- it returned; Q of the heap, I of the tables; what may be interned -/
def OwnEV (s : State) (Q : Option Value → Heap → List Loc → Prop) (I : Vm → Prop) (k n : Nat) (o : Outcome) (U : State) : Prop :=
  ∃ v L, o = .returned v ∧ (Q v U.heap L ∧ I U.vm) ∧ ReturnedEndW s o U L k n
theorem own_ret0V {vm₁ : Vm} (X : Stand p l e R (s.setVm vm₁) m args below meth c T locs cells slots) {n1 : Nat} (hS : s.Since vm₁ n1) (hn1 : n1 ≤ T.heap.size) (hx : p.tables.exec = Jvm.exec) {pc : Nat} {Ls : Array Slot} (hret : meth.sig.returnType = none)
    (hd : decode c.code pc = .ok (.return_, 1)) (hlk : meth.locks = false) {Q : Option Value → Heap → List Loc → Prop} {I : Vm → Prop} {k n : Nat} (hk : cells ≤ k) (hs : slots ≤ n) (hQ : Q none T.heap locs) (hI : I T.vm) : OwnG p e below (OwnEV s Q I k n) (T.setTop (mkF m pc Ls [])) := by
  obtain ⟨fs, hr, hrun, hended, hE⟩ := X.leaveW hS hn1 (v := none) (fun _ => rfl) hlk
  exact ⟨_, _, X.returnOut hx hret hd hr, hrun, hended, _, _, rfl, ⟨hQ, hI⟩, own_endW hE hk hs⟩
theorem own_retAV {vm₁ : Vm} (X : Stand p l e R (s.setVm vm₁) m args below meth c T locs cells slots) {n1 : Nat} (hS : s.Since vm₁ n1) (hn1 : n1 ≤ T.heap.size) (hx : p.tables.exec = Jvm.exec) {pc : Nat} {Ls : Array Slot} {w : Value} {t : FieldType} {rest : List Value} (hret : meth.sig.returnType = some t) (ht : t.isReference = true) (hw : w.isRef = true)
    (hd : decode c.code pc = .ok (.areturn, 1)) (hlk : meth.locks = false) {Q : Option Value → Heap → List Loc → Prop} {I : Vm → Prop} {k n : Nat} (hk : cells ≤ k) (hs : slots ≤ n) (hQ : Q (some w) T.heap locs) (hI : I T.vm) : OwnG p e below (OwnEV s Q I k n) (T.setTop (mkF m pc Ls (w :: rest))) := by
  obtain ⟨fs, hr, hrun, hended, hE⟩ := X.leaveW hS hn1 (v := some w) (fun h => by rw [hret] at h; cases h) hlk
  exact ⟨_, _, retOut X hx hret (own_narR ht hw) (Or.inr (Or.inr (Or.inr (Or.inr ⟨rfl, ht, hw⟩)))) hd hr, hrun, hended, _, _, rfl, ⟨hQ, hI⟩, own_endW hE hk hs⟩
open Jvm.Free.SB Jvm.Free.SBG in
/-- the empty compact String, said of the case's start -/
theorem own_slin {Z T' : State} (hal : Z.vm.Alike T'.vm) {lo hi : Nat} {a : Addr} {units : Array UInt16} (h0 : units = #[]) (hin : SlIn lo hi T' a units) :
    ∃ (b : Addr) (k : ClassId), Exa Z T'.heap a "java/lang/String" ∧ Fld Z T'.heap a "java/lang/String" "coder" "B" (.int 0) ∧ Fld Z T'.heap a "java/lang/String" "value" "[B" (.ref b) ∧ OwnA Z T'.heap b k .byte [] := by
  obtain ⟨⟨sa, sC, fV, fC, sd, SA, len⟩, cS, rfl, ⟨⟨s1, s2, s3, ⟨cv, kv, iv, s4, s4'⟩, ⟨cc, kc, ic, s5, s5'⟩, s6, s7, s8, s9, s10, s11, s12, -⟩, hfS, hcS⟩, ⟨kS, k1, k2, k3⟩, hB, hbyt, -⟩ := hin
  dsimp only [SQ.sa, SQ.sC, SQ.fSV, SQ.fSC, SQ.sd, SQ.SA, SQ.len] at *
  subst hcS
  obtain ⟨kv', z4⟩ := ff_back hal s4
  obtain ⟨kc', z5⟩ := ff_back hal s5
  have hfZ : Z.vm.findClass "java/lang/String" = some sC.cls := (hal.findClass _ _).symm.trans hfS
  obtain ⟨kz, hkz, -⟩ := Vm.findClass_spec hfZ
  obtain ⟨kz', hkz', ekz⟩ := hal.2.2 _ _ hkz
  cases hkz'.symm.trans k1
  have hfB : Z.vm.findClass "[B" = some SA.cls := (hal.findClass _ _).symm.trans hB
  obtain ⟨kb, hkb, -⟩ := Vm.findClass_spec hfB
  obtain ⟨kb', hkb', ekb⟩ := hal.2.2 _ _ hkb
  obtain ⟨hst, k9, hk9, comp, hki⟩ := s11
  cases hk9.symm.trans hkb'
  have hAZ : Z.isArrayOf SA .byte := ⟨hst, kb, hkb, comp, by rw [ekb] at hki; exact hki⟩
  refine ⟨sd, SA.cls, ⟨sC, kz, s1, hfZ, hkz, s3, fun ho => by rw [k3, ekz]⟩, ⟨sC, cc, kc', ic, fC, s1, z5, s7, s2, s3, by rw [← hal.assignable]; exact s5', s9⟩, ⟨sC, cv, kv', iv, fV, s1, z4, s6, s2, s3, by rw [← hal.assignable]; exact s4', s8⟩, ⟨SA, ⟨s10, hAZ, s12⟩, rfl, ?_⟩⟩
  rw [hbyt, h0, Jvm.Free.SBG.stringBytes_lat (by simp)]
  simp
open Jvm.Free.SB Jvm.Free.SBG in
set_option maxHeartbeats 4000000 in
/-- ldc_w of a constant that nobody has noted or interned: the String made, and what it holds -/
theorem own_cold1 (X : Stand p l e R s m args below meth c T locs cells slots) (hexec : p.tables.exec = Jvm.exec) {text : String} {index i : Nat} {k k' : Class} {cf : ClassFile} {units : Array UInt16} (hS : ∀ a ∈ Bundle.stringAtoms, a.before args s = true)
    (hk : s.vm.classes[m.cls]? = some k) (hk' : T.vm.classes[m.cls]? = some k') (hcf : k.cf = some cf) (hcf' : k'.cf = some cf) (hc : cf.constantPool[index]? = some (.string i)) (hu : cf.constantPool[i]? = some (.utf8 units)) (hnm : namesOf? cf.constantPool index = some (.string text))
    (hopen0 : k.resolved[index]? = some none) (hopen : k'.resolved[index]? = some none) (hf : T.vm.interned.find? (fun p => p.1 == units) = none) (hlat : units.all (· < 256) = true)
    {g : JFrame} (hg : g.method = m) (hdg : decode c.code g.pc = .ok (.ldc_w index, 3)) {n : Nat} (hbytes : (stringBytes units).size ≤ n) (hbig : n ≤ 536870912) (hRcells : cells + 2 ≤ R.cells) (hRslots : slots + (n + 4) ≤ R.slots) :
    ∃ (a : Addr) (T₂ : State), Stand p l e R (s.setVm T₂.vm) m args below meth c T₂ locs (cells + 2) (slots + (n + 4)) ∧ s.Since T₂.vm T₂.heap.size ∧ (∀ b, b < T.heap.size → T₂.heap[b]? = T.heap[b]?) ∧ SlIn s.heap.size T.heap.size T₂ a units ∧
      ∀ target, Steps p.tables e below (T₂.setTop { g with pc := g.pc + 3, stack := .ref a :: g.stack }) target → Steps p.tables e below (T.setTop g) target := by
  subst hg
  obtain ⟨Zs, LZ, hn4, hfitv, hfitc⟩ := StringT.of_atoms (args := args) hS
  obtain ⟨kS', kB', LT, hty⟩ := LZ.warmer X.warmed.alike
  obtain ⟨vm2, hvm2⟩ : ∃ v, v = ({ T.vm with interned := T.vm.interned.push (units, T.heap.size + 1) } : Vm).noted g.method.cls index (.string (T.heap.size + 1)) := ⟨_, rfl⟩
  obtain ⟨U, hU⟩ : ∃ v, v = withString T Zs.cB Zs.cS kS' Zs.fv Zs.fc units := ⟨_, rfl⟩
  have hUh : U.heap = (T.heap.push (bytesOf Zs.cB units)).push (stringAt Zs.cS kS' Zs.fv Zs.fc units T.heap.size) := by rw [hU, withString_eq]; rfl
  have hUs : U.heap.size = T.heap.size + 2 := by rw [hUh]; simp
  have hW : s.Warmed39 vm2 := by
    rw [hvm2]
    refine (X.warmed.wide.interns units (T.heap.size + 1)).notedString (units := units) hk (Or.inl hopen0) (by rw [hcf]; exact hnm) (by rw [hcf]; exact hc) (by rw [hcf]; simp [ConstantPool.utf8?, hu]) ?_
    show (T.vm.interned.push (units, T.heap.size + 1)).find? _ = _
    rw [Array.find?_push, hf]; simp
  have b1 : (bytesOf Zs.cB units).slots.size = (stringBytes units).size := by rw [(Cell.writeAll_facts _ _).2.2]; simp [bytes0]
  have b2 : (stringAt Zs.cS kS' Zs.fv Zs.fc units T.heap.size).slots.size = 4 := by simp [string0, Cell.setSlot, hty, hn4]
  have X2 : Stand p l e R s g.method args below meth c U locs (cells + 1 + 1) (slots + (bytesOf Zs.cB units).slots.size + (stringAt Zs.cS kS' Zs.fv Zs.fc units T.heap.size).slots.size) := by
    rw [hU, withString_eq]; exact (X.pushed _).pushed _
  have hone : T.Interned1 (U.setVm vm2) := ⟨by show T.heap.size ≤ U.heap.size; omega, Or.inr ⟨units, T.heap.size + 1, by rw [hvm2]; rfl, by omega, by show T.heap.size + 1 < U.heap.size; omega⟩⟩
  refine ⟨T.heap.size + 1, U.setVm vm2, (X2.mono (by omega) (by rw [b1, b2]; omega)).retabled hW, ⟨hW, State.Booked.step (X.warmed.no_new_pair _) X.same.2.1 hone⟩, fun b hb => ?_, ?_, fun target hrest => ?_⟩
  · show U.heap[b]? = _
    rw [hUh, Array.getElem?_push, if_neg (by rw [Array.size_push]; omega), Array.getElem?_push, if_neg (by omega)]
  · refine made_sl hS LZ hn4 hty hW.alike ?_ ?_ hlat (by omega) s.heap.size
    · show U.heap[T.heap.size]? = _
      rw [hUh, Array.getElem?_push, if_neg (by rw [Array.size_push]; omega), Array.getElem?_push, if_pos rfl]
    · show U.heap[T.heap.size + 1]? = _
      rw [hUh, Array.getElem?_push, if_pos (by rw [Array.size_push])]
  · refine Steps.instr (c := _) (by simpa using X.here) ?_
    simp [jvm, wpRun, exec, X.here.top, hexec, hdg]
    have hfs : T.fitsSlot = s.fitsSlot := (show T.fitsSlot = (s.setVm T.vm).fitsSlot from rfl).trans (State.fitsSlot_setVm X.warmed.alike)
    refine ldc_w.wp_string_new (e := e) (s := T) (f := g) X.here.top hk' hcf' hc hu hopen hf LT.found LT.cls LT.initialized LT.ordinary LT.foundB LT.clsB LT.kindB LT.value LT.coder (by rw [Launch.admits_arrayLengthLimit X.admits]; omega) (by rw [Launch.admits_maxHeapBytes X.admits]; simp only [componentBytes]; omega) (X.cellsAbove hRcells) ?_
      (stringBytes_fit LT.clsB LT.kindB units) LT.valueSlot LT.coderSlot (by rw [hfs]; exact hfitv _) (by rw [hfs]; exact hfitc _) (fun d' acts' => ?_)
    · have q := X.slotsAbove hRslots
      show T.slotsUsed + (stringBytes units).size + kS'.instanceTypes.size ≤ _
      rw [hty, hn4]; omega
    · intro acts2
      have t1 : (withString T Zs.cB Zs.cS kS' Zs.fv Zs.fc units).topJava?.isSome := by simpa [withString] using X.here.top
      have t2 : ((withString T Zs.cB Zs.cS kS' Zs.fv Zs.fc units).setVm (({ T.vm with interned := T.vm.interned.push (units, T.heap.size + 1) } : Vm).noted g.method.cls index (.string (T.heap.size + 1)))).topJava?.isSome := by simpa using t1
      simp [jvm, afterInstr, t1, t2]
      rw [State.modifyTopJava_setTop]
      rw [hU, hvm2] at hrest
      exact hrest
open Jvm.Free.SB Jvm.Free.SBG in
/-- ldc_w of a constant, and what is pushed -/
theorem own_cold (X : Stand p l e R s m args below meth c T locs cells slots) (hold : ∀ (b : Addr) (cl : Cell), s.heap[b]? = some cl → T.heap[b]? = some cl) (hexec : p.tables.exec = Jvm.exec) {own text : String} {index : Nat} (hown : s.vm.findClass own = some m.cls)
    (hlink : (Jvm.Cond.stringLink own index text).before args s = true) (hS : ∀ a ∈ Bundle.stringAtoms, a.before args s = true) (hheld : ConstHeldL s own index) (hlat : ∀ units : Array UInt16, utf16ToString? units = some text → units.all (· < 256) = true)
    {g : JFrame} (hg : g.method = m) (hdg : decode c.code g.pc = .ok (.ldc_w index, 3)) {n : Nat} (hn : 4 * text.toList.length ≤ n) (hbig : n ≤ 536870912) (hRcells : cells + 2 ≤ R.cells) (hRslots : slots + (n + 4) ≤ R.slots) :
    ∃ (a : Addr) (T₂ : State), Stand p l e R (s.setVm T₂.vm) m args below meth c T₂ locs (cells + 2) (slots + (n + 4)) ∧ s.Since T₂.vm T₂.heap.size ∧ (∀ b, b < T.heap.size → T₂.heap[b]? = T.heap[b]?) ∧ (∃ units : Array UInt16, utf16ToString? units = some text ∧ SlIn s.heap.size T.heap.size T₂ a units) ∧
      ∀ target, Steps p.tables e below (T₂.setTop { g with pc := g.pc + 3, stack := .ref a :: g.stack }) target → Steps p.tables e below (T.setTop g) target := by
  obtain ⟨k, cf, i, units, hk, hcf, hc, hu, hnm, hdec, hres⟩ := Cond.stringLink_spec hown hlink
  obtain ⟨k', hk', he, -, ee, -⟩ := X.warmed.wide.2.2.2 _ k hk
  have hcf' : k'.cf = some cf := by rw [he]; exact hcf
  -- what an entry that was noted since tells of the intern table
  have note : ∀ {vm : Vm} {kk : Class} {a : Addr}, (kk.resolved[index]? = k.resolved[index]? ∨ (k.resolved[index]? = some none ∧ ∃ r : Resolved, kk.resolved[index]? = some (some r) ∧ (s.rightAt m.cls index r = true ∨ ∃ (a : Addr) (t : String) (si : Nat) (us : Array UInt16), r = .string a ∧ k.cf.bind (namesOf? ·.constantPool index) = some (.string t) ∧ k.cf.bind (·.constantPool[index]?) = some (.string si) ∧ k.cf.bind (·.constantPool.utf8? si) = some us ∧ vm.interned.find? (fun p => p.1 == us) = some (us, a)))) →
      kk.resolved[index]? = some (some (.string a)) → k.resolved[index]? = some (some (.string a)) ∨ (k.resolved[index]? = some none ∧ vm.interned.find? (fun p => p.1 == units) = some (units, a)) := by
    intro vm kk a h1 h2
    rcases h1 with e0 | ⟨hop, r, e1, hr | ⟨a3, t, si, us, rfl, -, q3, q4, q5⟩⟩
    · exact Or.inl (e0.symm.trans h2)
    · exfalso
      cases r <;> simp [State.rightAt, hk, hcf, hnm] at hr
    · have ea : a3 = a := by have q := e1.symm.trans h2; simpa using q
      have e3 : si = i := by rw [hcf] at q3; have q := q3.symm.trans hc; simpa using q
      have e4 : us = units := by rw [hcf, e3] at q4; simpa [ConstantPool.utf8?, hu] using q4.symm
      subst ea e4
      exact Or.inr ⟨hop, q5⟩
  by_cases hnew : k'.resolved[index]? = some none ∧ T.vm.interned.find? (fun p => p.1 == units) = none
  · have hopen0 : k.resolved[index]? = some none := by
      rcases ee index with e0 | ⟨hop, -⟩
      · rw [← e0]; exact hnew.1
      · exact hop
    obtain ⟨a, T₂, q1, q2, q3, q4, q5⟩ := own_cold1 X hexec hS hk hk' hcf hcf' hc hu hnm hopen0 hnew.1 hnew.2 (hlat units hdec) hg hdg (Nat.le_trans (text_bytes_le hdec) hn) hbig hRcells hRslots
    exact ⟨a, T₂, q1, q2, q3, ⟨units, hdec, q4⟩, q5⟩
  · obtain ⟨a, T₂, X₂, hS₂, ⟨k₂, hk₂, hr₂⟩, hb₂, hone, st⟩ := X.ldcWStringCold hexec hown hlink hS hg hdg hn hbig hRcells hRslots
    refine ⟨a, T₂, X₂, hS₂, hb₂, ⟨units, hdec, ?_⟩, st⟩
    obtain ⟨k₃, hk₃, -, -, ee₂, -⟩ := hS₂.1.2.2.2 _ k hk
    cases hk₂.symm.trans hk₃
    have hie : T.vm.interned = s.vm.interned := X.warmed.interned_eq
    have hfound : k.resolved[index]? = some (some (.string a)) ∨ (k.resolved[index]? = some none ∧ s.vm.interned.find? (fun p => p.1 == units) = some (units, a)) := by
      rcases note (vm := T₂.vm) (ee₂ index) hr₂ with q | ⟨hop, q5⟩
      · exact Or.inl q
      · refine Or.inr ⟨hop, ?_⟩
        rw [← hie]
        rcases hone.2 with q | ⟨u', a', q, -, -⟩
        · rw [← q]; exact q5
        · rw [q, Array.find?_push] at q5
          cases hf : T.vm.interned.find? (fun p => p.1 == units) with
          | some pr => rw [hf] at q5; simpa using q5
          | none =>
            exfalso
            refine hnew ⟨?_, hf⟩
            rcases ee index with e0 | ⟨-, r, e1, -⟩
            · exact e0.trans hop
            · exfalso
              cases r with
              | string b =>
                rcases note (vm := T.vm) (ee index) e1 with q | ⟨-, q⟩
                · rw [hop] at q; simp at q
                · rw [hf] at q; simp at q
              | _ =>
                rcases ee index with e0 | ⟨-, r', e1', hr | ⟨a3, t, si, us, rfl, -⟩⟩
                · rw [e0, hop] at e1; simp at e1
                · cases r' <;> simp [State.rightAt, hk, hcf, hnm] at hr
                · rw [e1'] at e1; simp at e1
    exact (hheld _ k cf i units a hown hk hcf hc hu hfound).movedIn T.heap.size hS₂.1.alike (fun b cl hb => (hb₂ b (Array.getElem?_eq_some_iff.mp (hold b cl hb)).1).trans (hold b cl hb))
/-- ldc_w of the empty text, read -/
theorem own_ldcw {vm0 : Vm} {Z : State} {a0 : Array Value} {h : Heap} {own : String} {index : Nat} (X : Stand p l e R (s.setVm vm0) m args below meth c T locs cells slots) (hx : p.tables.exec = Jvm.exec) (hZ : Z.Warmed39 vm0) (hown : vm0.findClass own = some m.cls) (w : (Jvm.Cond.stringLink own index "").before a0 Z = true) (wS : ∀ a ∈ Bundle.stringAtoms, a.before a0 Z = true)
    (eT : T.heap = h) {k0 : Nat} (hS : s.Since vm0 k0) (hk : k0 ≤ h.size) (N : Fr s.heap.size locs) (hkeep : ∀ (b : Addr) (cl : Cell), Z.heap[b]? = some cl → s.heap[b]? = some cl) (I : IB Z vm0 []) (hh : Jvm.Lit.constHeld Z own index) (hcw : Jvm.Lit.compactW.before a0 Z = true)
    {g : JFrame} (hg : g.method = m) (hd : decode c.code g.pc = .ok (.ldc_w index, 3)) (hc : cells + 2 ≤ R.cells) (hl' : slots + (0 + 4) ≤ R.slots) :
    ∃ (a : Addr) (T' : State) (h' : Heap) (k1 : Nat) (b : Addr) (k : ClassId), Stand p l e R (s.setVm T'.vm) m args below meth c T' locs (cells + 2) (slots + (0 + 4)) ∧ T'.heap = h' ∧ Ext h h' ∧ s.Since T'.vm k1 ∧ k1 ≤ h'.size ∧ Z.Warmed39 (s.setVm T'.vm).vm ∧ (s.setVm T'.vm).vm.findClass own = some m.cls ∧
      Exa Z h' a "java/lang/String" ∧ Fld Z h' a "java/lang/String" "coder" "B" (.int 0) ∧ Fld Z h' a "java/lang/String" "value" "[B" (.ref b) ∧ OwnA Z h' b k .byte [] ∧
      ∀ target, Steps p.tables e below (T'.setTop { g with pc := g.pc + 3, stack := .ref a :: g.stack }) target → Steps p.tables e below (T.setTop g) target := by
  have ht : ∀ c ∈ "".toList, c.toNat < 256 := fun c hc => absurd hc (by simp)
  have wi : (Jvm.Cond.instantiable "java/lang/String" 4).before a0 Z = true := wS _ (by simp [Bundle.stringAtoms, Bundle.sN])
  have wa : (Jvm.Cond.arrayClass .byte).before a0 Z = true := wS _ (by simp [Bundle.stringAtoms])
  have hH : ConstHeldL (s.setVm vm0) own index := heldCarry hZ w I (by simp) hkeep (heldStart hh w ht hcw wa wi)
  have wS' : ∀ a ∈ Bundle.stringAtoms, a.before args (s.setVm vm0) = true := fun d hd => by
    have q := wS d hd
    by_cases hd3 : d = Jvm.Cond.arrayClass .byte
    · subst hd3; exact mvA (s := s.setVm vm0) hZ q
    · simp only [Bundle.stringAtoms, List.mem_cons, List.not_mem_nil, or_false] at hd
      rcases hd with rfl | rfl | rfl | rfl | rfl | rfl | rfl <;> first | exact absurd rfl hd3 | exact mv (s := s.setVm vm0) hZ q
  obtain ⟨a, T', X', hS', hb, ⟨units, hu, hin⟩, st⟩ := own_cold X (oldF X N) hx (own := own) hown (mvS hZ w) wS' hH (fun units hu => Jvm.ClassFile.lat_of_text hu ht) hg hd (n := 0) (by simp) (by decide) hc hl'
  subst eT
  have E := ext_of hb
  have hW : Z.Warmed39 T'.vm := State.Warmed39.trans (t := s.setVm vm0) hZ hS'.1
  have hun : units = #[] := by
    have q := Jvm.ClassFile.units_of_text hu ht
    apply Array.toList_inj.mp
    rw [q]; rfl
  obtain ⟨b, kb, f1, f2, f3, f4⟩ := own_slin hW.alike hun hin
  exact ⟨a, T', _, _, b, kb, X', rfl, E, hS.trans hS' (Nat.le_trans hk E.1), Nat.le_refl _, hW, (hS'.1.alike.findClass _ _).trans hown, f1, f2, f3, f4, st⟩
end OwnL
section OwnC
variable {p : Program} {l : Launch} {e : Env} {R : Room} {s : State} {m : MethodId} {args : Array Value} {below : List Frame} {meth : Method} {c : Code} {T : State} {locs : List Loc} {cells slots : Nat}
theorem own_frcopy {k b q n : Nat} (h : k ≤ b) : Fr k (copyLocs b q n) := fun y hy => by
  simp only [copyLocs, List.mem_map] at hy
  obtain ⟨i, -, rfl⟩ := hy
  exact h
theorem own_acopy {Z : State} {a0 : Array Value} {h : Heap} (X : Stand p l e R s m args below meth c T locs cells slots) (hx : p.tables.exec = Jvm.exec) (hZ : Z.Warmed39 s.vm) {own : String} {index : Nat} (hown : s.vm.findClass own = some m.cls)
    (w1 : (Jvm.Cond.methodLink own index ⟨"java/lang/System", "arraycopy", "(Ljava/lang/Object;ILjava/lang/Object;II)V"⟩).before a0 Z = true) (w2 : (Jvm.Cond.native ⟨"java/lang/System", "arraycopy", "(Ljava/lang/Object;ILjava/lang/Object;II)V"⟩).before a0 Z = true) (w3 : (Jvm.Cond.static ⟨"java/lang/System", "arraycopy", "(Ljava/lang/Object;ILjava/lang/Object;II)V"⟩).before a0 Z = true) (w4 : (Jvm.Cond.initialized "java/lang/System").before a0 Z = true)
    (eT : T.heap = h) {a b : Addr} {ka kb : ClassId} {ty : FieldType} {vs ws : List Value} (A : OwnA Z h a ka ty vs) (B : OwnA Z h b kb ty ws) (hr : ty.isReference = false) (hfit : ∀ v ∈ vs, fits ty v = true) {o q n : Nat} {jo jq jn : Int32} (ho : jo = Int32.ofNat o) (hq : jq = Int32.ofNat q) (hn : jn = Int32.ofNat n)
    (h4 : o + n ≤ vs.length) (h5 : q + n ≤ ws.length) (hv : vs.length < 2 ^ 31) (hw' : ws.length < 2 ^ 31)
    {g : JFrame} (hg : g.method = m) (hsize : g.locals.size = c.maxLocals) {rest : List Value} (hstack : g.stack = .int jn :: .int jq :: .ref b :: .int jo :: .ref a :: rest) (hdg : decode c.code g.pc = .ok (.invokestatic index, 3))
    {W : Nat} (hW : 2 * g.monitorRoom + (rest.map fun v => v.category).sum ≤ W) (hfr : 1 ≤ R.frames) (hlo : W + 40 ≤ R.locals) :
    ∃ (T' : State) (h' : Heap), Stand p l e R s m args below meth c T' (locs ++ copyLocs b q n) cells slots ∧ T'.heap = h' ∧ Keep h h' [b] ∧ OwnA Z h' b kb ty (ws.take q ++ ((vs.drop o).take n ++ ws.drop (q + n))) ∧
      ∀ target, Steps p.tables e below (T'.setTop { g with pc := g.pc + 3, stack := rest }) target → Steps p.tables e below (T.setTop g) target := by
  obtain ⟨cA, A1, A2, A3⟩ := A
  obtain ⟨cB, B1, B2, B3⟩ := B
  have sA : cA.slots.size = vs.length := by rw [← A3, Array.length_toList]
  have sB : cB.slots.size = ws.length := by rw [← B3, Array.length_toList]
  have hal : Z.vm.Alike T.vm := hZ.alike.trans X.warmed.alike
  have XA : Jvm.Free.XT.Arr ty a cA T := ⟨by rw [eT]; exact A1.1, State.isArrayOf_alike hal A1.2.1, A1.2.2, by omega⟩
  have XB : Jvm.Free.XT.Arr ty b cB T := ⟨by rw [eT]; exact B1.1, State.isArrayOf_alike hal B1.2.1, B1.2.2, by omega⟩
  have hty : ((refKind ty != refKind ty) || (!refKind ty && ty != ty)) = false := by simp
  obtain ⟨T', B', X', P, b1, b2, b3, b4, st⟩ := X.acopy hx hown (fun w hw => by
    simp only [Jvm.Free.XT.acW, List.mem_cons, List.not_mem_nil, or_false] at hw
    rcases hw with rfl | rfl | rfl | rfl
    · exact mv hZ w1
    · exact mv hZ w2
    · exact mv hZ w3
    · exact mv hZ w4) XA XB hty ho hq hn (by omega) (by omega) (fun i hi => ⟨hfit _ (by
      have hlt : o + i < cA.slots.size := by omega
      rw [← A3, Array.getD_eq_getD_getElem?, Array.getElem?_eq_getElem hlt]
      exact Array.mem_toList_iff.mpr (Array.getElem_mem hlt)), fun q => by rw [hr] at q; cases q⟩) hg hsize hstack hdg hW hfr hlo
  refine ⟨T', _, X', rfl, ?_, ⟨B', ⟨P.1, ?_, ?_⟩, b1.trans B2, ?_⟩, st⟩
  · rw [← eT]
    refine ⟨Nat.le_of_eq P.2.2.symm, fun x cx hx' hne => by rw [P.2.1 x (by simpa using hne)]; exact hx', fun x cx hx' => ?_⟩
    by_cases hxb : x = b
    · subst hxb
      have q : cx = cB := by rw [eT] at hx'; exact Option.some.inj (hx'.symm.trans B1.1)
      subst q
      exact ⟨B', P.1, b1, b2, b3⟩
    · exact ⟨cx, by rw [P.2.1 x hxb]; exact hx', rfl, rfl, rfl⟩
  · obtain ⟨q1, k, q2, q3⟩ := B1.2.1
    exact ⟨by rw [b2]; exact q1, k, by rw [b1]; exact q2, q3⟩
  · rw [b2]; exact B1.2.2
  · apply List.ext_getElem?
    intro j
    rw [Array.getElem?_toList, b4 j]
    by_cases h1 : j < q
    · rw [if_neg (by omega), List.getElem?_append_left (by rw [List.length_take]; omega), List.getElem?_take_of_lt h1, ← B3, Array.getElem?_toList]
    · rw [List.getElem?_append_right (by rw [List.length_take]; omega), List.length_take, Nat.min_eq_left (by omega)]
      by_cases h2 : j < q + n
      · rw [if_pos ⟨by omega, h2⟩, List.getElem?_append_left (by rw [List.length_take, List.length_drop]; omega), List.getElem?_take_of_lt (by omega), List.getElem?_drop]
        have hlt : o + (j - q) < cA.slots.size := by omega
        rw [← A3, Array.getElem?_toList, Array.getD_eq_getD_getElem?, Array.getElem?_eq_getElem hlt]; rfl
      · rw [if_neg (by omega), List.getElem?_append_right (by rw [List.length_take, List.length_drop]; omega), List.length_take, List.length_drop, Nat.min_eq_left (by omega), List.getElem?_drop, ← B3, Array.getElem?_toList]
        congr 1; omega
end OwnC
/-- one sign on, two where a pair stands at i -/
def tStep (P : Nat → Bool) (n i : Nat) : Nat := if i + 1 < n ∧ P i = true then i + 2 else i + 1
/-- the law's four steps -/
def tE (P : Nat → Bool) (n m : Nat) : Nat → Nat
  | 0 => 0
  | j + 1 => if j + 1 ≤ m ∧ tE P n m j < n then tStep P n (tE P n m j) else tE P n m j
/-- the count of the pairs: fuel, place, count -/
def tCp (P : Nat → Bool) (n : Nat) : Nat → Nat → Nat → Nat
  | 0, _, c => c
  | f + 1, i, c => if i + 1 < n then (if P i = true then tCp P n f (i + 2) (c - 1) else tCp P n f (i + 1) c) else c
/-- the walk over m signs: fuel, place, count: the last place and count -/
def tOff (P : Nat → Bool) (n m : Nat) : Nat → Nat → Nat → Nat × Nat
  | 0, i, c => (i, c)
  | f + 1, i, c => if i < n ∧ c < m then tOff P n m f (tStep P n i) (c + 1) else (i, c)
def tP (a b c : Bool) (i : Nat) : Bool := match i with | 0 => a | 1 => b | 2 => c | _ => false
theorem tMain0 : ∀ n : Fin 5, ∀ m : Fin 5, ∀ a b c : Bool, (tCp (tP a b c) n 4 0 n ≤ m → tE (tP a b c) n m 4 = n) ∧ (¬ tCp (tP a b c) n 4 0 n ≤ m → tOff (tP a b c) n m 4 0 0 = (tE (tP a b c) n m 4, m.val) ∧ tE (tP a b c) n m 4 < n) := by decide +kernel
theorem tE_big (P : Nat → Bool) (n m : Nat) (h : 4 ≤ m) : ∀ j, j ≤ 4 → tE P n m j = tE P n 4 j
  | 0, _ => rfl
  | j + 1, hj => by
    have ih := tE_big P n m h j (by omega)
    simp only [tE, ih]
    have e1 : j + 1 ≤ m := by omega
    have e2 : j + 1 ≤ 4 := by omega
    simp only [e1, e2]
theorem tStep_congr {P Q : Nat → Bool} {n : Nat} (h : ∀ i, i + 1 < n → P i = Q i) (i : Nat) : tStep P n i = tStep Q n i := by
  unfold tStep
  by_cases hi : i + 1 < n
  · rw [h i hi]
  · simp [hi]
theorem tE_congr {P Q : Nat → Bool} {n m : Nat} (h : ∀ i, i + 1 < n → P i = Q i) : ∀ j, tE P n m j = tE Q n m j
  | 0 => rfl
  | j + 1 => by simp only [tE, tE_congr h j, tStep_congr h]
theorem tCp_congr {P Q : Nat → Bool} {n : Nat} (h : ∀ i, i + 1 < n → P i = Q i) : ∀ f i c, tCp P n f i c = tCp Q n f i c
  | 0, _, _ => rfl
  | f + 1, i, c => by
    simp only [tCp]
    by_cases hi : i + 1 < n
    · simp only [hi, if_true, h i hi, tCp_congr h f]
    · simp [hi]
theorem tOff_congr {P Q : Nat → Bool} {n m : Nat} (h : ∀ i, i + 1 < n → P i = Q i) : ∀ f i c, tOff P n m f i c = tOff Q n m f i c
  | 0, _, _ => rfl
  | f + 1, i, c => by simp only [tOff, tStep_congr h, tOff_congr h f]
theorem tCp_le (P : Nat → Bool) (n : Nat) : ∀ f i c, tCp P n f i c ≤ c
  | 0, _, _ => Nat.le_refl _
  | f + 1, i, c => by
    simp only [tCp]
    split
    · split
      · exact Nat.le_trans (tCp_le P n f _ _) (Nat.sub_le _ _)
      · exact tCp_le P n f _ _
    · exact Nat.le_refl _
/-- the law's equation -/
theorem tMain (P : Nat → Bool) {n m : Nat} (hn : n ≤ 4) : (tCp P n 4 0 n ≤ m → tE P n m 4 = n) ∧ (¬ tCp P n 4 0 n ≤ m → m ≤ 3 ∧ tOff P n m 4 0 0 = (tE P n m 4, m) ∧ tE P n m 4 < n) := by
  have hc : ∀ i, i + 1 < n → P i = tP (P 0) (P 1) (P 2) i := by
    intro i hi
    rcases (by omega : i = 0 ∨ i = 1 ∨ i = 2) with rfl | rfl | rfl <;> rfl
  rw [tCp_congr hc, tE_congr hc, tOff_congr hc]
  by_cases h4 : m ≤ 4
  · have q := tMain0 ⟨n, by omega⟩ ⟨m, by omega⟩ (P 0) (P 1) (P 2)
    refine ⟨q.1, fun h => ⟨?_, q.2 h⟩⟩
    have l := tCp_le (tP (P 0) (P 1) (P 2)) n 4 0 n
    omega
  · have l := tCp_le (tP (P 0) (P 1) (P 2)) n 4 0 n
    have q := tMain0 ⟨n, by omega⟩ ⟨4, by omega⟩ (P 0) (P 1) (P 2)
    refine ⟨fun _ => ?_, fun h => absurd (Nat.le_trans l (by omega)) h⟩
    rw [tE_big _ _ _ (by omega) 4 (by omega)]
    exact q.1 (Nat.le_trans l hn)
theorem own_frm {k n : Nat} {L : List Loc} (h : Fr k L) (g : n ≤ k) : Fr n L := fun y hy => Nat.le_trans g (h y hy)
theorem own_ltI {x y : Int32} : x < y ↔ x.toInt < y.toInt := Int32.lt_iff_toInt_lt
theorem own_tn (x : Int32) : x.toNatClampNeg = x.toInt.toNat := rfl
theorem own_nneg {v : Int32} {c : Nat} (h : v.toInt = c) : ¬ v < 0 := by rw [own_ltI]; have e : (0 : Int32).toInt = 0 := rfl; omega
theorem own_tnc {v : Int32} {c : Nat} (h : v.toInt = c) : v.toNatClampNeg = c := by rw [own_tn, h]; rfl
theorem own_lt {v w : Int32} {a b : Nat} (h : v.toInt = a) (k : w.toInt = b) : v < w ↔ a < b := by rw [own_ltI]; omega
theorem own_add {v w : Int32} {a b : Nat} (h : v.toInt = a) (k : w.toInt = b) (hb : a + b ≤ 1000) : (v + w).toInt = ((a + b : Nat) : Int) := by
  have h1 := c_iadd v w
  have h2 := rng32 (v + w)
  omega
theorem own_inc {v : Int32} {a : Nat} (h : v.toInt = a) (hb : a ≤ 900) : (v + 1).toInt = ((a + 1 : Nat) : Int) := own_add (b := 1) h rfl (by omega)
theorem own_inc2 {v : Int32} {a : Nat} (h : v.toInt = a) (hb : a ≤ 900) : (v + 2).toInt = ((a + 2 : Nat) : Int) := own_add (b := 2) h rfl (by omega)
theorem own_sub {v w : Int32} {a b : Nat} (h : v.toInt = a) (k : w.toInt = b) (hb : b ≤ a) (ha : a ≤ 1000) : (v - w).toInt = ((a - b : Nat) : Int) := by
  have h1 := c_isub v w
  have h2 := rng32 (v - w)
  omega
theorem own_sub0 (n : Int32) : n - 0 = n := by
  apply Int32.toInt_inj.mp
  have a := c_isub n 0
  have b := rng32 (n - 0)
  have c := rng32 n
  have e : (0 : Int32).toInt = 0 := rfl
  omega
theorem own_0add (n : Int32) : 0 + n = n := by
  apply Int32.toInt_inj.mp
  have a := c_iadd 0 n
  have b := rng32 (0 + n)
  have c := rng32 n
  have e : (0 : Int32).toInt = 0 := rfl
  omega
theorem own_dec {v : Int32} {a : Nat} (h : v.toInt = a) (h1 : 1 ≤ a) (hb : a ≤ 900) : (v + (-1)).toInt = ((a - 1 : Nat) : Int) := by
  have h1 := c_iadd v (-1)
  have h2 := rng32 (v + (-1))
  have e : (-1 : Int32).toInt = -1 := rfl
  omega
theorem own_eq {v w : Int32} {a : Nat} (h : v.toInt = a) (k : w.toInt = a) : v = w := Int32.toInt_inj.mp (h.trans k.symm)
theorem own_neq {v w : Int32} {a b : Nat} (h : v.toInt = a) (k : w.toInt = b) (hn : a ≠ b) : ¬ v = w := fun q => by rw [q] at h; omega
theorem own_ofn {v : Int32} {d : Nat} (h : v.toInt = d) : v = Int32.ofNat d := by
  have b := rng32 v
  apply Int32.toInt_inj.mp
  rw [h, Int32.toInt_ofNat_of_lt (by omega)]
theorem own_int (d : Nat) (h : d ≤ 1000) : ∃ z : Int32, z.toInt = (d : Int) := ⟨Int32.ofNat d, Int32.toInt_ofNat_of_lt (by omega)⟩
theorem own_shl1 {v : Int32} {a : Nat} (h : v.toInt = a) (ha : a ≤ 1000) : (v <<< ((1 : Int32) &&& 31)).toInt = ((2 * a : Nat) : Int) := by
  have h1 := c_ishl v 1 1 (by decide)
  have h2 := rng32 (v <<< ((1 : Int32) &&& 31))
  rw [show ((2 ^ 1 : Nat) : Int) = 2 from rfl] at h1
  omega
theorem own_shr1 {v : Int32} {a : Nat} (h : v.toInt = ((2 * a : Nat) : Int)) : (v >>> ((1 : Int32) &&& 31)).toInt = a := by
  rw [c_ishr v 1 1 (by decide), h, show ((2 ^ 1 : Nat) : Int) = 2 from rfl]; omega
theorem own_shr0 (z : Int32) : z >>> ((0 : Int32) &&& 31) = z := by
  have h : ((0 : Int32) &&& 31) = 0 := by decide
  rw [h]; exact Int32.shiftRight_zero
/-- a sign of 16 bits -/
def CU (u : Int32) : Prop := 0 ≤ u.toInt ∧ u.toInt ≤ 65535
theorem own_cui (x : Int32) : CU (x.toUInt32.toUInt16.toUInt32.toInt32) := by
  have h := c_i2c x
  exact ⟨h.2.1, by omega⟩
theorem own_i2c {u : Int32} (h : CU u) : u.toUInt32.toUInt16.toUInt32.toInt32 = u := by
  have q := c_i2c u
  have h1 := h.1
  have h2 := h.2
  exact Int32.toInt_inj.mp (by omega)
theorem own_narc {u : Int32} (h : CU u) : nar .char u = u := own_i2c h
theorem own_narr {u : Int32} (h : CU u) : narrow .char (.int u) = .int u := congrArg Value.int (own_i2c h)
def own_bl (u : Int32) : Int32 := nar .byte (u.toInt8.toInt32)
def own_b0 (u : Int32) : Int32 := nar .byte ((u >>> ((0 : Int32) &&& 31)).toInt8.toInt32)
def own_b1 (u : Int32) : Int32 := nar .byte ((u >>> ((8 : Int32) &&& 31)).toInt8.toInt32)
theorem own_byte (x : Int32) : ((nar .byte (x.toInt8.toInt32)) &&& (255 : Int32)).toInt = x.toInt % 256 := by
  have h1 := c_i2b x
  have h2 := c_i2b x.toInt8.toInt32
  have h3 := c_mask (nar .byte (x.toInt8.toInt32)) 255 8 (by decide) (by decide)
  rw [h3, show ((2 ^ 8 : Nat) : Int) = 256 from rfl]
  show (x.toInt8.toInt32.toInt8.toInt32).toInt % _ = _
  omega
theorem own_lc {u : Int32} (h0 : 0 ≤ u.toInt) (h : u.toInt ≤ 255) : ((own_bl u) &&& (255 : Int32)).toUInt32.toUInt16.toUInt32.toInt32 = u := by
  have h1 : ((own_bl u) &&& (255 : Int32)).toInt = u.toInt % 256 := own_byte u
  have h2 := c_i2c ((own_bl u) &&& (255 : Int32))
  exact Int32.toInt_inj.mp (by omega)
theorem own_gc {u : Int32} (h : CU u) : ((((own_b0 u) &&& (255 : Int32)) <<< ((0 : Int32) &&& 31)) ||| (((own_b1 u) &&& (255 : Int32)) <<< ((8 : Int32) &&& 31))).toUInt32.toUInt16.toUInt32.toInt32 = u := by
  have a0 : ((own_b0 u) &&& (255 : Int32)).toInt = (u >>> ((0 : Int32) &&& 31)).toInt % 256 := own_byte _
  have a1 : ((own_b1 u) &&& (255 : Int32)).toInt = (u >>> ((8 : Int32) &&& 31)).toInt % 256 := own_byte _
  have s0 := c_ishr u 0 0 (by decide)
  have s1 := c_ishr u 8 8 (by decide)
  rw [show ((2 ^ 0 : Nat) : Int) = 1 from rfl] at s0
  rw [show ((2 ^ 8 : Nat) : Int) = 256 from rfl] at s1
  generalize ((own_b0 u) &&& (255 : Int32)) = x at *
  generalize ((own_b1 u) &&& (255 : Int32)) = y at *
  have t0 := c_ishl x 0 0 (by decide)
  have t1 := c_ishl y 8 8 (by decide)
  rw [show ((2 ^ 0 : Nat) : Int) = 1 from rfl] at t0
  rw [show ((2 ^ 8 : Nat) : Int) = 256 from rfl] at t1
  have r0 := rng32 (x <<< ((0 : Int32) &&& 31))
  have r1 := rng32 (y <<< ((8 : Int32) &&& 31))
  have h1 := h.1
  have h2 := h.2
  have z0 : (x <<< ((0 : Int32) &&& 31)).toInt = u.toInt % 256 := by omega
  have z1 : (y <<< ((8 : Int32) &&& 31)).toInt = u.toInt / 256 * 256 := by omega
  rw [Int32.or_comm]
  have o := c_or (y <<< ((8 : Int32) &&& 31)) (x <<< ((0 : Int32) &&& 31)) 8 (by decide) 256 rfl (by omega) (by omega) (by omega)
  have q := c_i2c ((y <<< ((8 : Int32) &&& 31)) ||| (x <<< ((0 : Int32) &&& 31)))
  exact Int32.toInt_inj.mp (by omega)
/-- the three layouts of a text -/
def cV (us : List Int32) : List Value := us.map fun u => .int u
def bL (us : List Int32) : List Value := us.map fun u => .int (own_bl u)
def bU (us : List Int32) : List Value := us.flatMap fun u => [.int (own_b0 u), .int (own_b1 u)]
theorem cV_len (us : List Int32) : (cV us).length = us.length := by simp [cV]
theorem bL_len (us : List Int32) : (bL us).length = us.length := by simp [bL]
theorem bU_cons (u : Int32) (us : List Int32) : bU (u :: us) = .int (own_b0 u) :: .int (own_b1 u) :: bU us := by simp [bU]
theorem bU_len : ∀ us : List Int32, (bU us).length = 2 * us.length
  | [] => rfl
  | u :: us => by rw [bU_cons, List.length_cons, List.length_cons, bU_len us, List.length_cons]; omega
theorem cV_at {us : List Int32} {k : Nat} {u : Int32} (h : us[k]? = some u) : (cV us)[k]? = some (.int u) := by simp [cV, h]
theorem bL_at {us : List Int32} {k : Nat} {u : Int32} (h : us[k]? = some u) : (bL us)[k]? = some (.int (own_bl u)) := by simp [bL, h]
theorem bU_at : ∀ {us : List Int32} {k : Nat} {u : Int32}, us[k]? = some u → (bU us)[2 * k]? = some (.int (own_b0 u)) ∧ (bU us)[2 * k + 1]? = some (.int (own_b1 u))
  | [], k, u, h => by simp at h
  | v :: us, 0, u, h => by
    have q : v = u := by simpa using h
    subst q
    rw [bU_cons]
    exact ⟨rfl, rfl⟩
  | v :: us, k + 1, u, h => by
    have q := bU_at (us := us) (k := k) (u := u) (by simpa using h)
    rw [bU_cons, show 2 * (k + 1) = 2 * k + 1 + 1 from by omega]
    exact ⟨by simpa using q.1, by simpa using q.2⟩
theorem bL_take (us : List Int32) (k : Nat) : (bL us).take k = bL (us.take k) := by simp [bL, List.map_take]
theorem bU_take : ∀ (us : List Int32) (k : Nat), (bU us).take (2 * k) = bU (us.take k)
  | [], k => by simp [bU]
  | u :: us, 0 => by simp [bU]
  | u :: us, k + 1 => by
    rw [show 2 * (k + 1) = 2 * k + 1 + 1 from by omega, bU_cons, List.take_succ_cons, List.take_succ_cons, bU_take us k, List.take_succ_cons, bU_cons]
theorem bL_app (us vs : List Int32) : bL (us ++ vs) = bL us ++ bL vs := by simp [bL]
theorem bU_app (us vs : List Int32) : bU (us ++ vs) = bU us ++ bU vs := by simp [bU]
theorem own_fitb (x : Int32) : fits .byte (.int (nar .byte x)) = true := by
  have h := (c_i2b x).2
  show (decide (-128 ≤ x.toInt8.toInt32) && decide (x.toInt8.toInt32 ≤ 127)) = true
  rw [Bool.and_eq_true, decide_eq_true_iff, decide_eq_true_iff, Int32.le_iff_toInt_le, Int32.le_iff_toInt_le]
  have e1 : (-128 : Int32).toInt = -128 := rfl
  have e2 : (127 : Int32).toInt = 127 := rfl
  omega
theorem bL_fit (us : List Int32) : ∀ v ∈ bL us, fits .byte v = true := by
  intro v hv
  simp only [bL, List.mem_map] at hv
  obtain ⟨u, -, rfl⟩ := hv
  exact own_fitb _
theorem bU_fit (us : List Int32) : ∀ v ∈ bU us, fits .byte v = true := by
  intro v hv
  simp only [bU, List.mem_flatMap, List.mem_cons, List.not_mem_nil, or_false] at hv
  obtain ⟨u, -, rfl | rfl⟩ := hv <;> exact own_fitb _
theorem own_getq {us : List Int32} {k : Nat} (h : k < us.length) : ∃ u, us[k]? = some u ∧ u ∈ us := ⟨us[k], List.getElem?_eq_getElem h, List.getElem_mem h⟩
theorem own_klt {us : List Int32} {k : Nat} {u : Int32} (h : us[k]? = some u) : k < us.length := (List.getElem?_eq_some_iff.mp h).1
theorem own_tk {us : List Int32} {j : Nat} {u : Int32} (h : us[j]? = some u) : us.take (j + 1) = us.take j ++ [u] := by
  first
  | (rw [List.take_add_one, h]; rfl)
  | (rw [List.take_succ, h]; rfl)
theorem own_set {A rs : List Value} {r v : Value} : (A ++ r :: rs).set A.length v = A ++ v :: rs := by
  induction A with
  | nil => rfl
  | cons a A ih =>
    show a :: (A ++ r :: rs).set A.length v = a :: (A ++ v :: rs)
    rw [ih]
theorem own_fillL {us : List Int32} {rs : List Value} {j E : Nat} {u : Int32} (h : us[j]? = some u) (hr : rs.length = E - j) (hj : j < E) : ∃ rs', rs'.length = E - (j + 1) ∧ (bL (us.take j) ++ rs).set j (.int (own_bl u)) = bL (us.take (j + 1)) ++ rs' := by
  have hk := own_klt h
  cases rs with
  | nil => simp at hr; omega
  | cons r rs =>
    refine ⟨rs, by simp at hr; omega, ?_⟩
    have hl : (bL (us.take j)).length = j := by rw [bL_len, List.length_take]; omega
    have q := own_set (A := bL (us.take j)) (rs := rs) (r := r) (v := .int (own_bl u))
    rw [hl] at q
    rw [q, own_tk h, bL_app, List.append_assoc]
    rfl
theorem own_fillU {us : List Int32} {rs : List Value} {j E : Nat} {u : Int32} (h : us[j]? = some u) (hr : rs.length = 2 * (E - j)) (hj : j < E) : ∃ rs', rs'.length = 2 * (E - (j + 1)) ∧ ((bU (us.take j) ++ rs).set (2 * j) (.int (own_b0 u))).set (2 * j + 1) (.int (own_b1 u)) = bU (us.take (j + 1)) ++ rs' := by
  have hk := own_klt h
  match rs, hr with
  | [], hr => simp at hr; omega
  | [r], hr => simp at hr; omega
  | r :: r2 :: rs, hr =>
    refine ⟨rs, by simp at hr; omega, ?_⟩
    have hl : (bU (us.take j)).length = 2 * j := by rw [bU_len, List.length_take]; omega
    have q := own_set (A := bU (us.take j)) (rs := r2 :: rs) (r := r) (v := .int (own_b0 u))
    rw [hl] at q
    have q2 := own_set (A := bU (us.take j) ++ [.int (own_b0 u)]) (rs := rs) (r := r2) (v := .int (own_b1 u))
    rw [List.length_append, hl, List.append_assoc] at q2
    rw [q]
    refine Eq.trans q2 ?_
    rw [own_tk h, bU_app, List.append_assoc, List.append_assoc]
    rfl
theorem own_all {us : List Int32} {j : Nat} {u : Int32} (hu : us[j]? = some u) (hal : ∀ q ∈ us.take j, q.toInt ≤ 255) (h : ¬ (255 : Int32) < u) : ∀ q ∈ us.take (j + 1), q.toInt ≤ 255 := by
  intro q hq
  rw [own_tk hu, List.mem_append] at hq
  rcases hq with hq | hq
  · exact hal q hq
  · rw [List.mem_singleton] at hq
    rw [hq]
    rw [own_ltI] at h
    have e : (255 : Int32).toInt = 255 := rfl
    omega
theorem own_big {u : Int32} : 255 < u.toInt ↔ (255 : Int32) < u := by rw [own_ltI]; have e : (255 : Int32).toInt = 255 := rfl; omega
/-- surrogates -/
def isH (u : Int32) : Bool := decide (55296 ≤ u.toInt) && decide (u.toInt ≤ 56319)
def isLo (u : Int32) : Bool := decide (56320 ≤ u.toInt) && decide (u.toInt ≤ 57343)
theorem isH_iff {u : Int32} : isH u = true ↔ 55296 ≤ u.toInt ∧ u.toInt ≤ 56319 := by simp [isH]
theorem isLo_iff {u : Int32} : isLo u = true ↔ 56320 ≤ u.toInt ∧ u.toInt ≤ 57343 := by simp [isLo]
def pr (us : List Int32) (i : Nat) : Bool := isH (us.getD i 0) && isLo (us.getD (i + 1) 0)
theorem pr_t {us : List Int32} {k : Nat} {u v : Int32} (h0 : us[k]? = some u) (h1 : us[k + 1]? = some v) (a : isH u = true) (b : isLo v = true) : pr us k = true := by simp [pr, List.getD_eq_getElem?_getD, h0, h1, a, b]
theorem pr_f0 {us : List Int32} {k : Nat} {u : Int32} (h0 : us[k]? = some u) (a : ¬ isH u = true) : pr us k = false := by simp [pr, List.getD_eq_getElem?_getD, h0, Bool.eq_false_iff.mpr a]
theorem pr_f1 {us : List Int32} {k : Nat} {v : Int32} (h1 : us[k + 1]? = some v) (b : ¬ isLo v = true) : pr us k = false := by simp [pr, List.getD_eq_getElem?_getD, h1, Bool.eq_false_iff.mpr b]
theorem pr_take (us : List Int32) (N i : Nat) (hi : i + 1 < N) : pr (us.take N) i = pr us i := by
  simp only [pr, List.getD_eq_getElem?_getD, List.getElem?_take, if_pos hi, if_pos (show i < N by omega)]
theorem pr_lat {us : List Int32} (h : ∀ u ∈ us, u.toInt ≤ 255) (k : Nat) : pr us k = false := by
  have q : (us.getD k 0).toInt ≤ 255 := by
    rw [List.getD_eq_getElem?_getD]
    cases hq : us[k]? with
    | none => decide
    | some u => exact h u (List.mem_of_getElem? hq)
  have r : isH (us.getD k 0) = false := by
    rw [Bool.eq_false_iff, ne_eq, isH_iff]
    omega
  rw [pr, r]; rfl
theorem tCp_f {P : Nat → Bool} {n : Nat} (h : ∀ k, P k = false) : ∀ f i c, tCp P n f i c = c
  | 0, _, _ => rfl
  | f + 1, i, c => by
    simp only [tCp, h i, Bool.false_eq_true, if_false, tCp_f h f, ite_self]
theorem tCp_e {P : Nat → Bool} {n f i c : Nat} (h : ¬ i + 1 < n) : tCp P n f i c = c := by
  cases f with
  | zero => rfl
  | succ f => simp only [tCp, if_neg h]
theorem tCp_0 {P : Nat → Bool} {n f i c : Nat} (h : i + 1 < n) (p : P i = false) : tCp P n (f + 1) i c = tCp P n f (i + 1) c := by simp [tCp, h, p]
theorem tCp_1 {P : Nat → Bool} {n f i c : Nat} (h : i + 1 < n) (p : P i = true) : tCp P n (f + 1) i c = tCp P n f (i + 2) (c - 1) := by simp [tCp, h, p]
theorem tStep_2 {P : Nat → Bool} {n i : Nat} (h : i + 1 < n) (p : P i = true) : tStep P n i = i + 2 := if_pos ⟨h, p⟩
theorem tStep_a {P : Nat → Bool} {n i : Nat} (h : ¬ i + 1 < n) : tStep P n i = i + 1 := if_neg fun q => h q.1
theorem tStep_b {P : Nat → Bool} {n i : Nat} (p : P i = false) : tStep P n i = i + 1 := if_neg fun q => by rw [p] at q; exact absurd q.2 (by decide)
theorem tOff_e {P : Nat → Bool} {n m f i c : Nat} (h : ¬ (i < n ∧ c < m)) : tOff P n m f i c = (i, c) := by
  cases f with
  | zero => rfl
  | succ f => simp only [tOff, if_neg h]
theorem tOff_s {P : Nat → Bool} {n m f i c : Nat} (h : i < n) (k : c < m) : tOff P n m (f + 1) i c = tOff P n m f (tStep P n i) (c + 1) := by simp [tOff, h, k]
theorem tE_0 (P : Nat → Bool) (n : Nat) : ∀ j, tE P n 0 j = 0
  | 0 => rfl
  | j + 1 => by simp [tE, tE_0 P n j]
theorem tCp_pos (P : Nat → Bool) {n : Nat} (hn : n ≤ 4) (h1 : 1 ≤ n) : 1 ≤ tCp P n 4 0 n := by
  rcases Nat.eq_zero_or_pos (tCp P n 4 0 n) with q | q
  · have r := (tMain P (m := 0) hn).1 (by omega)
    rw [tE_0] at r
    omega
  · exact q
theorem tStep_gt (P : Nat → Bool) (n i : Nat) : i < tStep P n i := by
  unfold tStep
  split <;> omega
theorem tE_mono (P : Nat → Bool) (n m j : Nat) : tE P n m j ≤ tE P n m (j + 1) := by
  simp only [tE]
  split
  · exact Nat.le_of_lt (tStep_gt _ _ _)
  · exact Nat.le_refl _
theorem tE_pos (P : Nat → Bool) {n m : Nat} (h1 : 1 ≤ n) (h2 : 1 ≤ m) : 1 ≤ tE P n m 4 := by
  have a : 1 ≤ tE P n m 1 := by
    have q : tE P n m 1 = if 0 + 1 ≤ m ∧ 0 < n then tStep P n 0 else 0 := rfl
    rw [q, if_pos ⟨by omega, by omega⟩]
    exact tStep_gt _ _ _
  exact Nat.le_trans a (Nat.le_trans (tE_mono P n m 1) (Nat.le_trans (tE_mono P n m 2) (tE_mono P n m 3)))
theorem tE_s {P : Nat → Bool} {n m j : Nat} (h : j + 1 ≤ m) (k : tE P n m j < n) : tE P n m (j + 1) = tStep P n (tE P n m j) := by
  have q : tE P n m (j + 1) = if j + 1 ≤ m ∧ tE P n m j < n then tStep P n (tE P n m j) else tE P n m j := rfl
  rw [q, if_pos ⟨h, k⟩]
theorem tE_n {P : Nat → Bool} {n m j : Nat} (h : ¬ (j + 1 ≤ m ∧ tE P n m j < n)) : tE P n m (j + 1) = tE P n m j := by
  have q : tE P n m (j + 1) = if j + 1 ≤ m ∧ tE P n m j < n then tStep P n (tE P n m j) else tE P n m j := rfl
  rw [q, if_neg h]
theorem tStep_le {P : Nat → Bool} {n i : Nat} (h : i < n) : tStep P n i ≤ n := by
  unfold tStep
  split
  · rename_i q; exact q.1
  · exact h
theorem tE_le (P : Nat → Bool) (n m : Nat) : ∀ j, tE P n m j ≤ n
  | 0 => Nat.zero_le _
  | j + 1 => by
    by_cases q : j + 1 ≤ m ∧ tE P n m j < n
    · rw [tE_s q.1 q.2]; exact tStep_le q.2
    · rw [tE_n q]; exact tE_le P n m j
theorem own_cf0 (n : Int32) : ((((n - n).toUInt32 >>> ((31 : Int32) &&& 31).toUInt32).toInt32).toInt8.toInt32) = 0 := by
  rw [Int32.sub_self]; decide
theorem own_cf1 {n zl : Int32} {N : Nat} (h : n.toInt = N) (hz : zl.toInt = ((2 * N : Nat) : Int)) (h1 : 1 ≤ N) (h4 : N ≤ 4) : ((((n - zl).toUInt32 >>> ((31 : Int32) &&& 31).toUInt32).toInt32).toInt8.toInt32) = 1 := by
  rcases (by omega : N = 1 ∨ N = 2 ∨ N = 3 ∨ N = 4) with rfl | rfl | rfl | rfl
  · obtain rfl : n = 1 := own_eq h rfl
    obtain rfl : zl = 2 := own_eq hz rfl
    decide
  · obtain rfl : n = 2 := own_eq h rfl
    obtain rfl : zl = 4 := own_eq hz rfl
    decide
  · obtain rfl : n = 3 := own_eq h rfl
    obtain rfl : zl = 6 := own_eq hz rfl
    decide
  · obtain rfl : n = 4 := own_eq h rfl
    obtain rfl : zl = 8 := own_eq hz rfl
    decide
theorem own_os6 {z0 z1 z2 z3 z4 z5 : Value} {s6 : Slot} {v : Int32} (h : One s6) : storeLocals #[.val z0, .val z1, .val z2, .val z3, .val z4, .val z5, s6] 6 (.int v) = some #[.val z0, .val z1, .val z2, .val z3, .val z4, .val z5, .val (.int v)] := by
  rcases h with rfl | ⟨w, rfl, hw⟩
  · rfl
  · cases w <;> first | rfl | (simp [Value.category] at hw)
theorem own_n5 (x : Int32) : ((x &&& 2147483647) % 5) = 0 ∨ ((x &&& 2147483647) % 5) = 1 ∨ ((x &&& 2147483647) % 5) = 2 ∨ ((x &&& 2147483647) % 5) = 3 ∨ ((x &&& 2147483647) % 5) = 4 := by
  have h1 := c_and x 2147483647 (by decide)
  have h2 := (c_irem (x &&& 2147483647) 5 5 rfl).1 h1.1
  have e : ∀ k : Int32, ((x &&& 2147483647) % 5) = k ↔ ((x &&& 2147483647) % 5).toInt = k.toInt := fun k => Int32.toInt_inj.symm
  simp only [e]
  have e0 : (0 : Int32).toInt = 0 := rfl
  have e1 : (1 : Int32).toInt = 1 := rfl
  have e2 : (2 : Int32).toInt = 2 := rfl
  have e3 : (3 : Int32).toInt = 3 := rfl
  have e4 : (4 : Int32).toInt = 4 := rfl
  omega
theorem own_mm (x : Int32) : ∃ M : Nat, (x &&& 2147483647).toInt = M := by
  have h1 := c_and x 2147483647 (by decide)
  exact ⟨(x &&& 2147483647).toInt.toNat, by omega⟩
theorem own_pfs {z b : Int32} {N E : Nat} (hz : z.toInt = N) (hb : b.toInt = E) (h : E ≤ N) : (¬ ((z ||| 0) ||| b) < 0) ∧ ¬ (z - 0) < b := by
  have h1 := c_or0 z 0 (by omega) (by decide)
  have h2 := c_or0 (z ||| 0) b (by omega) (by omega)
  have e : (0 : Int32).toInt = 0 := rfl
  rw [own_sub0, own_ltI, own_ltI]
  omega
theorem own_cpy {vs : List Value} {E : Nat} {x : Value} : (List.replicate E x).take 0 ++ ((vs.drop 0).take E ++ (List.replicate E x).drop (0 + E)) = vs.take E := by simp
/-- what the JDK's statics hold -/
def OwnW (Z : State) (h : Heap) (cz : Int32) (fm : Value) : Prop := Sta Z h "java/lang/String" "COMPACT_STRINGS" "Z" (.int cz) ∧ ¬ cz = 0 ∧ Sta Z h "jdk/internal/util/Preconditions" "SIOOBE_FORMATTER" "Ljava/util/function/BiFunction;" fm ∧ fm.isRef = true ∧ Sta Z h "java/lang/StringUTF16" "$assertionsDisabled" "Z" (.int 1) ∧ Sta Z h "java/lang/StringUTF16" "HI_BYTE_SHIFT" "I" (.int 0) ∧ Sta Z h "java/lang/StringUTF16" "LO_BYTE_SHIFT" "I" (.int 8)
theorem OwnW.ext {Z : State} {h h' : Heap} {cz : Int32} {fm : Value} (F : OwnW Z h cz fm) (E : Ext h h') : OwnW Z h' cz fm := ⟨F.1.ext E, F.2.1, F.2.2.1.ext E, F.2.2.2.1, F.2.2.2.2.1.ext E, F.2.2.2.2.2.1.ext E, F.2.2.2.2.2.2.ext E⟩
theorem OwnW.keep {Z : State} {h h' : Heap} {cz : Int32} {fm : Value} {d : Addr} {kd : ClassId} {ty : FieldType} {ws : List Value} (F : OwnW Z h cz fm) (K : Keep h h' [d]) (V : OwnA Z h d kd ty ws) : OwnW Z h' cz fm := by
  have q : ∀ x ∈ [d], ∃ c : Cell, h[x]? = some c ∧ c.vm.isStatics = false := fun x hx => by rw [List.mem_singleton.mp hx]; exact own_plainA V
  exact ⟨own_staK F.1 K q, F.2.1, own_staK F.2.2.1 K q, F.2.2.2.1, own_staK F.2.2.2.2.1 K q, own_staK F.2.2.2.2.2.1 K q, own_staK F.2.2.2.2.2.2 K q⟩
/-- r is the String of the signs us -/
def OwnStr (Z : State) (h : Heap) (r : Addr) (us : List Int32) : Prop := Exa Z h r "java/lang/String" ∧ ∃ (b : Addr) (kb : ClassId), Fld Z h r "java/lang/String" "value" "[B" (.ref b) ∧ ((Fld Z h r "java/lang/String" "coder" "B" (.int 0) ∧ OwnA Z h b kb .byte (bL us) ∧ ∀ u ∈ us, u.toInt ≤ 255) ∨ (Fld Z h r "java/lang/String" "coder" "B" (.int 1) ∧ OwnA Z h b kb .byte (bU us)))
theorem OwnStr.ext {Z : State} {h h' : Heap} {r : Addr} {us : List Int32} (F : OwnStr Z h r us) (E : Ext h h') : OwnStr Z h' r us := by
  obtain ⟨h1, b, kb, h2, h3⟩ := F
  refine ⟨h1.ext E, b, kb, h2.ext E, ?_⟩
  rcases h3 with ⟨q1, q2, q3⟩ | ⟨q1, q2⟩
  · exact Or.inl ⟨q1.ext E, q2.ext E, q3⟩
  · exact Or.inr ⟨q1.ext E, q2.ext E⟩
theorem OwnStr.lt {Z : State} {h : Heap} {r : Addr} {us : List Int32} (F : OwnStr Z h r us) : r < h.size := F.1.lt
def QU (P : Int32 → Prop) (h0 : Heap) (n0 : Nat) (v : Option Value) (h : Heap) (L : List Loc) : Prop := ∃ u, v = some (.int u) ∧ P u ∧ Fr n0 L ∧ h = h0
def QArr (Z : State) (ws : List Value) (h0 : Heap) (n0 : Nat) (v : Option Value) (h : Heap) (L : List Loc) : Prop := ∃ b kb, v = some (.ref b) ∧ Fr n0 L ∧ Keep h0 h [] ∧ h0.size ≤ b ∧ OwnA Z h b kb .byte ws
def QCmp (Z : State) (us : List Int32) (h0 : Heap) (n0 : Nat) (v : Option Value) (h : Heap) (L : List Loc) : Prop := ∃ b kb, v = some (.ref b) ∧ Fr n0 L ∧ Keep h0 h [] ∧ h0.size ≤ b ∧ ((OwnA Z h b kb .byte (bL us) ∧ ∀ u ∈ us, u.toInt ≤ 255) ∨ OwnA Z h b kb .byte (bU us))
def QC5 (Z : State) (d : Addr) (kd : ClassId) (us : List Int32) (E : Nat) (h0 : Heap) (n0 : Nat) (v : Option Value) (h : Heap) (L : List Loc) : Prop := ∃ (z : Int32) (j : Nat), v = some (.int z) ∧ Fr n0 L ∧ Keep h0 h [d] ∧ z.toInt = (j : Int) ∧ ∃ ws, OwnA Z h d kd .byte ws ∧ ((j = E ∧ ws = bL (us.take E) ∧ ∀ u ∈ us.take E, u.toInt ≤ 255) ∨ (j < E ∧ ∃ u, us[j]? = some u ∧ 255 < u.toInt))
def QPut (Z : State) (b : Addr) (kb : ClassId) (ws : List Value) (h0 : Heap) (n0 : Nat) (v : Option Value) (h : Heap) (L : List Loc) : Prop := v = none ∧ Fr n0 L ∧ Keep h0 h [b] ∧ OwnA Z h b kb .byte ws
def QStr (Z : State) (us : List Int32) (h0 : Heap) (n0 : Nat) (v : Option Value) (h : Heap) (L : List Loc) : Prop := ∃ r, v = some (.ref r) ∧ Fr n0 L ∧ Keep h0 h [] ∧ OwnStr Z h r us
def QIni (Z : State) (x : Addr) (us : List Int32) (h0 : Heap) (n0 : Nat) (v : Option Value) (h : Heap) (L : List Loc) : Prop := v = none ∧ Fr n0 L ∧ Keep h0 h [x] ∧ OwnStr Z h x us
theorem d31_0 : decode jdk_41_method_11_code 0 = .ok (.iload_n 0, 1) := by decide +kernel
theorem d31_1 : decode jdk_41_method_11_code 1 = .ok (.ifCond .lt 8, 3) := by decide +kernel
theorem d31_4 : decode jdk_41_method_11_code 4 = .ok (.iload_n 0, 1) := by decide +kernel
theorem d31_5 : decode jdk_41_method_11_code 5 = .ok (.iload_n 1, 1) := by decide +kernel
theorem d31_6 : decode jdk_41_method_11_code 6 = .ok (.if_icmp .lt 10, 3) := by decide +kernel
theorem d31_9 : decode jdk_41_method_11_code 9 = .ok (.aload_n 2, 1) := by decide +kernel
theorem d31_10 : decode jdk_41_method_11_code 10 = .ok (.iload_n 0, 1) := by decide +kernel
theorem d31_11 : decode jdk_41_method_11_code 11 = .ok (.iload_n 1, 1) := by decide +kernel
theorem d31_12 : decode jdk_41_method_11_code 12 = .ok (.invokestatic 95, 3) := by decide +kernel
theorem d31_15 : decode jdk_41_method_11_code 15 = .ok (.athrow, 1) := by decide +kernel
theorem d31_16 : decode jdk_41_method_11_code 16 = .ok (.iload_n 0, 1) := by decide +kernel
theorem d31_17 : decode jdk_41_method_11_code 17 = .ok (.ireturn, 1) := by decide +kernel
theorem pn_0 : plainName "jdk/internal/util/Preconditions" = true := by first | (simp [plainName, overriddenIn]; done) | decide +kernel
theorem ef_rmPCI (m : MethodId) (i : Int32) (z : Int32) (fm : Value) (rf : fm.isRef = true) : entryFrame m #[(.int i), (.int z), fm] 3 = mkF m 0 #[.val (.int i), .val (.int z), .val fm] [] := by rcases ref_cases rf with rfl | ⟨f, rfl⟩ <;> rfl
set_option maxRecDepth 65536 in
set_option maxHeartbeats 40000000 in
theorem rmPCI (l : Launch) (Z : State) (a0 : Array Value) (hw : ∀ d ∈ tables_1, d.before a0 Z = true) (ws : List Jvm.Cond) (i z : Int32) (fm : Value) (h0 : Heap) (n0 : Nat) (Z0 : n0 ≤ h0.size) (h1 : ¬ i < 0) (h2 : i < z) (rf : fm.isRef = true) :
    MetFree l (⟨"jdk/internal/util/Preconditions", "checkIndex", "(IILjava/util/function/BiFunction;)I"⟩ : MethodName) (head1 (Jvm.Cond.code (⟨"jdk/internal/util/Preconditions", "checkIndex", "(IILjava/util/function/BiFunction;)I"⟩ : MethodName) jdk_41_method_11_code (3 : Nat) (Option.some Jvm.ClassFile.FieldType.int) :: ws) ({ frames := 0, cells := 0, slots := 0, locals := 0 } : Room)) (fun aZ UZ => aZ = #[(.int i), (.int z), fm] ∧ Z.Warmed39 UZ.vm ∧ UZ.heap = h0) (fun _ _ _ _ _ => True) (fun _ UZ oZ VZ => ∃ vZ LZ, oZ = .returned vZ ∧ (QSame (some (.int i)) h0 n0) vZ VZ.heap LZ ∧ FrameEnd UZ oZ VZ LZ ({ frames := 0, cells := 0, slots := 0, locals := 0 } : Room).cells ({ frames := 0, cells := 0, slots := 0, locals := 0 } : Room).slots) := by
  refine MetFree.of_bodySF (plainFor_of_name pn_0) hisR ?_
  intro p e s m args below meth c s₁ Bd hml0 hP hK
  obtain ⟨rfl, hZ, hh⟩ := hP
  have hx := Bd.exec
  have hby := Bd.bytes
  have hml : c.maxLocals = 3 := hml0
  have hown : s.vm.findClass "jdk/internal/util/Preconditions" = some m.cls := findClass_of_methodNamed Bd.named
  have hnm := (name_of_methodNamed Bd.named Bd.method).1
  have X0 : Stand p l e ({ frames := 0, cells := 0, slots := 0, locals := 0 } : Room) s m #[(.int i), (.int z), fm] below meth c s₁ [] 0 0 := Stand.of_body Bd
  have e0 : s₁.heap = h0 := by rw [← hh, Bd.state]; rfl
  have N0 := Fr.nil n0
  show OwnG p e below (OwnE s (QSame (some (.int i)) h0 n0) ({ frames := 0, cells := 0, slots := 0, locals := 0 } : Room).cells ({ frames := 0, cells := 0, slots := 0, locals := 0 } : Room).slots) _
  refine own_by (S' := s₁.setTop (mkF m 0 #[.val (.int i), .val (.int z), .val fm] [])) (fun tZ kZ => castTop (ef_rmPCI m i z fm rf) kZ) ?_
  refine own_by (S' := s₁.setTop (mkF m 1 #[.val (.int i), .val (.int z), .val fm] [(.int i)])) (fun tZ kZ => XS.iloadN X0.here hx rfl (hb hby d31_0) rfl kZ) ?_
  refine own_by (S' := s₁.setTop (mkF m 4 #[.val (.int i), .val (.int z), .val fm] [])) (fun tZ kZ => XS.ifNo X0.here hx rfl (hb hby d31_1) rfl ((if0 _ _).trans (flt h1).1) kZ) ?_
  refine own_by (S' := s₁.setTop (mkF m 5 #[.val (.int i), .val (.int z), .val fm] [(.int i)])) (fun tZ kZ => XS.iloadN X0.here hx rfl (hb hby d31_4) rfl kZ) ?_
  refine own_by (S' := s₁.setTop (mkF m 6 #[.val (.int i), .val (.int z), .val fm] [(.int z), (.int i)])) (fun tZ kZ => XS.iloadN X0.here hx rfl (hb hby d31_5) rfl kZ) ?_
  refine own_by (S' := s₁.setTop (mkF m 16 #[.val (.int i), .val (.int z), .val fm] [])) (fun tZ kZ => XS.icmpYes X0.here hx rfl (pc0 := 6) (pc' := 16) rfl (hb hby d31_6) rfl (tlt h2).1 (by decide) (by decide) kZ) ?_
  refine own_by (S' := s₁.setTop (mkF m 17 #[.val (.int i), .val (.int z), .val fm] [(.int i)])) (fun tZ kZ => XS.iloadN X0.here hx rfl (hb hby d31_16) rfl kZ) ?_
  exact own_retI X0 hx (t := .int) Bd.returns (by simp) rfl (hb hby d31_17) Bd.notSynchronized (by decide) (by decide) ⟨rfl, N0, e0⟩
theorem d30_0 : decode jdk_42_method_155_code 0 = .ok (.iload_n 0, 1) := by decide +kernel
theorem d30_1 : decode jdk_42_method_155_code 1 = .ok (.iload_n 1, 1) := by decide +kernel
theorem d30_2 : decode jdk_42_method_155_code 2 = .ok (.getstatic 1053, 3) := by decide +kernel
theorem d30_5 : decode jdk_42_method_155_code 5 = .ok (.invokestatic 1059, 3) := by decide +kernel
theorem d30_8 : decode jdk_42_method_155_code 8 = .ok (.pop, 1) := by decide +kernel
theorem d30_9 : decode jdk_42_method_155_code 9 = .ok (.return_, 1) := by decide +kernel
theorem pn_1 : plainName "java/lang/String" = true := by first | (simp [plainName, overriddenIn]; done) | decide +kernel
theorem ef_rmCI (m : MethodId) (i : Int32) (z : Int32) : entryFrame m #[(.int i), (.int z)] 2 = mkF m 0 #[.val (.int i), .val (.int z)] [] := by first | (simp [entryFrame, mkF, argsToLocals, Value.category, maxLocals]; done) | rfl
set_option maxRecDepth 65536 in
set_option maxHeartbeats 40000000 in
theorem rmCI (l : Launch) (Z : State) (a0 : Array Value) (hw : ∀ d ∈ tables_1, d.before a0 Z = true) (ws : List Jvm.Cond) (i z : Int32) (fm : Value) (h0 : Heap) (n0 : Nat) (Z0 : n0 ≤ h0.size) (h1 : ¬ i < 0) (h2 : i < z) (Sf : Sta Z h0 "jdk/internal/util/Preconditions" "SIOOBE_FORMATTER" "Ljava/util/function/BiFunction;" fm) (rf : fm.isRef = true) :
    MetFree l (⟨"java/lang/String", "checkIndex", "(II)V"⟩ : MethodName) (head1 (Jvm.Cond.code (⟨"java/lang/String", "checkIndex", "(II)V"⟩ : MethodName) jdk_42_method_155_code (2 : Nat) (Option.none : Option Jvm.ClassFile.FieldType) :: ws) ({ frames := 1, cells := 0, slots := 0, locals := 14 } : Room)) (fun aZ UZ => aZ = #[(.int i), (.int z)] ∧ Z.Warmed39 UZ.vm ∧ UZ.heap = h0) (fun _ _ _ _ _ => True) (fun _ UZ oZ VZ => ∃ vZ LZ, oZ = .returned vZ ∧ (QSame none h0 n0) vZ VZ.heap LZ ∧ FrameEnd UZ oZ VZ LZ ({ frames := 1, cells := 0, slots := 0, locals := 14 } : Room).cells ({ frames := 1, cells := 0, slots := 0, locals := 14 } : Room).slots) := by
  refine MetFree.of_bodySF (plainFor_of_name pn_1) hisR ?_
  intro p e s m args below meth c s₁ Bd hml0 hP hK
  obtain ⟨rfl, hZ, hh⟩ := hP
  have hx := Bd.exec
  have hby := Bd.bytes
  have hml : c.maxLocals = 2 := hml0
  have hown : s.vm.findClass "java/lang/String" = some m.cls := findClass_of_methodNamed Bd.named
  have hnm := (name_of_methodNamed Bd.named Bd.method).1
  have X0 : Stand p l e ({ frames := 1, cells := 0, slots := 0, locals := 14 } : Room) s m #[(.int i), (.int z)] below meth c s₁ [] 0 0 := Stand.of_body Bd
  have e0 : s₁.heap = h0 := by rw [← hh, Bd.state]; rfl
  have N0 := Fr.nil n0
  show OwnG p e below (OwnE s (QSame none h0 n0) ({ frames := 1, cells := 0, slots := 0, locals := 14 } : Room).cells ({ frames := 1, cells := 0, slots := 0, locals := 14 } : Room).slots) _
  refine own_by (S' := s₁.setTop (mkF m 0 #[.val (.int i), .val (.int z)] [])) (fun tZ kZ => castTop (ef_rmCI m i z) kZ) ?_
  refine own_by (S' := s₁.setTop (mkF m 1 #[.val (.int i), .val (.int z)] [(.int i)])) (fun tZ kZ => XS.iloadN X0.here hx rfl (hb hby d30_0) rfl kZ) ?_
  refine own_by (S' := s₁.setTop (mkF m 2 #[.val (.int i), .val (.int z)] [(.int z), (.int i)])) (fun tZ kZ => XS.iloadN X0.here hx rfl (hb hby d30_1) rfl kZ) ?_
  obtain ⟨T1, X1, e1, st1⟩ := getS2 X0 hx hZ hown (host := "") (Or.inl (hw_ hw 131 rfl)) Via.refl e0 Sf (g := (mkF m 2 #[.val (.int i), .val (.int z)] [(.int z), (.int i)])) rfl (hb hby d30_2)
  refine own_by (S' := T1.setTop (mkF m 5 #[.val (.int i), .val (.int z)] [fm, (.int z), (.int i)])) st1 ?_
  obtain ⟨_, _, ⟨T2, L2, k2, n2⟩, -, X2, ⟨Lc2, hQ2, l2, y2, z2⟩, st2⟩ := Jvm.LawKit.callS X1 hx (y := (⟨"jdk/internal/util/Preconditions", "checkIndex", "(IILjava/util/function/BiFunction;)I"⟩ : MethodName)) hown (mvT hZ (hw_ hw 132 rfl)) (mvT hZ (hw_ hw 133 rfl)) (mvT hZ (hw_ hw 60 rfl)) (mvT hZ (hw_ hw 134 rfl)) (by decide) (backOf (W := 0) (rmPCI l Z a0 hw [] i z fm h0 n0 Z0 h1 h2 rf) hZ (hw_ hw 134 rfl) (hw_ hw 60 rfl) (by decide) (by decide)) (g := (mkF m 5 #[.val (.int i), .val (.int z)] [fm, (.int z), (.int i)])) rfl (by rw [hml]; rfl) (argsL := [(.int i), (.int z), fm]) (rest := []) (lenOf pd_0 rfl) rfl (by show 2 * 0 + _ ≤ _; exact Nat.le_of_eq rfl) (hb hby d30_5) (fun _ _ => ⟨rfl, e1, (by decide : 0 + 0 ≤ _), (by decide : 0 + 0 ≤ _)⟩)
  dsimp only [Pt.U, Pt.locs, Pt.cells, Pt.slots] at X2 l2 y2 z2 st2 hQ2
  subst l2 y2 z2
  obtain ⟨rfl, N2q, heq2⟩ := hQ2
  have N2 := Fr.app N0 N2q
  refine own_by (S' := T2.setTop (mkF m 8 #[.val (.int i), .val (.int z)] [(.int i)])) (fun tZ kZ => st2 _ kZ) ?_
  refine own_by (S' := T2.setTop (mkF m 9 #[.val (.int i), .val (.int z)] [])) (fun tZ kZ => XS.pop X2.here hx rfl (hb hby d30_8) rfl rfl kZ) ?_
  exact own_ret0 X2 hx Bd.returns (hb hby d30_9) Bd.notSynchronized (by decide) (by decide) ⟨rfl, N2, heq2⟩
theorem d11_0 : decode jdk_41_method_12_code 0 = .ok (.iload_n 0, 1) := by decide +kernel
theorem d11_1 : decode jdk_41_method_12_code 1 = .ok (.ifCond .lt 13, 3) := by decide +kernel
theorem d11_4 : decode jdk_41_method_12_code 4 = .ok (.iload_n 0, 1) := by decide +kernel
theorem d11_5 : decode jdk_41_method_12_code 5 = .ok (.iload_n 1, 1) := by decide +kernel
theorem d11_6 : decode jdk_41_method_12_code 6 = .ok (.if_icmp .gt 8, 3) := by decide +kernel
theorem d11_9 : decode jdk_41_method_12_code 9 = .ok (.iload_n 1, 1) := by decide +kernel
theorem d11_10 : decode jdk_41_method_12_code 10 = .ok (.iload_n 2, 1) := by decide +kernel
theorem d11_11 : decode jdk_41_method_12_code 11 = .ok (.if_icmp .le 11, 3) := by decide +kernel
theorem d11_14 : decode jdk_41_method_12_code 14 = .ok (.aload_n 3, 1) := by decide +kernel
theorem d11_15 : decode jdk_41_method_12_code 15 = .ok (.iload_n 0, 1) := by decide +kernel
theorem d11_16 : decode jdk_41_method_12_code 16 = .ok (.iload_n 1, 1) := by decide +kernel
theorem d11_17 : decode jdk_41_method_12_code 17 = .ok (.iload_n 2, 1) := by decide +kernel
theorem d11_18 : decode jdk_41_method_12_code 18 = .ok (.invokestatic 99, 3) := by decide +kernel
theorem d11_21 : decode jdk_41_method_12_code 21 = .ok (.athrow, 1) := by decide +kernel
theorem d11_22 : decode jdk_41_method_12_code 22 = .ok (.iload_n 0, 1) := by decide +kernel
theorem d11_23 : decode jdk_41_method_12_code 23 = .ok (.ireturn, 1) := by decide +kernel
theorem ef_rmPFT (m : MethodId) (a : Int32) (b : Int32) (z : Int32) (fm : Value) (rf : fm.isRef = true) : entryFrame m #[(.int a), (.int b), (.int z), fm] 4 = mkF m 0 #[.val (.int a), .val (.int b), .val (.int z), .val fm] [] := by rcases ref_cases rf with rfl | ⟨f, rfl⟩ <;> rfl
set_option maxRecDepth 65536 in
set_option maxHeartbeats 40000000 in
theorem rmPFT (l : Launch) (Z : State) (a0 : Array Value) (hw : ∀ d ∈ tables_1, d.before a0 Z = true) (ws : List Jvm.Cond) (a b z : Int32) (fm : Value) (h0 : Heap) (n0 : Nat) (Z0 : n0 ≤ h0.size) (h1 : ¬ a < 0) (h2 : ¬ b < a) (h3 : ¬ z < b) (rf : fm.isRef = true) :
    MetFree l (⟨"jdk/internal/util/Preconditions", "checkFromToIndex", "(IIILjava/util/function/BiFunction;)I"⟩ : MethodName) (head1 (Jvm.Cond.code (⟨"jdk/internal/util/Preconditions", "checkFromToIndex", "(IIILjava/util/function/BiFunction;)I"⟩ : MethodName) jdk_41_method_12_code (4 : Nat) (Option.some Jvm.ClassFile.FieldType.int) :: ws) ({ frames := 0, cells := 0, slots := 0, locals := 0 } : Room)) (fun aZ UZ => aZ = #[(.int a), (.int b), (.int z), fm] ∧ Z.Warmed39 UZ.vm ∧ UZ.heap = h0) (fun _ _ _ _ _ => True) (fun _ UZ oZ VZ => ∃ vZ LZ, oZ = .returned vZ ∧ (QSame (some (.int a)) h0 n0) vZ VZ.heap LZ ∧ FrameEnd UZ oZ VZ LZ ({ frames := 0, cells := 0, slots := 0, locals := 0 } : Room).cells ({ frames := 0, cells := 0, slots := 0, locals := 0 } : Room).slots) := by
  refine MetFree.of_bodySF (plainFor_of_name pn_0) hisR ?_
  intro p e s m args below meth c s₁ Bd hml0 hP hK
  obtain ⟨rfl, hZ, hh⟩ := hP
  have hx := Bd.exec
  have hby := Bd.bytes
  have hml : c.maxLocals = 4 := hml0
  have hown : s.vm.findClass "jdk/internal/util/Preconditions" = some m.cls := findClass_of_methodNamed Bd.named
  have hnm := (name_of_methodNamed Bd.named Bd.method).1
  have X0 : Stand p l e ({ frames := 0, cells := 0, slots := 0, locals := 0 } : Room) s m #[(.int a), (.int b), (.int z), fm] below meth c s₁ [] 0 0 := Stand.of_body Bd
  have e0 : s₁.heap = h0 := by rw [← hh, Bd.state]; rfl
  have N0 := Fr.nil n0
  show OwnG p e below (OwnE s (QSame (some (.int a)) h0 n0) ({ frames := 0, cells := 0, slots := 0, locals := 0 } : Room).cells ({ frames := 0, cells := 0, slots := 0, locals := 0 } : Room).slots) _
  refine own_by (S' := s₁.setTop (mkF m 0 #[.val (.int a), .val (.int b), .val (.int z), .val fm] [])) (fun tZ kZ => castTop (ef_rmPFT m a b z fm rf) kZ) ?_
  refine own_by (S' := s₁.setTop (mkF m 1 #[.val (.int a), .val (.int b), .val (.int z), .val fm] [(.int a)])) (fun tZ kZ => XS.iloadN X0.here hx rfl (hb hby d11_0) rfl kZ) ?_
  refine own_by (S' := s₁.setTop (mkF m 4 #[.val (.int a), .val (.int b), .val (.int z), .val fm] [])) (fun tZ kZ => XS.ifNo X0.here hx rfl (hb hby d11_1) rfl ((if0 _ _).trans (flt h1).1) kZ) ?_
  refine own_by (S' := s₁.setTop (mkF m 5 #[.val (.int a), .val (.int b), .val (.int z), .val fm] [(.int a)])) (fun tZ kZ => XS.iloadN X0.here hx rfl (hb hby d11_4) rfl kZ) ?_
  refine own_by (S' := s₁.setTop (mkF m 6 #[.val (.int a), .val (.int b), .val (.int z), .val fm] [(.int b), (.int a)])) (fun tZ kZ => XS.iloadN X0.here hx rfl (hb hby d11_5) rfl kZ) ?_
  refine own_by (S' := s₁.setTop (mkF m 9 #[.val (.int a), .val (.int b), .val (.int z), .val fm] [])) (fun tZ kZ => XS.icmpNo X0.here hx rfl (hb hby d11_6) rfl (flt h2).2.2.1 kZ) ?_
  refine own_by (S' := s₁.setTop (mkF m 10 #[.val (.int a), .val (.int b), .val (.int z), .val fm] [(.int b)])) (fun tZ kZ => XS.iloadN X0.here hx rfl (hb hby d11_9) rfl kZ) ?_
  refine own_by (S' := s₁.setTop (mkF m 11 #[.val (.int a), .val (.int b), .val (.int z), .val fm] [(.int z), (.int b)])) (fun tZ kZ => XS.iloadN X0.here hx rfl (hb hby d11_10) rfl kZ) ?_
  refine own_by (S' := s₁.setTop (mkF m 22 #[.val (.int a), .val (.int b), .val (.int z), .val fm] [])) (fun tZ kZ => XS.icmpYes X0.here hx rfl (pc0 := 11) (pc' := 22) rfl (hb hby d11_11) rfl (flt h3).2.2.2 (by decide) (by decide) kZ) ?_
  refine own_by (S' := s₁.setTop (mkF m 23 #[.val (.int a), .val (.int b), .val (.int z), .val fm] [(.int a)])) (fun tZ kZ => XS.iloadN X0.here hx rfl (hb hby d11_22) rfl kZ) ?_
  exact own_retI X0 hx (t := .int) Bd.returns (by simp) rfl (hb hby d11_23) Bd.notSynchronized (by decide) (by decide) ⟨rfl, N0, e0⟩
theorem d10_0 : decode jdk_31_method_18_code 0 = .ok (.iload_n 0, 1) := by decide +kernel
theorem d10_1 : decode jdk_31_method_18_code 1 = .ok (.iload_n 1, 1) := by decide +kernel
theorem d10_2 : decode jdk_31_method_18_code 2 = .ok (.iload_n 2, 1) := by decide +kernel
theorem d10_3 : decode jdk_31_method_18_code 3 = .ok (.aconst_null, 1) := by decide +kernel
theorem d10_4 : decode jdk_31_method_18_code 4 = .ok (.invokestatic 111, 3) := by decide +kernel
theorem d10_7 : decode jdk_31_method_18_code 7 = .ok (.ireturn, 1) := by decide +kernel
theorem pn_2 : plainName "java/util/Objects" = true := by first | (simp [plainName, overriddenIn]; done) | decide +kernel
theorem ef_rmOFT (m : MethodId) (a : Int32) (b : Int32) (z : Int32) : entryFrame m #[(.int a), (.int b), (.int z)] 3 = mkF m 0 #[.val (.int a), .val (.int b), .val (.int z)] [] := by first | (simp [entryFrame, mkF, argsToLocals, Value.category, maxLocals]; done) | rfl
set_option maxRecDepth 65536 in
set_option maxHeartbeats 40000000 in
theorem rmOFT (l : Launch) (Z : State) (a0 : Array Value) (hw : ∀ d ∈ tables_1, d.before a0 Z = true) (ws : List Jvm.Cond) (a b z : Int32) (h0 : Heap) (n0 : Nat) (Z0 : n0 ≤ h0.size) (h1 : ¬ a < 0) (h2 : ¬ b < a) (h3 : ¬ z < b) :
    MetFree l (⟨"java/util/Objects", "checkFromToIndex", "(III)I"⟩ : MethodName) (head1 (Jvm.Cond.code (⟨"java/util/Objects", "checkFromToIndex", "(III)I"⟩ : MethodName) jdk_31_method_18_code (3 : Nat) (Option.some Jvm.ClassFile.FieldType.int) :: ws) ({ frames := 1, cells := 0, slots := 0, locals := 15 } : Room)) (fun aZ UZ => aZ = #[(.int a), (.int b), (.int z)] ∧ Z.Warmed39 UZ.vm ∧ UZ.heap = h0) (fun _ _ _ _ _ => True) (fun _ UZ oZ VZ => ∃ vZ LZ, oZ = .returned vZ ∧ (QSame (some (.int a)) h0 n0) vZ VZ.heap LZ ∧ FrameEnd UZ oZ VZ LZ ({ frames := 1, cells := 0, slots := 0, locals := 15 } : Room).cells ({ frames := 1, cells := 0, slots := 0, locals := 15 } : Room).slots) := by
  refine MetFree.of_bodySF (plainFor_of_name pn_2) hisR ?_
  intro p e s m args below meth c s₁ Bd hml0 hP hK
  obtain ⟨rfl, hZ, hh⟩ := hP
  have hx := Bd.exec
  have hby := Bd.bytes
  have hml : c.maxLocals = 3 := hml0
  have hown : s.vm.findClass "java/util/Objects" = some m.cls := findClass_of_methodNamed Bd.named
  have hnm := (name_of_methodNamed Bd.named Bd.method).1
  have X0 : Stand p l e ({ frames := 1, cells := 0, slots := 0, locals := 15 } : Room) s m #[(.int a), (.int b), (.int z)] below meth c s₁ [] 0 0 := Stand.of_body Bd
  have e0 : s₁.heap = h0 := by rw [← hh, Bd.state]; rfl
  have N0 := Fr.nil n0
  show OwnG p e below (OwnE s (QSame (some (.int a)) h0 n0) ({ frames := 1, cells := 0, slots := 0, locals := 15 } : Room).cells ({ frames := 1, cells := 0, slots := 0, locals := 15 } : Room).slots) _
  refine own_by (S' := s₁.setTop (mkF m 0 #[.val (.int a), .val (.int b), .val (.int z)] [])) (fun tZ kZ => castTop (ef_rmOFT m a b z) kZ) ?_
  refine own_by (S' := s₁.setTop (mkF m 1 #[.val (.int a), .val (.int b), .val (.int z)] [(.int a)])) (fun tZ kZ => XS.iloadN X0.here hx rfl (hb hby d10_0) rfl kZ) ?_
  refine own_by (S' := s₁.setTop (mkF m 2 #[.val (.int a), .val (.int b), .val (.int z)] [(.int b), (.int a)])) (fun tZ kZ => XS.iloadN X0.here hx rfl (hb hby d10_1) rfl kZ) ?_
  refine own_by (S' := s₁.setTop (mkF m 3 #[.val (.int a), .val (.int b), .val (.int z)] [(.int z), (.int b), (.int a)])) (fun tZ kZ => XS.iloadN X0.here hx rfl (hb hby d10_2) rfl kZ) ?_
  refine own_by (S' := s₁.setTop (mkF m 4 #[.val (.int a), .val (.int b), .val (.int z)] [.null, (.int z), (.int b), (.int a)])) (fun tZ kZ => XS.aconstNull X0.here hx rfl (hb hby d10_3) kZ) ?_
  obtain ⟨_, _, ⟨T1, L1, k1, n1⟩, -, X1, ⟨Lc1, hQ1, l1, y1, z1⟩, st1⟩ := Jvm.LawKit.callS X0 hx (y := (⟨"jdk/internal/util/Preconditions", "checkFromToIndex", "(IIILjava/util/function/BiFunction;)I"⟩ : MethodName)) hown (mvT hZ (hw_ hw 58 rfl)) (mvT hZ (hw_ hw 59 rfl)) (mvT hZ (hw_ hw 60 rfl)) (mvT hZ (hw_ hw 61 rfl)) (by decide) (backOf (W := 0) (rmPFT l Z a0 hw [] a b z .null h0 n0 Z0 h1 h2 h3 rfl) hZ (hw_ hw 61 rfl) (hw_ hw 60 rfl) (by decide) (by decide)) (g := (mkF m 4 #[.val (.int a), .val (.int b), .val (.int z)] [.null, (.int z), (.int b), (.int a)])) rfl (by rw [hml]; rfl) (argsL := [(.int a), (.int b), (.int z), .null]) (rest := []) (lenOf pd_1 rfl) rfl (by show 2 * 0 + _ ≤ _; exact Nat.le_of_eq rfl) (hb hby d10_4) (fun _ _ => ⟨rfl, e0, (by decide : 0 + 0 ≤ _), (by decide : 0 + 0 ≤ _)⟩)
  dsimp only [Pt.U, Pt.locs, Pt.cells, Pt.slots] at X1 l1 y1 z1 st1 hQ1
  subst l1 y1 z1
  obtain ⟨rfl, N1q, heq1⟩ := hQ1
  have N1 := Fr.app N0 N1q
  refine own_by (S' := T1.setTop (mkF m 7 #[.val (.int a), .val (.int b), .val (.int z)] [(.int a)])) (fun tZ kZ => st1 _ kZ) ?_
  exact own_retI X1 hx (t := .int) Bd.returns (by simp) rfl (hb hby d10_7) Bd.notSynchronized (by decide) (by decide) ⟨rfl, N1, heq1⟩
theorem d37_0 : decode jdk_42_method_158_code 0 = .ok (.iload_n 0, 1) := by decide +kernel
theorem d37_1 : decode jdk_42_method_158_code 1 = .ok (.iload_n 1, 1) := by decide +kernel
theorem d37_2 : decode jdk_42_method_158_code 2 = .ok (.iload_n 2, 1) := by decide +kernel
theorem d37_3 : decode jdk_42_method_158_code 3 = .ok (.getstatic 1053, 3) := by decide +kernel
theorem d37_6 : decode jdk_42_method_158_code 6 = .ok (.invokestatic 1062, 3) := by decide +kernel
theorem d37_9 : decode jdk_42_method_158_code 9 = .ok (.pop, 1) := by decide +kernel
theorem d37_10 : decode jdk_42_method_158_code 10 = .ok (.return_, 1) := by decide +kernel
theorem ef_rmCBE (m : MethodId) (a : Int32) (b : Int32) (z : Int32) : entryFrame m #[(.int a), (.int b), (.int z)] 3 = mkF m 0 #[.val (.int a), .val (.int b), .val (.int z)] [] := by first | (simp [entryFrame, mkF, argsToLocals, Value.category, maxLocals]; done) | rfl
set_option maxRecDepth 65536 in
set_option maxHeartbeats 40000000 in
theorem rmCBE (l : Launch) (Z : State) (a0 : Array Value) (hw : ∀ d ∈ tables_1, d.before a0 Z = true) (ws : List Jvm.Cond) (a b z : Int32) (cz : Int32) (fm : Value) (h0 : Heap) (n0 : Nat) (Z0 : n0 ≤ h0.size) (h1 : ¬ a < 0) (h2 : ¬ b < a) (h3 : ¬ z < b) (W : OwnW Z h0 cz fm) :
    MetFree l (⟨"java/lang/String", "checkBoundsBeginEnd", "(III)V"⟩ : MethodName) (head1 (Jvm.Cond.code (⟨"java/lang/String", "checkBoundsBeginEnd", "(III)V"⟩ : MethodName) jdk_42_method_158_code (3 : Nat) (Option.none : Option Jvm.ClassFile.FieldType) :: ws) ({ frames := 1, cells := 0, slots := 0, locals := 15 } : Room)) (fun aZ UZ => aZ = #[(.int a), (.int b), (.int z)] ∧ Z.Warmed39 UZ.vm ∧ UZ.heap = h0) (fun _ _ _ _ _ => True) (fun _ UZ oZ VZ => ∃ vZ LZ, oZ = .returned vZ ∧ (QSame none h0 n0) vZ VZ.heap LZ ∧ FrameEnd UZ oZ VZ LZ ({ frames := 1, cells := 0, slots := 0, locals := 15 } : Room).cells ({ frames := 1, cells := 0, slots := 0, locals := 15 } : Room).slots) := by
  refine MetFree.of_bodySF (plainFor_of_name pn_1) hisR ?_
  intro p e s m args below meth c s₁ Bd hml0 hP hK
  obtain ⟨rfl, hZ, hh⟩ := hP
  have hx := Bd.exec
  have hby := Bd.bytes
  have hml : c.maxLocals = 3 := hml0
  have hown : s.vm.findClass "java/lang/String" = some m.cls := findClass_of_methodNamed Bd.named
  have hnm := (name_of_methodNamed Bd.named Bd.method).1
  have X0 : Stand p l e ({ frames := 1, cells := 0, slots := 0, locals := 15 } : Room) s m #[(.int a), (.int b), (.int z)] below meth c s₁ [] 0 0 := Stand.of_body Bd
  have e0 : s₁.heap = h0 := by rw [← hh, Bd.state]; rfl
  have N0 := Fr.nil n0
  show OwnG p e below (OwnE s (QSame none h0 n0) ({ frames := 1, cells := 0, slots := 0, locals := 15 } : Room).cells ({ frames := 1, cells := 0, slots := 0, locals := 15 } : Room).slots) _
  refine own_by (S' := s₁.setTop (mkF m 0 #[.val (.int a), .val (.int b), .val (.int z)] [])) (fun tZ kZ => castTop (ef_rmCBE m a b z) kZ) ?_
  obtain ⟨Sc, hcz, Sf, rf, Sa, Shi, Slo⟩ := id W
  refine own_by (S' := s₁.setTop (mkF m 1 #[.val (.int a), .val (.int b), .val (.int z)] [(.int a)])) (fun tZ kZ => XS.iloadN X0.here hx rfl (hb hby d37_0) rfl kZ) ?_
  refine own_by (S' := s₁.setTop (mkF m 2 #[.val (.int a), .val (.int b), .val (.int z)] [(.int b), (.int a)])) (fun tZ kZ => XS.iloadN X0.here hx rfl (hb hby d37_1) rfl kZ) ?_
  refine own_by (S' := s₁.setTop (mkF m 3 #[.val (.int a), .val (.int b), .val (.int z)] [(.int z), (.int b), (.int a)])) (fun tZ kZ => XS.iloadN X0.here hx rfl (hb hby d37_2) rfl kZ) ?_
  obtain ⟨T1, X1, e1, st1⟩ := getS2 X0 hx hZ hown (host := "") (Or.inl (hw_ hw 131 rfl)) Via.refl e0 Sf (g := (mkF m 3 #[.val (.int a), .val (.int b), .val (.int z)] [(.int z), (.int b), (.int a)])) rfl (hb hby d37_3)
  refine own_by (S' := T1.setTop (mkF m 6 #[.val (.int a), .val (.int b), .val (.int z)] [fm, (.int z), (.int b), (.int a)])) st1 ?_
  obtain ⟨_, _, ⟨T2, L2, k2, n2⟩, -, X2, ⟨Lc2, hQ2, l2, y2, z2⟩, st2⟩ := Jvm.LawKit.callS X1 hx (y := (⟨"jdk/internal/util/Preconditions", "checkFromToIndex", "(IIILjava/util/function/BiFunction;)I"⟩ : MethodName)) hown (mvT hZ (hw_ hw 168 rfl)) (mvT hZ (hw_ hw 59 rfl)) (mvT hZ (hw_ hw 60 rfl)) (mvT hZ (hw_ hw 61 rfl)) (by decide) (backOf (W := 0) (rmPFT l Z a0 hw [] a b z fm h0 n0 Z0 h1 h2 h3 rf) hZ (hw_ hw 61 rfl) (hw_ hw 60 rfl) (by decide) (by decide)) (g := (mkF m 6 #[.val (.int a), .val (.int b), .val (.int z)] [fm, (.int z), (.int b), (.int a)])) rfl (by rw [hml]; rfl) (argsL := [(.int a), (.int b), (.int z), fm]) (rest := []) (lenOf pd_1 rfl) rfl (by show 2 * 0 + _ ≤ _; exact Nat.le_of_eq rfl) (hb hby d37_6) (fun _ _ => ⟨rfl, e1, (by decide : 0 + 0 ≤ _), (by decide : 0 + 0 ≤ _)⟩)
  dsimp only [Pt.U, Pt.locs, Pt.cells, Pt.slots] at X2 l2 y2 z2 st2 hQ2
  subst l2 y2 z2
  obtain ⟨rfl, N2q, heq2⟩ := hQ2
  have N2 := Fr.app N0 N2q
  refine own_by (S' := T2.setTop (mkF m 9 #[.val (.int a), .val (.int b), .val (.int z)] [(.int a)])) (fun tZ kZ => st2 _ kZ) ?_
  refine own_by (S' := T2.setTop (mkF m 10 #[.val (.int a), .val (.int b), .val (.int z)] [])) (fun tZ kZ => XS.pop X2.here hx rfl (hb hby d37_9) rfl rfl kZ) ?_
  exact own_ret0 X2 hx Bd.returns (hb hby d37_10) Bd.notSynchronized (by decide) (by decide) ⟨rfl, N2, heq2⟩
theorem d44_0 : decode jdk_41_method_13_code 0 = .ok (.iload_n 2, 1) := by decide +kernel
theorem d44_1 : decode jdk_41_method_13_code 1 = .ok (.iload_n 0, 1) := by decide +kernel
theorem d44_2 : decode jdk_41_method_13_code 2 = .ok (.ior, 1) := by decide +kernel
theorem d44_3 : decode jdk_41_method_13_code 3 = .ok (.iload_n 1, 1) := by decide +kernel
theorem d44_4 : decode jdk_41_method_13_code 4 = .ok (.ior, 1) := by decide +kernel
theorem d44_5 : decode jdk_41_method_13_code 5 = .ok (.ifCond .lt 10, 3) := by decide +kernel
theorem d44_8 : decode jdk_41_method_13_code 8 = .ok (.iload_n 1, 1) := by decide +kernel
theorem d44_9 : decode jdk_41_method_13_code 9 = .ok (.iload_n 2, 1) := by decide +kernel
theorem d44_10 : decode jdk_41_method_13_code 10 = .ok (.iload_n 0, 1) := by decide +kernel
theorem d44_11 : decode jdk_41_method_13_code 11 = .ok (.isub, 1) := by decide +kernel
theorem d44_12 : decode jdk_41_method_13_code 12 = .ok (.if_icmp .le 11, 3) := by decide +kernel
theorem d44_15 : decode jdk_41_method_13_code 15 = .ok (.aload_n 3, 1) := by decide +kernel
theorem d44_16 : decode jdk_41_method_13_code 16 = .ok (.iload_n 0, 1) := by decide +kernel
theorem d44_17 : decode jdk_41_method_13_code 17 = .ok (.iload_n 1, 1) := by decide +kernel
theorem d44_18 : decode jdk_41_method_13_code 18 = .ok (.iload_n 2, 1) := by decide +kernel
theorem d44_19 : decode jdk_41_method_13_code 19 = .ok (.invokestatic 103, 3) := by decide +kernel
theorem d44_22 : decode jdk_41_method_13_code 22 = .ok (.athrow, 1) := by decide +kernel
theorem d44_23 : decode jdk_41_method_13_code 23 = .ok (.iload_n 0, 1) := by decide +kernel
theorem d44_24 : decode jdk_41_method_13_code 24 = .ok (.ireturn, 1) := by decide +kernel
theorem ef_rmPFS (m : MethodId) (a : Int32) (b : Int32) (z : Int32) (fm : Value) (rf : fm.isRef = true) : entryFrame m #[(.int a), (.int b), (.int z), fm] 4 = mkF m 0 #[.val (.int a), .val (.int b), .val (.int z), .val fm] [] := by rcases ref_cases rf with rfl | ⟨f, rfl⟩ <;> rfl
set_option maxRecDepth 65536 in
set_option maxHeartbeats 40000000 in
theorem rmPFS (l : Launch) (Z : State) (a0 : Array Value) (hw : ∀ d ∈ tables_1, d.before a0 Z = true) (ws : List Jvm.Cond) (a b z : Int32) (fm : Value) (h0 : Heap) (n0 : Nat) (Z0 : n0 ≤ h0.size) (h1 : ¬ ((z ||| a) ||| b) < 0) (h2 : ¬ (z - a) < b) (rf : fm.isRef = true) :
    MetFree l (⟨"jdk/internal/util/Preconditions", "checkFromIndexSize", "(IIILjava/util/function/BiFunction;)I"⟩ : MethodName) (head1 (Jvm.Cond.code (⟨"jdk/internal/util/Preconditions", "checkFromIndexSize", "(IIILjava/util/function/BiFunction;)I"⟩ : MethodName) jdk_41_method_13_code (4 : Nat) (Option.some Jvm.ClassFile.FieldType.int) :: ws) ({ frames := 0, cells := 0, slots := 0, locals := 0 } : Room)) (fun aZ UZ => aZ = #[(.int a), (.int b), (.int z), fm] ∧ Z.Warmed39 UZ.vm ∧ UZ.heap = h0) (fun _ _ _ _ _ => True) (fun _ UZ oZ VZ => ∃ vZ LZ, oZ = .returned vZ ∧ (QSame (some (.int a)) h0 n0) vZ VZ.heap LZ ∧ FrameEnd UZ oZ VZ LZ ({ frames := 0, cells := 0, slots := 0, locals := 0 } : Room).cells ({ frames := 0, cells := 0, slots := 0, locals := 0 } : Room).slots) := by
  refine MetFree.of_bodySF (plainFor_of_name pn_0) hisR ?_
  intro p e s m args below meth c s₁ Bd hml0 hP hK
  obtain ⟨rfl, hZ, hh⟩ := hP
  have hx := Bd.exec
  have hby := Bd.bytes
  have hml : c.maxLocals = 4 := hml0
  have hown : s.vm.findClass "jdk/internal/util/Preconditions" = some m.cls := findClass_of_methodNamed Bd.named
  have hnm := (name_of_methodNamed Bd.named Bd.method).1
  have X0 : Stand p l e ({ frames := 0, cells := 0, slots := 0, locals := 0 } : Room) s m #[(.int a), (.int b), (.int z), fm] below meth c s₁ [] 0 0 := Stand.of_body Bd
  have e0 : s₁.heap = h0 := by rw [← hh, Bd.state]; rfl
  have N0 := Fr.nil n0
  show OwnG p e below (OwnE s (QSame (some (.int a)) h0 n0) ({ frames := 0, cells := 0, slots := 0, locals := 0 } : Room).cells ({ frames := 0, cells := 0, slots := 0, locals := 0 } : Room).slots) _
  refine own_by (S' := s₁.setTop (mkF m 0 #[.val (.int a), .val (.int b), .val (.int z), .val fm] [])) (fun tZ kZ => castTop (ef_rmPFS m a b z fm rf) kZ) ?_
  refine own_by (S' := s₁.setTop (mkF m 1 #[.val (.int a), .val (.int b), .val (.int z), .val fm] [(.int z)])) (fun tZ kZ => XS.iloadN X0.here hx rfl (hb hby d44_0) rfl kZ) ?_
  refine own_by (S' := s₁.setTop (mkF m 2 #[.val (.int a), .val (.int b), .val (.int z), .val fm] [(.int a), (.int z)])) (fun tZ kZ => XS.iloadN X0.here hx rfl (hb hby d44_1) rfl kZ) ?_
  refine own_by (S' := s₁.setTop (mkF m 3 #[.val (.int a), .val (.int b), .val (.int z), .val fm] [(.int (z ||| a))])) (fun tZ kZ => XS.ior X0.here hx rfl (hb hby d44_2) rfl kZ) ?_
  refine own_by (S' := s₁.setTop (mkF m 4 #[.val (.int a), .val (.int b), .val (.int z), .val fm] [(.int b), (.int (z ||| a))])) (fun tZ kZ => XS.iloadN X0.here hx rfl (hb hby d44_3) rfl kZ) ?_
  refine own_by (S' := s₁.setTop (mkF m 5 #[.val (.int a), .val (.int b), .val (.int z), .val fm] [(.int ((z ||| a) ||| b))])) (fun tZ kZ => XS.ior X0.here hx rfl (hb hby d44_4) rfl kZ) ?_
  refine own_by (S' := s₁.setTop (mkF m 8 #[.val (.int a), .val (.int b), .val (.int z), .val fm] [])) (fun tZ kZ => XS.ifNo X0.here hx rfl (hb hby d44_5) rfl ((if0 _ _).trans (flt h1).1) kZ) ?_
  refine own_by (S' := s₁.setTop (mkF m 9 #[.val (.int a), .val (.int b), .val (.int z), .val fm] [(.int b)])) (fun tZ kZ => XS.iloadN X0.here hx rfl (hb hby d44_8) rfl kZ) ?_
  refine own_by (S' := s₁.setTop (mkF m 10 #[.val (.int a), .val (.int b), .val (.int z), .val fm] [(.int z), (.int b)])) (fun tZ kZ => XS.iloadN X0.here hx rfl (hb hby d44_9) rfl kZ) ?_
  refine own_by (S' := s₁.setTop (mkF m 11 #[.val (.int a), .val (.int b), .val (.int z), .val fm] [(.int a), (.int z), (.int b)])) (fun tZ kZ => XS.iloadN X0.here hx rfl (hb hby d44_10) rfl kZ) ?_
  refine own_by (S' := s₁.setTop (mkF m 12 #[.val (.int a), .val (.int b), .val (.int z), .val fm] [(.int (z - a)), (.int b)])) (fun tZ kZ => XS.isub X0.here hx rfl (hb hby d44_11) rfl kZ) ?_
  refine own_by (S' := s₁.setTop (mkF m 23 #[.val (.int a), .val (.int b), .val (.int z), .val fm] [])) (fun tZ kZ => XS.icmpYes X0.here hx rfl (pc0 := 12) (pc' := 23) rfl (hb hby d44_12) rfl (flt h2).2.2.2 (by decide) (by decide) kZ) ?_
  refine own_by (S' := s₁.setTop (mkF m 24 #[.val (.int a), .val (.int b), .val (.int z), .val fm] [(.int a)])) (fun tZ kZ => XS.iloadN X0.here hx rfl (hb hby d44_23) rfl kZ) ?_
  exact own_retI X0 hx (t := .int) Bd.returns (by simp) rfl (hb hby d44_24) Bd.notSynchronized (by decide) (by decide) ⟨rfl, N0, e0⟩
theorem d43_0 : decode jdk_42_method_157_code 0 = .ok (.iload_n 0, 1) := by decide +kernel
theorem d43_1 : decode jdk_42_method_157_code 1 = .ok (.iload_n 1, 1) := by decide +kernel
theorem d43_2 : decode jdk_42_method_157_code 2 = .ok (.iload_n 2, 1) := by decide +kernel
theorem d43_3 : decode jdk_42_method_157_code 3 = .ok (.getstatic 1053, 3) := by decide +kernel
theorem d43_6 : decode jdk_42_method_157_code 6 = .ok (.invokestatic 1065, 3) := by decide +kernel
theorem d43_9 : decode jdk_42_method_157_code 9 = .ok (.ireturn, 1) := by decide +kernel
theorem ef_rmCBO (m : MethodId) (a : Int32) (b : Int32) (z : Int32) : entryFrame m #[(.int a), (.int b), (.int z)] 3 = mkF m 0 #[.val (.int a), .val (.int b), .val (.int z)] [] := by first | (simp [entryFrame, mkF, argsToLocals, Value.category, maxLocals]; done) | rfl
set_option maxRecDepth 65536 in
set_option maxHeartbeats 40000000 in
theorem rmCBO (l : Launch) (Z : State) (a0 : Array Value) (hw : ∀ d ∈ tables_1, d.before a0 Z = true) (ws : List Jvm.Cond) (a b z : Int32) (cz : Int32) (fm : Value) (h0 : Heap) (n0 : Nat) (Z0 : n0 ≤ h0.size) (h1 : ¬ ((z ||| a) ||| b) < 0) (h2 : ¬ (z - a) < b) (W : OwnW Z h0 cz fm) :
    MetFree l (⟨"java/lang/String", "checkBoundsOffCount", "(III)I"⟩ : MethodName) (head1 (Jvm.Cond.code (⟨"java/lang/String", "checkBoundsOffCount", "(III)I"⟩ : MethodName) jdk_42_method_157_code (3 : Nat) (Option.some Jvm.ClassFile.FieldType.int) :: ws) ({ frames := 1, cells := 0, slots := 0, locals := 15 } : Room)) (fun aZ UZ => aZ = #[(.int a), (.int b), (.int z)] ∧ Z.Warmed39 UZ.vm ∧ UZ.heap = h0) (fun _ _ _ _ _ => True) (fun _ UZ oZ VZ => ∃ vZ LZ, oZ = .returned vZ ∧ (QSame (some (.int a)) h0 n0) vZ VZ.heap LZ ∧ FrameEnd UZ oZ VZ LZ ({ frames := 1, cells := 0, slots := 0, locals := 15 } : Room).cells ({ frames := 1, cells := 0, slots := 0, locals := 15 } : Room).slots) := by
  refine MetFree.of_bodySF (plainFor_of_name pn_1) hisR ?_
  intro p e s m args below meth c s₁ Bd hml0 hP hK
  obtain ⟨rfl, hZ, hh⟩ := hP
  have hx := Bd.exec
  have hby := Bd.bytes
  have hml : c.maxLocals = 3 := hml0
  have hown : s.vm.findClass "java/lang/String" = some m.cls := findClass_of_methodNamed Bd.named
  have hnm := (name_of_methodNamed Bd.named Bd.method).1
  have X0 : Stand p l e ({ frames := 1, cells := 0, slots := 0, locals := 15 } : Room) s m #[(.int a), (.int b), (.int z)] below meth c s₁ [] 0 0 := Stand.of_body Bd
  have e0 : s₁.heap = h0 := by rw [← hh, Bd.state]; rfl
  have N0 := Fr.nil n0
  show OwnG p e below (OwnE s (QSame (some (.int a)) h0 n0) ({ frames := 1, cells := 0, slots := 0, locals := 15 } : Room).cells ({ frames := 1, cells := 0, slots := 0, locals := 15 } : Room).slots) _
  refine own_by (S' := s₁.setTop (mkF m 0 #[.val (.int a), .val (.int b), .val (.int z)] [])) (fun tZ kZ => castTop (ef_rmCBO m a b z) kZ) ?_
  obtain ⟨Sc, hcz, Sf, rf, Sa, Shi, Slo⟩ := id W
  refine own_by (S' := s₁.setTop (mkF m 1 #[.val (.int a), .val (.int b), .val (.int z)] [(.int a)])) (fun tZ kZ => XS.iloadN X0.here hx rfl (hb hby d43_0) rfl kZ) ?_
  refine own_by (S' := s₁.setTop (mkF m 2 #[.val (.int a), .val (.int b), .val (.int z)] [(.int b), (.int a)])) (fun tZ kZ => XS.iloadN X0.here hx rfl (hb hby d43_1) rfl kZ) ?_
  refine own_by (S' := s₁.setTop (mkF m 3 #[.val (.int a), .val (.int b), .val (.int z)] [(.int z), (.int b), (.int a)])) (fun tZ kZ => XS.iloadN X0.here hx rfl (hb hby d43_2) rfl kZ) ?_
  obtain ⟨T1, X1, e1, st1⟩ := getS2 X0 hx hZ hown (host := "") (Or.inl (hw_ hw 131 rfl)) Via.refl e0 Sf (g := (mkF m 3 #[.val (.int a), .val (.int b), .val (.int z)] [(.int z), (.int b), (.int a)])) rfl (hb hby d43_3)
  refine own_by (S' := T1.setTop (mkF m 6 #[.val (.int a), .val (.int b), .val (.int z)] [fm, (.int z), (.int b), (.int a)])) st1 ?_
  obtain ⟨_, _, ⟨T2, L2, k2, n2⟩, -, X2, ⟨Lc2, hQ2, l2, y2, z2⟩, st2⟩ := Jvm.LawKit.callS X1 hx (y := (⟨"jdk/internal/util/Preconditions", "checkFromIndexSize", "(IIILjava/util/function/BiFunction;)I"⟩ : MethodName)) hown (mvT hZ (hw_ hw 199 rfl)) (mvT hZ (hw_ hw 200 rfl)) (mvT hZ (hw_ hw 60 rfl)) (mvT hZ (hw_ hw 201 rfl)) (by decide) (backOf (W := 0) (rmPFS l Z a0 hw [] a b z fm h0 n0 Z0 h1 h2 rf) hZ (hw_ hw 201 rfl) (hw_ hw 60 rfl) (by decide) (by decide)) (g := (mkF m 6 #[.val (.int a), .val (.int b), .val (.int z)] [fm, (.int z), (.int b), (.int a)])) rfl (by rw [hml]; rfl) (argsL := [(.int a), (.int b), (.int z), fm]) (rest := []) (lenOf pd_1 rfl) rfl (by show 2 * 0 + _ ≤ _; exact Nat.le_of_eq rfl) (hb hby d43_6) (fun _ _ => ⟨rfl, e1, (by decide : 0 + 0 ≤ _), (by decide : 0 + 0 ≤ _)⟩)
  dsimp only [Pt.U, Pt.locs, Pt.cells, Pt.slots] at X2 l2 y2 z2 st2 hQ2
  subst l2 y2 z2
  obtain ⟨rfl, N2q, heq2⟩ := hQ2
  have N2 := Fr.app N0 N2q
  refine own_by (S' := T2.setTop (mkF m 9 #[.val (.int a), .val (.int b), .val (.int z)] [(.int a)])) (fun tZ kZ => st2 _ kZ) ?_
  exact own_retI X2 hx (t := .int) Bd.returns (by simp) rfl (hb hby d43_9) Bd.notSynchronized (by decide) (by decide) ⟨rfl, N2, heq2⟩
theorem d8_0 : decode jdk_42_method_152_code 0 = .ok (.getstatic 38, 3) := by decide +kernel
theorem d8_3 : decode jdk_42_method_152_code 3 = .ok (.ifCond .eq 10, 3) := by decide +kernel
theorem d8_6 : decode jdk_42_method_152_code 6 = .ok (.aload_n 0, 1) := by decide +kernel
theorem d8_7 : decode jdk_42_method_152_code 7 = .ok (.getfield 15, 3) := by decide +kernel
theorem d8_10 : decode jdk_42_method_152_code 10 = .ok (.goto 4, 3) := by decide +kernel
theorem d8_13 : decode jdk_42_method_152_code 13 = .ok (.iconst 1, 1) := by decide +kernel
theorem d8_14 : decode jdk_42_method_152_code 14 = .ok (.ireturn, 1) := by decide +kernel
theorem ef_rmCo0 (m : MethodId) (a : Addr) : entryFrame m #[(.ref a)] 1 = mkF m 0 #[.val (.ref a)] [] := by first | (simp [entryFrame, mkF, argsToLocals, Value.category, maxLocals]; done) | rfl
set_option maxRecDepth 65536 in
set_option maxHeartbeats 40000000 in
theorem rmCo0 (l : Launch) (Z : State) (a0 : Array Value) (hw : ∀ d ∈ tables_1, d.before a0 Z = true) (ws : List Jvm.Cond) (a : Addr) (cz : Int32) (h0 : Heap) (n0 : Nat) (Z0 : n0 ≤ h0.size) (Cc : Fld Z h0 a "java/lang/String" "coder" "B" (.int 0)) (Sc : Sta Z h0 "java/lang/String" "COMPACT_STRINGS" "Z" (.int cz)) (hcz : ¬ cz = 0) :
    MetFree l (⟨"java/lang/String", "coder", "()B"⟩ : MethodName) (head1 (Jvm.Cond.code (⟨"java/lang/String", "coder", "()B"⟩ : MethodName) jdk_42_method_152_code (1 : Nat) (Option.some Jvm.ClassFile.FieldType.byte) :: ws) ({ frames := 0, cells := 0, slots := 0, locals := 0 } : Room)) (fun aZ UZ => aZ = #[(.ref a)] ∧ Z.Warmed39 UZ.vm ∧ UZ.heap = h0) (fun _ _ _ _ _ => True) (fun _ UZ oZ VZ => ∃ vZ LZ, oZ = .returned vZ ∧ (QSame (some (.int 0)) h0 n0) vZ VZ.heap LZ ∧ FrameEnd UZ oZ VZ LZ ({ frames := 0, cells := 0, slots := 0, locals := 0 } : Room).cells ({ frames := 0, cells := 0, slots := 0, locals := 0 } : Room).slots) := by
  refine MetFree.of_bodySF (plainFor_of_name pn_1) hisR ?_
  intro p e s m args below meth c s₁ Bd hml0 hP hK
  obtain ⟨rfl, hZ, hh⟩ := hP
  have hx := Bd.exec
  have hby := Bd.bytes
  have hml : c.maxLocals = 1 := hml0
  have hown : s.vm.findClass "java/lang/String" = some m.cls := findClass_of_methodNamed Bd.named
  have hnm := (name_of_methodNamed Bd.named Bd.method).1
  have X0 : Stand p l e ({ frames := 0, cells := 0, slots := 0, locals := 0 } : Room) s m #[(.ref a)] below meth c s₁ [] 0 0 := Stand.of_body Bd
  have e0 : s₁.heap = h0 := by rw [← hh, Bd.state]; rfl
  have N0 := Fr.nil n0
  show OwnG p e below (OwnE s (QSame (some (.int 0)) h0 n0) ({ frames := 0, cells := 0, slots := 0, locals := 0 } : Room).cells ({ frames := 0, cells := 0, slots := 0, locals := 0 } : Room).slots) _
  refine own_by (S' := s₁.setTop (mkF m 0 #[.val (.ref a)] [])) (fun tZ kZ => castTop (ef_rmCo0 m a) kZ) ?_
  obtain ⟨T1, X1, e1, st1⟩ := getS2 X0 hx hZ hown (host := "") (Or.inl (hw_ hw 47 rfl)) Via.refl e0 Sc (g := (mkF m 0 #[.val (.ref a)] [])) rfl (hb hby d8_0)
  refine own_by (S' := T1.setTop (mkF m 3 #[.val (.ref a)] [(.int cz)])) st1 ?_
  refine own_by (S' := T1.setTop (mkF m 6 #[.val (.ref a)] [])) (fun tZ kZ => XS.ifNo X1.here hx rfl (hb hby d8_3) rfl ((if0 _ _).trans (feq hcz).1) kZ) ?_
  refine own_by (S' := T1.setTop (mkF m 7 #[.val (.ref a)] [(.ref a)])) (fun tZ kZ => XS.aloadN X1.here hx rfl (hb hby d8_6) rfl rfl kZ) ?_
  obtain ⟨T2, X2, e2, st2⟩ := getF X1 hx hZ hown (host := "") (Or.inl (hw_ hw 32 rfl)) Via.refl e1 Cc (g := (mkF m 7 #[.val (.ref a)] [(.ref a)])) rfl rfl (hb hby d8_7)
  refine own_by (S' := T2.setTop (mkF m 10 #[.val (.ref a)] [(.int (0 : Int32))])) st2 ?_
  refine own_by (S' := T2.setTop (mkF m 14 #[.val (.ref a)] [(.int (0 : Int32))])) (fun tZ kZ => XS.goto X2.here hx rfl (pc0 := 10) (pc' := 14) rfl (hb hby d8_10) (by decide) (by decide) kZ) ?_
  exact own_retI X2 hx (t := .byte) Bd.returns (by simp) rfl (hb hby d8_14) Bd.notSynchronized (by decide) (by decide) ⟨rfl, N0, e2⟩
theorem d12_0 : decode jdk_42_method_154_code 0 = .ok (.getstatic 38, 3) := by decide +kernel
theorem d12_3 : decode jdk_42_method_154_code 3 = .ok (.ifCond .eq 14, 3) := by decide +kernel
theorem d12_6 : decode jdk_42_method_154_code 6 = .ok (.aload_n 0, 1) := by decide +kernel
theorem d12_7 : decode jdk_42_method_154_code 7 = .ok (.getfield 15, 3) := by decide +kernel
theorem d12_10 : decode jdk_42_method_154_code 10 = .ok (.ifCond .ne 7, 3) := by decide +kernel
theorem d12_13 : decode jdk_42_method_154_code 13 = .ok (.iconst 1, 1) := by decide +kernel
theorem d12_14 : decode jdk_42_method_154_code 14 = .ok (.goto 4, 3) := by decide +kernel
theorem d12_17 : decode jdk_42_method_154_code 17 = .ok (.iconst 0, 1) := by decide +kernel
theorem d12_18 : decode jdk_42_method_154_code 18 = .ok (.ireturn, 1) := by decide +kernel
theorem ef_rmIsL0 (m : MethodId) (a : Addr) : entryFrame m #[(.ref a)] 1 = mkF m 0 #[.val (.ref a)] [] := by first | (simp [entryFrame, mkF, argsToLocals, Value.category, maxLocals]; done) | rfl
set_option maxRecDepth 65536 in
set_option maxHeartbeats 40000000 in
theorem rmIsL0 (l : Launch) (Z : State) (a0 : Array Value) (hw : ∀ d ∈ tables_1, d.before a0 Z = true) (ws : List Jvm.Cond) (a : Addr) (cz : Int32) (h0 : Heap) (n0 : Nat) (Z0 : n0 ≤ h0.size) (Cc : Fld Z h0 a "java/lang/String" "coder" "B" (.int 0)) (Sc : Sta Z h0 "java/lang/String" "COMPACT_STRINGS" "Z" (.int cz)) (hcz : ¬ cz = 0) :
    MetFree l (⟨"java/lang/String", "isLatin1", "()Z"⟩ : MethodName) (head1 (Jvm.Cond.code (⟨"java/lang/String", "isLatin1", "()Z"⟩ : MethodName) jdk_42_method_154_code (1 : Nat) (Option.some Jvm.ClassFile.FieldType.boolean) :: ws) ({ frames := 0, cells := 0, slots := 0, locals := 0 } : Room)) (fun aZ UZ => aZ = #[(.ref a)] ∧ Z.Warmed39 UZ.vm ∧ UZ.heap = h0) (fun _ _ _ _ _ => True) (fun _ UZ oZ VZ => ∃ vZ LZ, oZ = .returned vZ ∧ (QSame (some (.int 1)) h0 n0) vZ VZ.heap LZ ∧ FrameEnd UZ oZ VZ LZ ({ frames := 0, cells := 0, slots := 0, locals := 0 } : Room).cells ({ frames := 0, cells := 0, slots := 0, locals := 0 } : Room).slots) := by
  refine MetFree.of_bodySF (plainFor_of_name pn_1) hisR ?_
  intro p e s m args below meth c s₁ Bd hml0 hP hK
  obtain ⟨rfl, hZ, hh⟩ := hP
  have hx := Bd.exec
  have hby := Bd.bytes
  have hml : c.maxLocals = 1 := hml0
  have hown : s.vm.findClass "java/lang/String" = some m.cls := findClass_of_methodNamed Bd.named
  have hnm := (name_of_methodNamed Bd.named Bd.method).1
  have X0 : Stand p l e ({ frames := 0, cells := 0, slots := 0, locals := 0 } : Room) s m #[(.ref a)] below meth c s₁ [] 0 0 := Stand.of_body Bd
  have e0 : s₁.heap = h0 := by rw [← hh, Bd.state]; rfl
  have N0 := Fr.nil n0
  show OwnG p e below (OwnE s (QSame (some (.int 1)) h0 n0) ({ frames := 0, cells := 0, slots := 0, locals := 0 } : Room).cells ({ frames := 0, cells := 0, slots := 0, locals := 0 } : Room).slots) _
  refine own_by (S' := s₁.setTop (mkF m 0 #[.val (.ref a)] [])) (fun tZ kZ => castTop (ef_rmIsL0 m a) kZ) ?_
  obtain ⟨T1, X1, e1, st1⟩ := getS2 X0 hx hZ hown (host := "") (Or.inl (hw_ hw 47 rfl)) Via.refl e0 Sc (g := (mkF m 0 #[.val (.ref a)] [])) rfl (hb hby d12_0)
  refine own_by (S' := T1.setTop (mkF m 3 #[.val (.ref a)] [(.int cz)])) st1 ?_
  refine own_by (S' := T1.setTop (mkF m 6 #[.val (.ref a)] [])) (fun tZ kZ => XS.ifNo X1.here hx rfl (hb hby d12_3) rfl ((if0 _ _).trans (feq hcz).1) kZ) ?_
  refine own_by (S' := T1.setTop (mkF m 7 #[.val (.ref a)] [(.ref a)])) (fun tZ kZ => XS.aloadN X1.here hx rfl (hb hby d12_6) rfl rfl kZ) ?_
  obtain ⟨T2, X2, e2, st2⟩ := getF X1 hx hZ hown (host := "") (Or.inl (hw_ hw 32 rfl)) Via.refl e1 Cc (g := (mkF m 7 #[.val (.ref a)] [(.ref a)])) rfl rfl (hb hby d12_7)
  refine own_by (S' := T2.setTop (mkF m 10 #[.val (.ref a)] [(.int (0 : Int32))])) st2 ?_
  refine own_by (S' := T2.setTop (mkF m 13 #[.val (.ref a)] [])) (fun tZ kZ => XS.ifNo X2.here hx rfl (hb hby d12_10) rfl ((if0 _ _).trans (teq rfl).2) kZ) ?_
  refine own_by (S' := T2.setTop (mkF m 14 #[.val (.ref a)] [(.int (1 : Int32))])) (fun tZ kZ => XS.iconst X2.here hx rfl (hb hby d12_13) kZ) ?_
  refine own_by (S' := T2.setTop (mkF m 18 #[.val (.ref a)] [(.int (1 : Int32))])) (fun tZ kZ => XS.goto X2.here hx rfl (pc0 := 14) (pc' := 18) rfl (hb hby d12_14) (by decide) (by decide) kZ) ?_
  exact own_retI X2 hx (t := .boolean) Bd.returns (by simp) rfl (hb hby d12_18) Bd.notSynchronized (by decide) (by decide) ⟨rfl, N0, e2⟩
theorem ef_rmCo1 (m : MethodId) (a : Addr) : entryFrame m #[(.ref a)] 1 = mkF m 0 #[.val (.ref a)] [] := by first | (simp [entryFrame, mkF, argsToLocals, Value.category, maxLocals]; done) | rfl
set_option maxRecDepth 65536 in
set_option maxHeartbeats 40000000 in
theorem rmCo1 (l : Launch) (Z : State) (a0 : Array Value) (hw : ∀ d ∈ tables_1, d.before a0 Z = true) (ws : List Jvm.Cond) (a : Addr) (cz : Int32) (h0 : Heap) (n0 : Nat) (Z0 : n0 ≤ h0.size) (Cc : Fld Z h0 a "java/lang/String" "coder" "B" (.int 1)) (Sc : Sta Z h0 "java/lang/String" "COMPACT_STRINGS" "Z" (.int cz)) (hcz : ¬ cz = 0) :
    MetFree l (⟨"java/lang/String", "coder", "()B"⟩ : MethodName) (head1 (Jvm.Cond.code (⟨"java/lang/String", "coder", "()B"⟩ : MethodName) jdk_42_method_152_code (1 : Nat) (Option.some Jvm.ClassFile.FieldType.byte) :: ws) ({ frames := 0, cells := 0, slots := 0, locals := 0 } : Room)) (fun aZ UZ => aZ = #[(.ref a)] ∧ Z.Warmed39 UZ.vm ∧ UZ.heap = h0) (fun _ _ _ _ _ => True) (fun _ UZ oZ VZ => ∃ vZ LZ, oZ = .returned vZ ∧ (QSame (some (.int 1)) h0 n0) vZ VZ.heap LZ ∧ FrameEnd UZ oZ VZ LZ ({ frames := 0, cells := 0, slots := 0, locals := 0 } : Room).cells ({ frames := 0, cells := 0, slots := 0, locals := 0 } : Room).slots) := by
  refine MetFree.of_bodySF (plainFor_of_name pn_1) hisR ?_
  intro p e s m args below meth c s₁ Bd hml0 hP hK
  obtain ⟨rfl, hZ, hh⟩ := hP
  have hx := Bd.exec
  have hby := Bd.bytes
  have hml : c.maxLocals = 1 := hml0
  have hown : s.vm.findClass "java/lang/String" = some m.cls := findClass_of_methodNamed Bd.named
  have hnm := (name_of_methodNamed Bd.named Bd.method).1
  have X0 : Stand p l e ({ frames := 0, cells := 0, slots := 0, locals := 0 } : Room) s m #[(.ref a)] below meth c s₁ [] 0 0 := Stand.of_body Bd
  have e0 : s₁.heap = h0 := by rw [← hh, Bd.state]; rfl
  have N0 := Fr.nil n0
  show OwnG p e below (OwnE s (QSame (some (.int 1)) h0 n0) ({ frames := 0, cells := 0, slots := 0, locals := 0 } : Room).cells ({ frames := 0, cells := 0, slots := 0, locals := 0 } : Room).slots) _
  refine own_by (S' := s₁.setTop (mkF m 0 #[.val (.ref a)] [])) (fun tZ kZ => castTop (ef_rmCo1 m a) kZ) ?_
  obtain ⟨T1, X1, e1, st1⟩ := getS2 X0 hx hZ hown (host := "") (Or.inl (hw_ hw 47 rfl)) Via.refl e0 Sc (g := (mkF m 0 #[.val (.ref a)] [])) rfl (hb hby d8_0)
  refine own_by (S' := T1.setTop (mkF m 3 #[.val (.ref a)] [(.int cz)])) st1 ?_
  refine own_by (S' := T1.setTop (mkF m 6 #[.val (.ref a)] [])) (fun tZ kZ => XS.ifNo X1.here hx rfl (hb hby d8_3) rfl ((if0 _ _).trans (feq hcz).1) kZ) ?_
  refine own_by (S' := T1.setTop (mkF m 7 #[.val (.ref a)] [(.ref a)])) (fun tZ kZ => XS.aloadN X1.here hx rfl (hb hby d8_6) rfl rfl kZ) ?_
  obtain ⟨T2, X2, e2, st2⟩ := getF X1 hx hZ hown (host := "") (Or.inl (hw_ hw 32 rfl)) Via.refl e1 Cc (g := (mkF m 7 #[.val (.ref a)] [(.ref a)])) rfl rfl (hb hby d8_7)
  refine own_by (S' := T2.setTop (mkF m 10 #[.val (.ref a)] [(.int (1 : Int32))])) st2 ?_
  refine own_by (S' := T2.setTop (mkF m 14 #[.val (.ref a)] [(.int (1 : Int32))])) (fun tZ kZ => XS.goto X2.here hx rfl (pc0 := 10) (pc' := 14) rfl (hb hby d8_10) (by decide) (by decide) kZ) ?_
  exact own_retI X2 hx (t := .byte) Bd.returns (by simp) rfl (hb hby d8_14) Bd.notSynchronized (by decide) (by decide) ⟨rfl, N0, e2⟩
theorem ef_rmIsL1 (m : MethodId) (a : Addr) : entryFrame m #[(.ref a)] 1 = mkF m 0 #[.val (.ref a)] [] := by first | (simp [entryFrame, mkF, argsToLocals, Value.category, maxLocals]; done) | rfl
set_option maxRecDepth 65536 in
set_option maxHeartbeats 40000000 in
theorem rmIsL1 (l : Launch) (Z : State) (a0 : Array Value) (hw : ∀ d ∈ tables_1, d.before a0 Z = true) (ws : List Jvm.Cond) (a : Addr) (cz : Int32) (h0 : Heap) (n0 : Nat) (Z0 : n0 ≤ h0.size) (Cc : Fld Z h0 a "java/lang/String" "coder" "B" (.int 1)) (Sc : Sta Z h0 "java/lang/String" "COMPACT_STRINGS" "Z" (.int cz)) (hcz : ¬ cz = 0) :
    MetFree l (⟨"java/lang/String", "isLatin1", "()Z"⟩ : MethodName) (head1 (Jvm.Cond.code (⟨"java/lang/String", "isLatin1", "()Z"⟩ : MethodName) jdk_42_method_154_code (1 : Nat) (Option.some Jvm.ClassFile.FieldType.boolean) :: ws) ({ frames := 0, cells := 0, slots := 0, locals := 0 } : Room)) (fun aZ UZ => aZ = #[(.ref a)] ∧ Z.Warmed39 UZ.vm ∧ UZ.heap = h0) (fun _ _ _ _ _ => True) (fun _ UZ oZ VZ => ∃ vZ LZ, oZ = .returned vZ ∧ (QSame (some (.int 0)) h0 n0) vZ VZ.heap LZ ∧ FrameEnd UZ oZ VZ LZ ({ frames := 0, cells := 0, slots := 0, locals := 0 } : Room).cells ({ frames := 0, cells := 0, slots := 0, locals := 0 } : Room).slots) := by
  refine MetFree.of_bodySF (plainFor_of_name pn_1) hisR ?_
  intro p e s m args below meth c s₁ Bd hml0 hP hK
  obtain ⟨rfl, hZ, hh⟩ := hP
  have hx := Bd.exec
  have hby := Bd.bytes
  have hml : c.maxLocals = 1 := hml0
  have hown : s.vm.findClass "java/lang/String" = some m.cls := findClass_of_methodNamed Bd.named
  have hnm := (name_of_methodNamed Bd.named Bd.method).1
  have X0 : Stand p l e ({ frames := 0, cells := 0, slots := 0, locals := 0 } : Room) s m #[(.ref a)] below meth c s₁ [] 0 0 := Stand.of_body Bd
  have e0 : s₁.heap = h0 := by rw [← hh, Bd.state]; rfl
  have N0 := Fr.nil n0
  show OwnG p e below (OwnE s (QSame (some (.int 0)) h0 n0) ({ frames := 0, cells := 0, slots := 0, locals := 0 } : Room).cells ({ frames := 0, cells := 0, slots := 0, locals := 0 } : Room).slots) _
  refine own_by (S' := s₁.setTop (mkF m 0 #[.val (.ref a)] [])) (fun tZ kZ => castTop (ef_rmIsL1 m a) kZ) ?_
  obtain ⟨T1, X1, e1, st1⟩ := getS2 X0 hx hZ hown (host := "") (Or.inl (hw_ hw 47 rfl)) Via.refl e0 Sc (g := (mkF m 0 #[.val (.ref a)] [])) rfl (hb hby d12_0)
  refine own_by (S' := T1.setTop (mkF m 3 #[.val (.ref a)] [(.int cz)])) st1 ?_
  refine own_by (S' := T1.setTop (mkF m 6 #[.val (.ref a)] [])) (fun tZ kZ => XS.ifNo X1.here hx rfl (hb hby d12_3) rfl ((if0 _ _).trans (feq hcz).1) kZ) ?_
  refine own_by (S' := T1.setTop (mkF m 7 #[.val (.ref a)] [(.ref a)])) (fun tZ kZ => XS.aloadN X1.here hx rfl (hb hby d12_6) rfl rfl kZ) ?_
  obtain ⟨T2, X2, e2, st2⟩ := getF X1 hx hZ hown (host := "") (Or.inl (hw_ hw 32 rfl)) Via.refl e1 Cc (g := (mkF m 7 #[.val (.ref a)] [(.ref a)])) rfl rfl (hb hby d12_7)
  refine own_by (S' := T2.setTop (mkF m 10 #[.val (.ref a)] [(.int (1 : Int32))])) st2 ?_
  refine own_by (S' := T2.setTop (mkF m 17 #[.val (.ref a)] [])) (fun tZ kZ => XS.ifYes X2.here hx rfl (pc0 := 10) (pc' := 17) rfl (hb hby d12_10) rfl ((if0 _ _).trans (feq (by decide)).2) (by decide) (by decide) kZ) ?_
  refine own_by (S' := T2.setTop (mkF m 18 #[.val (.ref a)] [(.int (0 : Int32))])) (fun tZ kZ => XS.iconst X2.here hx rfl (hb hby d12_17) kZ) ?_
  exact own_retI X2 hx (t := .boolean) Bd.returns (by simp) rfl (hb hby d12_18) Bd.notSynchronized (by decide) (by decide) ⟨rfl, N0, e2⟩
theorem d7_0 : decode jdk_42_method_54_code 0 = .ok (.aload_n 0, 1) := by decide +kernel
theorem d7_1 : decode jdk_42_method_54_code 1 = .ok (.getfield 9, 3) := by decide +kernel
theorem d7_4 : decode jdk_42_method_54_code 4 = .ok (.arraylength, 1) := by decide +kernel
theorem d7_5 : decode jdk_42_method_54_code 5 = .ok (.aload_n 0, 1) := by decide +kernel
theorem d7_6 : decode jdk_42_method_54_code 6 = .ok (.invokevirtual 335, 3) := by decide +kernel
theorem d7_9 : decode jdk_42_method_54_code 9 = .ok (.ishr, 1) := by decide +kernel
theorem d7_10 : decode jdk_42_method_54_code 10 = .ok (.ireturn, 1) := by decide +kernel
theorem ef_rmLen (m : MethodId) (r : Addr) : entryFrame m #[(.ref r)] 1 = mkF m 0 #[.val (.ref r)] [] := by first | (simp [entryFrame, mkF, argsToLocals, Value.category, maxLocals]; done) | rfl
set_option maxRecDepth 65536 in
set_option maxHeartbeats 40000000 in
theorem rmLen (l : Launch) (Z : State) (a0 : Array Value) (hw : ∀ d ∈ tables_1, d.before a0 Z = true) (ws : List Jvm.Cond) (r : Addr) (us : List Int32) (z : Int32) (cz : Int32) (fm : Value) (h0 : Heap) (n0 : Nat) (Z0 : n0 ≤ h0.size) (hz : z.toInt = us.length) (S : OwnStr Z h0 r us) (hl : us.length ≤ 4) (W : OwnW Z h0 cz fm) :
    MetFree l (⟨"java/lang/String", "length", "()I"⟩ : MethodName) (head1 (Jvm.Cond.code (⟨"java/lang/String", "length", "()I"⟩ : MethodName) jdk_42_method_54_code (1 : Nat) (Option.some Jvm.ClassFile.FieldType.int) :: ws) ({ frames := 1, cells := 0, slots := 0, locals := 13 } : Room)) (fun aZ UZ => aZ = #[(.ref r)] ∧ Z.Warmed39 UZ.vm ∧ UZ.heap = h0) (fun _ _ _ _ _ => True) (fun _ UZ oZ VZ => ∃ vZ LZ, oZ = .returned vZ ∧ (QSame (some (.int z)) h0 n0) vZ VZ.heap LZ ∧ FrameEnd UZ oZ VZ LZ ({ frames := 1, cells := 0, slots := 0, locals := 13 } : Room).cells ({ frames := 1, cells := 0, slots := 0, locals := 13 } : Room).slots) := by
  refine MetFree.of_bodySF (plainFor_of_name pn_1) hisR ?_
  intro p e s m args below meth c s₁ Bd hml0 hP hK
  obtain ⟨rfl, hZ, hh⟩ := hP
  have hx := Bd.exec
  have hby := Bd.bytes
  have hml : c.maxLocals = 1 := hml0
  have hown : s.vm.findClass "java/lang/String" = some m.cls := findClass_of_methodNamed Bd.named
  have hnm := (name_of_methodNamed Bd.named Bd.method).1
  have X0 : Stand p l e ({ frames := 1, cells := 0, slots := 0, locals := 13 } : Room) s m #[(.ref r)] below meth c s₁ [] 0 0 := Stand.of_body Bd
  have e0 : s₁.heap = h0 := by rw [← hh, Bd.state]; rfl
  have N0 := Fr.nil n0
  show OwnG p e below (OwnE s (QSame (some (.int z)) h0 n0) ({ frames := 1, cells := 0, slots := 0, locals := 13 } : Room).cells ({ frames := 1, cells := 0, slots := 0, locals := 13 } : Room).slots) _
  refine own_by (S' := s₁.setTop (mkF m 0 #[.val (.ref r)] [])) (fun tZ kZ => castTop (ef_rmLen m r) kZ) ?_
  obtain ⟨Ex, bb, kb, Vv, hcs⟩ := id S
  obtain ⟨Sc, hcz, Sf, rf, Sa, Shi, Slo⟩ := id W
  rcases hcs with ⟨Cc, V_b, hal⟩ | ⟨Cc, V_b⟩
  · refine own_by (S' := s₁.setTop (mkF m 1 #[.val (.ref r)] [(.ref r)])) (fun tZ kZ => XS.aloadN X0.here hx rfl (hb hby d7_0) rfl rfl kZ) ?_
    obtain ⟨T1, X1, e1, st1⟩ := getF X0 hx hZ hown (host := "") (Or.inl (hw_ hw 31 rfl)) Via.refl e0 Vv (g := (mkF m 1 #[.val (.ref r)] [(.ref r)])) rfl rfl (hb hby d7_1)
    refine own_by (S' := T1.setTop (mkF m 4 #[.val (.ref r)] [(.ref bb)])) st1 ?_
    obtain ⟨cc2, Ar2, hc2, hl2⟩ := id V_b
    refine own_by (S' := T1.setTop (mkF m 5 #[.val (.ref r)] [(.int z)])) (fun tZ kZ => X1.arraylength hx (by rw [e1]; exact Ar2.1) (State.isArrayOf_alike hZ.alike Ar2.2.1) (g := (mkF m 4 #[.val (.ref r)] [(.ref bb)])) rfl rfl (hb hby d7_4) _ (by rw [len_of (OwnA.size (z := z) hl2 (by rw [bL_len, own_tnc hz])) (own_nneg hz)]; exact kZ)) ?_
    refine own_by (S' := T1.setTop (mkF m 6 #[.val (.ref r)] [(.ref r), (.int z)])) (fun tZ kZ => XS.aloadN X1.here hx rfl (hb hby d7_5) rfl rfl kZ) ?_
    obtain ⟨cq3, kq3, q3a, q3b, q3c⟩ := isOf hZ e1 Ex
    obtain ⟨_, _, ⟨T3, L3, k3, n3⟩, -, X3, ⟨Lc3, hQ3, l3, y3, z3⟩, st3⟩ := X1.virtualBack hx (y := (⟨"java/lang/String", "coder", "()B"⟩ : MethodName)) (z := (⟨"java/lang/String", "coder", "()B"⟩ : MethodName)) hown (mvT hZ (hw_ hw 42 rfl)) (mvT hZ (hw_ hw 43 rfl)) (notFace_of_selects (args := #[]) (mvT hZ (hw_ hw 45 rfl))) (mvT hZ (hw_ hw 45 rfl)) (mvT hZ (hw_ hw 44 rfl)) (by decide) (backOf (W := 1) (rmCo0 l Z a0 hw [] r cz h0 n0 Z0 Cc Sc hcz) hZ (hw_ hw 46 rfl) (hw_ hw 14 rfl) (by decide) (by decide)) q3a q3c (g := (mkF m 6 #[.val (.ref r)] [(.ref r), (.int z)])) rfl (by rw [hml]; rfl) (Steps.refl _) (argsL := []) (rest := [(.int z)]) (lenOf pd_2 rfl) rfl (by show 2 * 0 + _ ≤ _; exact Nat.le_of_eq rfl) (hb hby d7_6) (fun _ _ => ⟨rfl, e1, (by decide : 0 + 0 ≤ _), (by decide : 0 + 0 ≤ _)⟩)
    dsimp only [Pt.U, Pt.locs, Pt.cells, Pt.slots] at X3 l3 y3 z3 st3 hQ3
    subst l3 y3 z3
    obtain ⟨rfl, N3q, heq3⟩ := hQ3
    have N3 := Fr.app N0 N3q
    refine own_by (S' := T3.setTop (mkF m 9 #[.val (.ref r)] [(.int (0 : Int32)), (.int z)])) (fun tZ kZ => st3.trans kZ) ?_
    refine own_by (S' := T3.setTop (mkF m 10 #[.val (.ref r)] [(.int (z >>> ((0 : Int32) &&& 31)))])) (fun tZ kZ => XS.ishr X3.here hx rfl (hb hby d7_9) rfl kZ) ?_
    rw [own_shr0]
    exact own_retI X3 hx (t := .int) Bd.returns (by simp) rfl (hb hby d7_10) Bd.notSynchronized (by decide) (by decide) ⟨rfl, N3, heq3⟩
  · obtain ⟨zb, hzb⟩ := own_int (2 * us.length) (by omega)
    refine own_by (S' := s₁.setTop (mkF m 1 #[.val (.ref r)] [(.ref r)])) (fun tZ kZ => XS.aloadN X0.here hx rfl (hb hby d7_0) rfl rfl kZ) ?_
    obtain ⟨T4, X4, e4, st4⟩ := getF X0 hx hZ hown (host := "") (Or.inl (hw_ hw 31 rfl)) Via.refl e0 Vv (g := (mkF m 1 #[.val (.ref r)] [(.ref r)])) rfl rfl (hb hby d7_1)
    refine own_by (S' := T4.setTop (mkF m 4 #[.val (.ref r)] [(.ref bb)])) st4 ?_
    obtain ⟨cc5, Ar5, hc5, hl5⟩ := id V_b
    refine own_by (S' := T4.setTop (mkF m 5 #[.val (.ref r)] [(.int zb)])) (fun tZ kZ => X4.arraylength hx (by rw [e4]; exact Ar5.1) (State.isArrayOf_alike hZ.alike Ar5.2.1) (g := (mkF m 4 #[.val (.ref r)] [(.ref bb)])) rfl rfl (hb hby d7_4) _ (by rw [len_of (OwnA.size (z := zb) hl5 (by rw [bU_len, own_tnc hzb])) (own_nneg hzb)]; exact kZ)) ?_
    refine own_by (S' := T4.setTop (mkF m 6 #[.val (.ref r)] [(.ref r), (.int zb)])) (fun tZ kZ => XS.aloadN X4.here hx rfl (hb hby d7_5) rfl rfl kZ) ?_
    obtain ⟨cq6, kq6, q6a, q6b, q6c⟩ := isOf hZ e4 Ex
    obtain ⟨_, _, ⟨T6, L6, k6, n6⟩, -, X6, ⟨Lc6, hQ6, l6, y6, z6⟩, st6⟩ := X4.virtualBack hx (y := (⟨"java/lang/String", "coder", "()B"⟩ : MethodName)) (z := (⟨"java/lang/String", "coder", "()B"⟩ : MethodName)) hown (mvT hZ (hw_ hw 42 rfl)) (mvT hZ (hw_ hw 43 rfl)) (notFace_of_selects (args := #[]) (mvT hZ (hw_ hw 45 rfl))) (mvT hZ (hw_ hw 45 rfl)) (mvT hZ (hw_ hw 44 rfl)) (by decide) (backOf (W := 1) (rmCo1 l Z a0 hw [] r cz h0 n0 Z0 Cc Sc hcz) hZ (hw_ hw 46 rfl) (hw_ hw 14 rfl) (by decide) (by decide)) q6a q6c (g := (mkF m 6 #[.val (.ref r)] [(.ref r), (.int zb)])) rfl (by rw [hml]; rfl) (Steps.refl _) (argsL := []) (rest := [(.int zb)]) (lenOf pd_2 rfl) rfl (by show 2 * 0 + _ ≤ _; exact Nat.le_of_eq rfl) (hb hby d7_6) (fun _ _ => ⟨rfl, e4, (by decide : 0 + 0 ≤ _), (by decide : 0 + 0 ≤ _)⟩)
    dsimp only [Pt.U, Pt.locs, Pt.cells, Pt.slots] at X6 l6 y6 z6 st6 hQ6
    subst l6 y6 z6
    obtain ⟨rfl, N6q, heq6⟩ := hQ6
    have N6 := Fr.app N0 N6q
    refine own_by (S' := T6.setTop (mkF m 9 #[.val (.ref r)] [(.int (1 : Int32)), (.int zb)])) (fun tZ kZ => st6.trans kZ) ?_
    refine own_by (S' := T6.setTop (mkF m 10 #[.val (.ref r)] [(.int (zb >>> ((1 : Int32) &&& 31)))])) (fun tZ kZ => XS.ishr X6.here hx rfl (hb hby d7_9) rfl kZ) ?_
    rw [own_eq (own_shr1 hzb) hz]
    exact own_retI X6 hx (t := .int) Bd.returns (by simp) rfl (hb hby d7_10) Bd.notSynchronized (by decide) (by decide) ⟨rfl, N6, heq6⟩
theorem d29_0 : decode jdk_52_method_6_code 0 = .ok (.aload_n 0, 1) := by decide +kernel
theorem d29_1 : decode jdk_52_method_6_code 1 = .ok (.arraylength, 1) := by decide +kernel
theorem d29_2 : decode jdk_52_method_6_code 2 = .ok (.iconst 1, 1) := by decide +kernel
theorem d29_3 : decode jdk_52_method_6_code 3 = .ok (.ishr, 1) := by decide +kernel
theorem d29_4 : decode jdk_52_method_6_code 4 = .ok (.ireturn, 1) := by decide +kernel
theorem pn_3 : plainName "java/lang/StringUTF16" = true := by first | (simp [plainName, overriddenIn]; done) | decide +kernel
theorem ef_rmULen (m : MethodId) (b : Addr) : entryFrame m #[(.ref b)] 1 = mkF m 0 #[.val (.ref b)] [] := by first | (simp [entryFrame, mkF, argsToLocals, Value.category, maxLocals]; done) | rfl
set_option maxRecDepth 65536 in
set_option maxHeartbeats 40000000 in
theorem rmULen (l : Launch) (Z : State) (a0 : Array Value) (hw : ∀ d ∈ tables_1, d.before a0 Z = true) (ws : List Jvm.Cond) (b : Addr) (kb : ClassId) (us : List Int32) (z : Int32) (h0 : Heap) (n0 : Nat) (Z0 : n0 ≤ h0.size) (V_b : OwnA Z h0 b kb .byte (bU us)) (hl : us.length ≤ 4) (hz : z.toInt = us.length) :
    MetFree l (⟨"java/lang/StringUTF16", "length", "([B)I"⟩ : MethodName) (head1 (Jvm.Cond.code (⟨"java/lang/StringUTF16", "length", "([B)I"⟩ : MethodName) jdk_52_method_6_code (1 : Nat) (Option.some Jvm.ClassFile.FieldType.int) :: ws) ({ frames := 0, cells := 0, slots := 0, locals := 0 } : Room)) (fun aZ UZ => aZ = #[(.ref b)] ∧ Z.Warmed39 UZ.vm ∧ UZ.heap = h0) (fun _ _ _ _ _ => True) (fun _ UZ oZ VZ => ∃ vZ LZ, oZ = .returned vZ ∧ (QSame (some (.int z)) h0 n0) vZ VZ.heap LZ ∧ FrameEnd UZ oZ VZ LZ ({ frames := 0, cells := 0, slots := 0, locals := 0 } : Room).cells ({ frames := 0, cells := 0, slots := 0, locals := 0 } : Room).slots) := by
  refine MetFree.of_bodySF (plainFor_of_name pn_3) hisR ?_
  intro p e s m args below meth c s₁ Bd hml0 hP hK
  obtain ⟨rfl, hZ, hh⟩ := hP
  have hx := Bd.exec
  have hby := Bd.bytes
  have hml : c.maxLocals = 1 := hml0
  have hown : s.vm.findClass "java/lang/StringUTF16" = some m.cls := findClass_of_methodNamed Bd.named
  have hnm := (name_of_methodNamed Bd.named Bd.method).1
  have X0 : Stand p l e ({ frames := 0, cells := 0, slots := 0, locals := 0 } : Room) s m #[(.ref b)] below meth c s₁ [] 0 0 := Stand.of_body Bd
  have e0 : s₁.heap = h0 := by rw [← hh, Bd.state]; rfl
  have N0 := Fr.nil n0
  show OwnG p e below (OwnE s (QSame (some (.int z)) h0 n0) ({ frames := 0, cells := 0, slots := 0, locals := 0 } : Room).cells ({ frames := 0, cells := 0, slots := 0, locals := 0 } : Room).slots) _
  refine own_by (S' := s₁.setTop (mkF m 0 #[.val (.ref b)] [])) (fun tZ kZ => castTop (ef_rmULen m b) kZ) ?_
  obtain ⟨zb, hzb⟩ := own_int (2 * us.length) (by omega)
  refine own_by (S' := s₁.setTop (mkF m 1 #[.val (.ref b)] [(.ref b)])) (fun tZ kZ => XS.aloadN X0.here hx rfl (hb hby d29_0) rfl rfl kZ) ?_
  obtain ⟨cc1, Ar1, hc1, hl1⟩ := id V_b
  refine own_by (S' := s₁.setTop (mkF m 2 #[.val (.ref b)] [(.int zb)])) (fun tZ kZ => X0.arraylength hx (by rw [e0]; exact Ar1.1) (State.isArrayOf_alike hZ.alike Ar1.2.1) (g := (mkF m 1 #[.val (.ref b)] [(.ref b)])) rfl rfl (hb hby d29_1) _ (by rw [len_of (OwnA.size (z := zb) hl1 (by rw [bU_len, own_tnc hzb])) (own_nneg hzb)]; exact kZ)) ?_
  refine own_by (S' := s₁.setTop (mkF m 3 #[.val (.ref b)] [(.int (1 : Int32)), (.int zb)])) (fun tZ kZ => XS.iconst X0.here hx rfl (hb hby d29_2) kZ) ?_
  refine own_by (S' := s₁.setTop (mkF m 4 #[.val (.ref b)] [(.int (zb >>> ((1 : Int32) &&& 31)))])) (fun tZ kZ => XS.ishr X0.here hx rfl (hb hby d29_3) rfl kZ) ?_
  rw [own_eq (own_shr1 hzb) hz]
  exact own_retI X0 hx (t := .int) Bd.returns (by simp) rfl (hb hby d29_4) Bd.notSynchronized (by decide) (by decide) ⟨rfl, N0, e0⟩
theorem d19_0 : decode jdk_52_method_5_code 0 = .ok (.getstatic 44, 3) := by decide +kernel
theorem d19_3 : decode jdk_52_method_5_code 3 = .ok (.ifCond .ne 25, 3) := by decide +kernel
theorem d19_6 : decode jdk_52_method_5_code 6 = .ok (.iload_n 1, 1) := by decide +kernel
theorem d19_7 : decode jdk_52_method_5_code 7 = .ok (.ifCond .lt 11, 3) := by decide +kernel
theorem d19_10 : decode jdk_52_method_5_code 10 = .ok (.iload_n 1, 1) := by decide +kernel
theorem d19_11 : decode jdk_52_method_5_code 11 = .ok (.aload_n 0, 1) := by decide +kernel
theorem d19_12 : decode jdk_52_method_5_code 12 = .ok (.invokestatic 48, 3) := by decide +kernel
theorem d19_15 : decode jdk_52_method_5_code 15 = .ok (.if_icmp .lt 13, 3) := by decide +kernel
theorem d19_18 : decode jdk_52_method_5_code 18 = .ok (.new 52, 3) := by decide +kernel
theorem d19_21 : decode jdk_52_method_5_code 21 = .ok (.dup, 1) := by decide +kernel
theorem d19_22 : decode jdk_52_method_5_code 22 = .ok (.ldc 54, 2) := by decide +kernel
theorem d19_24 : decode jdk_52_method_5_code 24 = .ok (.invokespecial 56, 3) := by decide +kernel
theorem d19_27 : decode jdk_52_method_5_code 27 = .ok (.athrow, 1) := by decide +kernel
theorem d19_28 : decode jdk_52_method_5_code 28 = .ok (.iload_n 1, 1) := by decide +kernel
theorem d19_29 : decode jdk_52_method_5_code 29 = .ok (.iconst 1, 1) := by decide +kernel
theorem d19_30 : decode jdk_52_method_5_code 30 = .ok (.ishl, 1) := by decide +kernel
theorem d19_31 : decode jdk_52_method_5_code 31 = .ok (.istore_n 1, 1) := by decide +kernel
theorem d19_32 : decode jdk_52_method_5_code 32 = .ok (.aload_n 0, 1) := by decide +kernel
theorem d19_33 : decode jdk_52_method_5_code 33 = .ok (.iload_n 1, 1) := by decide +kernel
theorem d19_34 : decode jdk_52_method_5_code 34 = .ok (.iinc 1 1, 3) := by decide +kernel
theorem d19_37 : decode jdk_52_method_5_code 37 = .ok (.baload, 1) := by decide +kernel
theorem d19_38 : decode jdk_52_method_5_code 38 = .ok (.sipush 255, 3) := by decide +kernel
theorem d19_41 : decode jdk_52_method_5_code 41 = .ok (.iand, 1) := by decide +kernel
theorem d19_42 : decode jdk_52_method_5_code 42 = .ok (.getstatic 59, 3) := by decide +kernel
theorem d19_45 : decode jdk_52_method_5_code 45 = .ok (.ishl, 1) := by decide +kernel
theorem d19_46 : decode jdk_52_method_5_code 46 = .ok (.aload_n 0, 1) := by decide +kernel
theorem d19_47 : decode jdk_52_method_5_code 47 = .ok (.iload_n 1, 1) := by decide +kernel
theorem d19_48 : decode jdk_52_method_5_code 48 = .ok (.baload, 1) := by decide +kernel
theorem d19_49 : decode jdk_52_method_5_code 49 = .ok (.sipush 255, 3) := by decide +kernel
theorem d19_52 : decode jdk_52_method_5_code 52 = .ok (.iand, 1) := by decide +kernel
theorem d19_53 : decode jdk_52_method_5_code 53 = .ok (.getstatic 63, 3) := by decide +kernel
theorem d19_56 : decode jdk_52_method_5_code 56 = .ok (.ishl, 1) := by decide +kernel
theorem d19_57 : decode jdk_52_method_5_code 57 = .ok (.ior, 1) := by decide +kernel
theorem d19_58 : decode jdk_52_method_5_code 58 = .ok (.i2c, 1) := by decide +kernel
theorem d19_59 : decode jdk_52_method_5_code 59 = .ok (.ireturn, 1) := by decide +kernel
theorem ef_rmGet (m : MethodId) (b : Addr) (i : Int32) : entryFrame m #[(.ref b), (.int i)] 2 = mkF m 0 #[.val (.ref b), .val (.int i)] [] := by first | (simp [entryFrame, mkF, argsToLocals, Value.category, maxLocals]; done) | rfl
set_option maxRecDepth 65536 in
set_option maxHeartbeats 40000000 in
theorem rmGet (l : Launch) (Z : State) (a0 : Array Value) (hw : ∀ d ∈ tables_1, d.before a0 Z = true) (ws : List Jvm.Cond) (b : Addr) (kb : ClassId) (us : List Int32) (i : Int32) (k : Nat) (u : Int32) (cz : Int32) (fm : Value) (h0 : Heap) (n0 : Nat) (Z0 : n0 ≤ h0.size) (V_b : OwnA Z h0 b kb .byte (bU us)) (hl : us.length ≤ 4) (hi : i.toInt = k) (hu : us[k]? = some u) (cu : CU u) (W : OwnW Z h0 cz fm) :
    MetFree l (⟨"java/lang/StringUTF16", "getChar", "([BI)C"⟩ : MethodName) (head1 (Jvm.Cond.code (⟨"java/lang/StringUTF16", "getChar", "([BI)C"⟩ : MethodName) jdk_52_method_5_code (2 : Nat) (Option.some Jvm.ClassFile.FieldType.char) :: ws) ({ frames := 0, cells := 0, slots := 0, locals := 0 } : Room)) (fun aZ UZ => aZ = #[(.ref b), (.int i)] ∧ Z.Warmed39 UZ.vm ∧ UZ.heap = h0) (fun _ _ _ _ _ => True) (fun _ UZ oZ VZ => ∃ vZ LZ, oZ = .returned vZ ∧ (QSame (some (.int u)) h0 n0) vZ VZ.heap LZ ∧ FrameEnd UZ oZ VZ LZ ({ frames := 0, cells := 0, slots := 0, locals := 0 } : Room).cells ({ frames := 0, cells := 0, slots := 0, locals := 0 } : Room).slots) := by
  refine MetFree.of_bodySF (plainFor_of_name pn_3) hisR ?_
  intro p e s m args below meth c s₁ Bd hml0 hP hK
  obtain ⟨rfl, hZ, hh⟩ := hP
  have hx := Bd.exec
  have hby := Bd.bytes
  have hml : c.maxLocals = 2 := hml0
  have hown : s.vm.findClass "java/lang/StringUTF16" = some m.cls := findClass_of_methodNamed Bd.named
  have hnm := (name_of_methodNamed Bd.named Bd.method).1
  have X0 : Stand p l e ({ frames := 0, cells := 0, slots := 0, locals := 0 } : Room) s m #[(.ref b), (.int i)] below meth c s₁ [] 0 0 := Stand.of_body Bd
  have e0 : s₁.heap = h0 := by rw [← hh, Bd.state]; rfl
  have N0 := Fr.nil n0
  show OwnG p e below (OwnE s (QSame (some (.int u)) h0 n0) ({ frames := 0, cells := 0, slots := 0, locals := 0 } : Room).cells ({ frames := 0, cells := 0, slots := 0, locals := 0 } : Room).slots) _
  refine own_by (S' := s₁.setTop (mkF m 0 #[.val (.ref b), .val (.int i)] [])) (fun tZ kZ => castTop (ef_rmGet m b i) kZ) ?_
  obtain ⟨Sc, hcz, Sf, rf, Sa, Shi, Slo⟩ := id W
  have hk := own_klt hu
  obtain ⟨T1, X1, e1, st1⟩ := getS2 X0 hx hZ hown (host := "") (Or.inl (hw_ hw 88 rfl)) Via.refl e0 Sa (g := (mkF m 0 #[.val (.ref b), .val (.int i)] [])) rfl (hb hby d19_0)
  refine own_by (S' := T1.setTop (mkF m 3 #[.val (.ref b), .val (.int i)] [(.int (1 : Int32))])) st1 ?_
  refine own_by (S' := T1.setTop (mkF m 28 #[.val (.ref b), .val (.int i)] [])) (fun tZ kZ => XS.ifYes X1.here hx rfl (pc0 := 3) (pc' := 28) rfl (hb hby d19_3) rfl ((if0 _ _).trans (feq (by decide)).2) (by decide) (by decide) kZ) ?_
  refine own_by (S' := T1.setTop (mkF m 29 #[.val (.ref b), .val (.int i)] [(.int i)])) (fun tZ kZ => XS.iloadN X1.here hx rfl (hb hby d19_28) rfl kZ) ?_
  refine own_by (S' := T1.setTop (mkF m 30 #[.val (.ref b), .val (.int i)] [(.int (1 : Int32)), (.int i)])) (fun tZ kZ => XS.iconst X1.here hx rfl (hb hby d19_29) kZ) ?_
  refine own_by (S' := T1.setTop (mkF m 31 #[.val (.ref b), .val (.int i)] [(.int (i <<< ((1 : Int32) &&& 31)))])) (fun tZ kZ => XS.ishl X1.here hx rfl (hb hby d19_30) rfl kZ) ?_
  obtain ⟨v31, hv31⟩ : ∃ z : Int32, z = (i <<< ((1 : Int32) &&& 31)) := ⟨_, rfl⟩
  rw [← hv31]
  refine own_by (S' := T1.setTop (mkF m 32 #[.val (.ref b), .val (.int v31)] [])) (fun tZ kZ => XS.istoreN X1.here hx rfl (hb hby d19_31) rfl (l' := #[.val (.ref b), .val (.int v31)]) rfl kZ) ?_
  refine own_by (S' := T1.setTop (mkF m 33 #[.val (.ref b), .val (.int v31)] [(.ref b)])) (fun tZ kZ => XS.aloadN X1.here hx rfl (hb hby d19_32) rfl rfl kZ) ?_
  refine own_by (S' := T1.setTop (mkF m 34 #[.val (.ref b), .val (.int v31)] [(.int v31), (.ref b)])) (fun tZ kZ => XS.iloadN X1.here hx rfl (hb hby d19_33) rfl kZ) ?_
  have hv : v31.toInt = ((2 * k : Nat) : Int) := by rw [hv31]; exact own_shl1 hi (by omega)
  have hv1 : (v31 + (1 : Int32)).toInt = ((2 * k + 1 : Nat) : Int) := own_inc hv (by omega)
  refine own_by (S' := T1.setTop (mkF m 37 #[.val (.ref b), .val (.int (v31 + (1 : Int32)))] [(.int v31), (.ref b)])) (fun tZ kZ => XS.iinc X1.here hx rfl (hb hby d19_34) rfl (l' := #[.val (.ref b), .val (.int (v31 + (1 : Int32)))]) rfl kZ) ?_
  obtain ⟨cc2, Ar2, hc2, hl2⟩ := id V_b
  refine own_by (S' := T1.setTop (mkF m 38 #[.val (.ref b), .val (.int (v31 + (1 : Int32)))] [(.int (own_b0 u))])) (fun tZ kZ => X1.baloadBytes hx (j := v31) (v := (.int (own_b0 u))) (by rw [e1]; exact Ar2.1) (State.isArrayOf_alike hZ.alike Ar2.2.1) Ar2.2.2 (OwnA.inb (j := v31) hl2 (own_nneg hv) (by rw [own_tnc hv, bU_len]; omega)) (OwnA.at (j := v31) hl2 (by rw [own_tnc hv]; exact (bU_at hu).1)) (g := (mkF m 37 #[.val (.ref b), .val (.int (v31 + (1 : Int32)))] [(.int v31), (.ref b)])) rfl rfl (hb hby d19_37) _ kZ) ?_
  refine own_by (S' := T1.setTop (mkF m 41 #[.val (.ref b), .val (.int (v31 + (1 : Int32)))] [(.int (255 : Int32)), (.int (own_b0 u))])) (fun tZ kZ => XS.sipush X1.here hx rfl (hb hby d19_38) kZ) ?_
  refine own_by (S' := T1.setTop (mkF m 42 #[.val (.ref b), .val (.int (v31 + (1 : Int32)))] [(.int ((own_b0 u) &&& (255 : Int32)))])) (fun tZ kZ => XS.iand X1.here hx rfl (hb hby d19_41) rfl kZ) ?_
  obtain ⟨T3, X3, e3, st3⟩ := getS2 X1 hx hZ hown (host := "") (Or.inl (hw_ hw 89 rfl)) Via.refl e1 Shi (g := (mkF m 42 #[.val (.ref b), .val (.int (v31 + (1 : Int32)))] [(.int ((own_b0 u) &&& (255 : Int32)))])) rfl (hb hby d19_42)
  refine own_by (S' := T3.setTop (mkF m 45 #[.val (.ref b), .val (.int (v31 + (1 : Int32)))] [(.int (0 : Int32)), (.int ((own_b0 u) &&& (255 : Int32)))])) st3 ?_
  refine own_by (S' := T3.setTop (mkF m 46 #[.val (.ref b), .val (.int (v31 + (1 : Int32)))] [(.int (((own_b0 u) &&& (255 : Int32)) <<< ((0 : Int32) &&& 31)))])) (fun tZ kZ => XS.ishl X3.here hx rfl (hb hby d19_45) rfl kZ) ?_
  refine own_by (S' := T3.setTop (mkF m 47 #[.val (.ref b), .val (.int (v31 + (1 : Int32)))] [(.ref b), (.int (((own_b0 u) &&& (255 : Int32)) <<< ((0 : Int32) &&& 31)))])) (fun tZ kZ => XS.aloadN X3.here hx rfl (hb hby d19_46) rfl rfl kZ) ?_
  refine own_by (S' := T3.setTop (mkF m 48 #[.val (.ref b), .val (.int (v31 + (1 : Int32)))] [(.int (v31 + (1 : Int32))), (.ref b), (.int (((own_b0 u) &&& (255 : Int32)) <<< ((0 : Int32) &&& 31)))])) (fun tZ kZ => XS.iloadN X3.here hx rfl (hb hby d19_47) rfl kZ) ?_
  obtain ⟨cc4, Ar4, hc4, hl4⟩ := id V_b
  refine own_by (S' := T3.setTop (mkF m 49 #[.val (.ref b), .val (.int (v31 + (1 : Int32)))] [(.int (own_b1 u)), (.int (((own_b0 u) &&& (255 : Int32)) <<< ((0 : Int32) &&& 31)))])) (fun tZ kZ => X3.baloadBytes hx (j := (v31 + (1 : Int32))) (v := (.int (own_b1 u))) (by rw [e3]; exact Ar4.1) (State.isArrayOf_alike hZ.alike Ar4.2.1) Ar4.2.2 (OwnA.inb (j := (v31 + (1 : Int32))) hl4 (own_nneg hv1) (by rw [own_tnc hv1, bU_len]; omega)) (OwnA.at (j := (v31 + (1 : Int32))) hl4 (by rw [own_tnc hv1]; exact (bU_at hu).2)) (g := (mkF m 48 #[.val (.ref b), .val (.int (v31 + (1 : Int32)))] [(.int (v31 + (1 : Int32))), (.ref b), (.int (((own_b0 u) &&& (255 : Int32)) <<< ((0 : Int32) &&& 31)))])) rfl rfl (hb hby d19_48) _ kZ) ?_
  refine own_by (S' := T3.setTop (mkF m 52 #[.val (.ref b), .val (.int (v31 + (1 : Int32)))] [(.int (255 : Int32)), (.int (own_b1 u)), (.int (((own_b0 u) &&& (255 : Int32)) <<< ((0 : Int32) &&& 31)))])) (fun tZ kZ => XS.sipush X3.here hx rfl (hb hby d19_49) kZ) ?_
  refine own_by (S' := T3.setTop (mkF m 53 #[.val (.ref b), .val (.int (v31 + (1 : Int32)))] [(.int ((own_b1 u) &&& (255 : Int32))), (.int (((own_b0 u) &&& (255 : Int32)) <<< ((0 : Int32) &&& 31)))])) (fun tZ kZ => XS.iand X3.here hx rfl (hb hby d19_52) rfl kZ) ?_
  obtain ⟨T5, X5, e5, st5⟩ := getS2 X3 hx hZ hown (host := "") (Or.inl (hw_ hw 90 rfl)) Via.refl e3 Slo (g := (mkF m 53 #[.val (.ref b), .val (.int (v31 + (1 : Int32)))] [(.int ((own_b1 u) &&& (255 : Int32))), (.int (((own_b0 u) &&& (255 : Int32)) <<< ((0 : Int32) &&& 31)))])) rfl (hb hby d19_53)
  refine own_by (S' := T5.setTop (mkF m 56 #[.val (.ref b), .val (.int (v31 + (1 : Int32)))] [(.int (8 : Int32)), (.int ((own_b1 u) &&& (255 : Int32))), (.int (((own_b0 u) &&& (255 : Int32)) <<< ((0 : Int32) &&& 31)))])) st5 ?_
  refine own_by (S' := T5.setTop (mkF m 57 #[.val (.ref b), .val (.int (v31 + (1 : Int32)))] [(.int (((own_b1 u) &&& (255 : Int32)) <<< ((8 : Int32) &&& 31))), (.int (((own_b0 u) &&& (255 : Int32)) <<< ((0 : Int32) &&& 31)))])) (fun tZ kZ => XS.ishl X5.here hx rfl (hb hby d19_56) rfl kZ) ?_
  refine own_by (S' := T5.setTop (mkF m 58 #[.val (.ref b), .val (.int (v31 + (1 : Int32)))] [(.int ((((own_b0 u) &&& (255 : Int32)) <<< ((0 : Int32) &&& 31)) ||| (((own_b1 u) &&& (255 : Int32)) <<< ((8 : Int32) &&& 31))))])) (fun tZ kZ => XS.ior X5.here hx rfl (hb hby d19_57) rfl kZ) ?_
  refine own_by (S' := T5.setTop (mkF m 59 #[.val (.ref b), .val (.int (v31 + (1 : Int32)))] [(.int (((((own_b0 u) &&& (255 : Int32)) <<< ((0 : Int32) &&& 31)) ||| (((own_b1 u) &&& (255 : Int32)) <<< ((8 : Int32) &&& 31))).toUInt32.toUInt16.toUInt32.toInt32))])) (fun tZ kZ => XS.i2c X5.here hx rfl (hb hby d19_58) rfl kZ) ?_
  rw [own_gc cu]
  exact own_retI X5 hx (t := .char) Bd.returns (by simp) (own_narr cu) (hb hby d19_59) Bd.notSynchronized (by decide) (by decide) ⟨rfl, N0, e5⟩
theorem d28_0 : decode jdk_52_method_91_code 0 = .ok (.iload_n 0, 1) := by decide +kernel
theorem d28_1 : decode jdk_52_method_91_code 1 = .ok (.aload_n 1, 1) := by decide +kernel
theorem d28_2 : decode jdk_52_method_91_code 2 = .ok (.invokestatic 48, 3) := by decide +kernel
theorem d28_5 : decode jdk_52_method_91_code 5 = .ok (.invokestatic 414, 3) := by decide +kernel
theorem d28_8 : decode jdk_52_method_91_code 8 = .ok (.return_, 1) := by decide +kernel
theorem ef_rmUCI (m : MethodId) (i : Int32) (b : Addr) : entryFrame m #[(.int i), (.ref b)] 2 = mkF m 0 #[.val (.int i), .val (.ref b)] [] := by first | (simp [entryFrame, mkF, argsToLocals, Value.category, maxLocals]; done) | rfl
set_option maxRecDepth 65536 in
set_option maxHeartbeats 40000000 in
theorem rmUCI (l : Launch) (Z : State) (a0 : Array Value) (hw : ∀ d ∈ tables_1, d.before a0 Z = true) (ws : List Jvm.Cond) (b : Addr) (kb : ClassId) (us : List Int32) (i z : Int32) (cz : Int32) (fm : Value) (h0 : Heap) (n0 : Nat) (Z0 : n0 ≤ h0.size) (V_b : OwnA Z h0 b kb .byte (bU us)) (hl : us.length ≤ 4) (hz : z.toInt = us.length) (h1 : ¬ i < 0) (h2 : i < z) (W : OwnW Z h0 cz fm) :
    MetFree l (⟨"java/lang/StringUTF16", "checkIndex", "(I[B)V"⟩ : MethodName) (head1 (Jvm.Cond.code (⟨"java/lang/StringUTF16", "checkIndex", "(I[B)V"⟩ : MethodName) jdk_52_method_91_code (2 : Nat) (Option.none : Option Jvm.ClassFile.FieldType) :: ws) ({ frames := 2, cells := 0, slots := 0, locals := 27 } : Room)) (fun aZ UZ => aZ = #[(.int i), (.ref b)] ∧ Z.Warmed39 UZ.vm ∧ UZ.heap = h0) (fun _ _ _ _ _ => True) (fun _ UZ oZ VZ => ∃ vZ LZ, oZ = .returned vZ ∧ (QSame none h0 n0) vZ VZ.heap LZ ∧ FrameEnd UZ oZ VZ LZ ({ frames := 2, cells := 0, slots := 0, locals := 27 } : Room).cells ({ frames := 2, cells := 0, slots := 0, locals := 27 } : Room).slots) := by
  refine MetFree.of_bodySF (plainFor_of_name pn_3) hisR ?_
  intro p e s m args below meth c s₁ Bd hml0 hP hK
  obtain ⟨rfl, hZ, hh⟩ := hP
  have hx := Bd.exec
  have hby := Bd.bytes
  have hml : c.maxLocals = 2 := hml0
  have hown : s.vm.findClass "java/lang/StringUTF16" = some m.cls := findClass_of_methodNamed Bd.named
  have hnm := (name_of_methodNamed Bd.named Bd.method).1
  have X0 : Stand p l e ({ frames := 2, cells := 0, slots := 0, locals := 27 } : Room) s m #[(.int i), (.ref b)] below meth c s₁ [] 0 0 := Stand.of_body Bd
  have e0 : s₁.heap = h0 := by rw [← hh, Bd.state]; rfl
  have N0 := Fr.nil n0
  show OwnG p e below (OwnE s (QSame none h0 n0) ({ frames := 2, cells := 0, slots := 0, locals := 27 } : Room).cells ({ frames := 2, cells := 0, slots := 0, locals := 27 } : Room).slots) _
  refine own_by (S' := s₁.setTop (mkF m 0 #[.val (.int i), .val (.ref b)] [])) (fun tZ kZ => castTop (ef_rmUCI m i b) kZ) ?_
  obtain ⟨Sc, hcz, Sf, rf, Sa, Shi, Slo⟩ := id W
  refine own_by (S' := s₁.setTop (mkF m 1 #[.val (.int i), .val (.ref b)] [(.int i)])) (fun tZ kZ => XS.iloadN X0.here hx rfl (hb hby d28_0) rfl kZ) ?_
  refine own_by (S' := s₁.setTop (mkF m 2 #[.val (.int i), .val (.ref b)] [(.ref b), (.int i)])) (fun tZ kZ => XS.aloadN X0.here hx rfl (hb hby d28_1) rfl rfl kZ) ?_
  obtain ⟨_, _, ⟨T1, L1, k1, n1⟩, -, X1, ⟨Lc1, hQ1, l1, y1, z1⟩, st1⟩ := Jvm.LawKit.callS X0 hx (y := (⟨"java/lang/StringUTF16", "length", "([B)I"⟩ : MethodName)) hown (mvT hZ (hw_ hw 125 rfl)) (mvT hZ (hw_ hw 126 rfl)) (mvT hZ (hw_ hw 70 rfl)) (mvT hZ (hw_ hw 127 rfl)) (by decide) (backOf (W := 1) (rmULen l Z a0 hw [] b kb us z h0 n0 Z0 V_b hl hz) hZ (hw_ hw 127 rfl) (hw_ hw 70 rfl) (by decide) (by decide)) (g := (mkF m 2 #[.val (.int i), .val (.ref b)] [(.ref b), (.int i)])) rfl (by rw [hml]; rfl) (argsL := [(.ref b)]) (rest := [(.int i)]) (lenOf pd_3 rfl) rfl (by show 2 * 0 + _ ≤ _; exact Nat.le_of_eq rfl) (hb hby d28_2) (fun _ _ => ⟨rfl, e0, (by decide : 0 + 0 ≤ _), (by decide : 0 + 0 ≤ _)⟩)
  dsimp only [Pt.U, Pt.locs, Pt.cells, Pt.slots] at X1 l1 y1 z1 st1 hQ1
  subst l1 y1 z1
  obtain ⟨rfl, N1q, heq1⟩ := hQ1
  have N1 := Fr.app N0 N1q
  refine own_by (S' := T1.setTop (mkF m 5 #[.val (.int i), .val (.ref b)] [(.int z), (.int i)])) (fun tZ kZ => st1 _ kZ) ?_
  obtain ⟨_, _, ⟨T2, L2, k2, n2⟩, -, X2, ⟨Lc2, hQ2, l2, y2, z2⟩, st2⟩ := Jvm.LawKit.callS X1 hx (y := (⟨"java/lang/String", "checkIndex", "(II)V"⟩ : MethodName)) hown (mvT hZ (hw_ hw 128 rfl)) (mvT hZ (hw_ hw 129 rfl)) (mvT hZ (hw_ hw 14 rfl)) (mvT hZ (hw_ hw 130 rfl)) (by decide) (backOf (W := 0) (rmCI l Z a0 hw [] i z fm h0 n0 Z0 h1 h2 Sf rf) hZ (hw_ hw 130 rfl) (hw_ hw 14 rfl) (by decide) (by decide)) (g := (mkF m 5 #[.val (.int i), .val (.ref b)] [(.int z), (.int i)])) rfl (by rw [hml]; rfl) (argsL := [(.int i), (.int z)]) (rest := []) (lenOf pd_4 rfl) rfl (by show 2 * 0 + _ ≤ _; exact Nat.le_of_eq rfl) (hb hby d28_5) (fun _ _ => ⟨rfl, heq1, (by decide : 0 + 0 ≤ _), (by decide : 0 + 0 ≤ _)⟩)
  dsimp only [Pt.U, Pt.locs, Pt.cells, Pt.slots] at X2 l2 y2 z2 st2 hQ2
  subst l2 y2 z2
  obtain ⟨rfl, N2q, heq2⟩ := hQ2
  have N2 := Fr.app N1 N2q
  refine own_by (S' := T2.setTop (mkF m 8 #[.val (.int i), .val (.ref b)] [])) (fun tZ kZ => st2 _ kZ) ?_
  exact own_ret0 X2 hx Bd.returns (hb hby d28_8) Bd.notSynchronized (by decide) (by decide) ⟨rfl, N2, heq2⟩
theorem d27_0 : decode jdk_52_method_83_code 0 = .ok (.iload_n 1, 1) := by decide +kernel
theorem d27_1 : decode jdk_52_method_83_code 1 = .ok (.aload_n 0, 1) := by decide +kernel
theorem d27_2 : decode jdk_52_method_83_code 2 = .ok (.invokestatic 67, 3) := by decide +kernel
theorem d27_5 : decode jdk_52_method_83_code 5 = .ok (.aload_n 0, 1) := by decide +kernel
theorem d27_6 : decode jdk_52_method_83_code 6 = .ok (.iload_n 1, 1) := by decide +kernel
theorem d27_7 : decode jdk_52_method_83_code 7 = .ok (.invokestatic 71, 3) := by decide +kernel
theorem d27_10 : decode jdk_52_method_83_code 10 = .ok (.ireturn, 1) := by decide +kernel
theorem ef_rmUCh (m : MethodId) (b : Addr) (i : Int32) : entryFrame m #[(.ref b), (.int i)] 2 = mkF m 0 #[.val (.ref b), .val (.int i)] [] := by first | (simp [entryFrame, mkF, argsToLocals, Value.category, maxLocals]; done) | rfl
set_option maxRecDepth 65536 in
set_option maxHeartbeats 40000000 in
theorem rmUCh (l : Launch) (Z : State) (a0 : Array Value) (hw : ∀ d ∈ tables_1, d.before a0 Z = true) (ws : List Jvm.Cond) (b : Addr) (kb : ClassId) (us : List Int32) (i : Int32) (k : Nat) (u : Int32) (cz : Int32) (fm : Value) (h0 : Heap) (n0 : Nat) (Z0 : n0 ≤ h0.size) (V_b : OwnA Z h0 b kb .byte (bU us)) (hl : us.length ≤ 4) (hi : i.toInt = k) (hu : us[k]? = some u) (cu : CU u) (W : OwnW Z h0 cz fm) :
    MetFree l (⟨"java/lang/StringUTF16", "charAt", "([BI)C"⟩ : MethodName) (head1 (Jvm.Cond.code (⟨"java/lang/StringUTF16", "charAt", "([BI)C"⟩ : MethodName) jdk_52_method_83_code (2 : Nat) (Option.some Jvm.ClassFile.FieldType.char) :: ws) ({ frames := 3, cells := 0, slots := 0, locals := 40 } : Room)) (fun aZ UZ => aZ = #[(.ref b), (.int i)] ∧ Z.Warmed39 UZ.vm ∧ UZ.heap = h0) (fun _ _ _ _ _ => True) (fun _ UZ oZ VZ => ∃ vZ LZ, oZ = .returned vZ ∧ (QSame (some (.int u)) h0 n0) vZ VZ.heap LZ ∧ FrameEnd UZ oZ VZ LZ ({ frames := 3, cells := 0, slots := 0, locals := 40 } : Room).cells ({ frames := 3, cells := 0, slots := 0, locals := 40 } : Room).slots) := by
  refine MetFree.of_bodySF (plainFor_of_name pn_3) hisR ?_
  intro p e s m args below meth c s₁ Bd hml0 hP hK
  obtain ⟨rfl, hZ, hh⟩ := hP
  have hx := Bd.exec
  have hby := Bd.bytes
  have hml : c.maxLocals = 2 := hml0
  have hown : s.vm.findClass "java/lang/StringUTF16" = some m.cls := findClass_of_methodNamed Bd.named
  have hnm := (name_of_methodNamed Bd.named Bd.method).1
  have X0 : Stand p l e ({ frames := 3, cells := 0, slots := 0, locals := 40 } : Room) s m #[(.ref b), (.int i)] below meth c s₁ [] 0 0 := Stand.of_body Bd
  have e0 : s₁.heap = h0 := by rw [← hh, Bd.state]; rfl
  have N0 := Fr.nil n0
  show OwnG p e below (OwnE s (QSame (some (.int u)) h0 n0) ({ frames := 3, cells := 0, slots := 0, locals := 40 } : Room).cells ({ frames := 3, cells := 0, slots := 0, locals := 40 } : Room).slots) _
  refine own_by (S' := s₁.setTop (mkF m 0 #[.val (.ref b), .val (.int i)] [])) (fun tZ kZ => castTop (ef_rmUCh m b i) kZ) ?_
  obtain ⟨z, hz⟩ := own_int us.length (by omega)
  refine own_by (S' := s₁.setTop (mkF m 1 #[.val (.ref b), .val (.int i)] [(.int i)])) (fun tZ kZ => XS.iloadN X0.here hx rfl (hb hby d27_0) rfl kZ) ?_
  refine own_by (S' := s₁.setTop (mkF m 2 #[.val (.ref b), .val (.int i)] [(.ref b), (.int i)])) (fun tZ kZ => XS.aloadN X0.here hx rfl (hb hby d27_1) rfl rfl kZ) ?_
  obtain ⟨_, _, ⟨T1, L1, k1, n1⟩, -, X1, ⟨Lc1, hQ1, l1, y1, z1⟩, st1⟩ := Jvm.LawKit.callS X0 hx (y := (⟨"java/lang/StringUTF16", "checkIndex", "(I[B)V"⟩ : MethodName)) hown (mvT hZ (hw_ hw 122 rfl)) (mvT hZ (hw_ hw 123 rfl)) (mvT hZ (hw_ hw 70 rfl)) (mvT hZ (hw_ hw 124 rfl)) (by decide) (backOf (W := 0) (rmUCI l Z a0 hw [] b kb us i z cz fm h0 n0 Z0 V_b hl hz (own_nneg hi) ((own_lt hi hz).mpr (own_klt hu)) W) hZ (hw_ hw 124 rfl) (hw_ hw 70 rfl) (by decide) (by decide)) (g := (mkF m 2 #[.val (.ref b), .val (.int i)] [(.ref b), (.int i)])) rfl (by rw [hml]; rfl) (argsL := [(.int i), (.ref b)]) (rest := []) (lenOf pd_5 rfl) rfl (by show 2 * 0 + _ ≤ _; exact Nat.le_of_eq rfl) (hb hby d27_2) (fun _ _ => ⟨rfl, e0, (by decide : 0 + 0 ≤ _), (by decide : 0 + 0 ≤ _)⟩)
  dsimp only [Pt.U, Pt.locs, Pt.cells, Pt.slots] at X1 l1 y1 z1 st1 hQ1
  subst l1 y1 z1
  obtain ⟨rfl, N1q, heq1⟩ := hQ1
  have N1 := Fr.app N0 N1q
  refine own_by (S' := T1.setTop (mkF m 5 #[.val (.ref b), .val (.int i)] [])) (fun tZ kZ => st1 _ kZ) ?_
  refine own_by (S' := T1.setTop (mkF m 6 #[.val (.ref b), .val (.int i)] [(.ref b)])) (fun tZ kZ => XS.aloadN X1.here hx rfl (hb hby d27_5) rfl rfl kZ) ?_
  refine own_by (S' := T1.setTop (mkF m 7 #[.val (.ref b), .val (.int i)] [(.int i), (.ref b)])) (fun tZ kZ => XS.iloadN X1.here hx rfl (hb hby d27_6) rfl kZ) ?_
  obtain ⟨_, _, ⟨T2, L2, k2, n2⟩, -, X2, ⟨Lc2, hQ2, l2, y2, z2⟩, st2⟩ := Jvm.LawKit.callS X1 hx (y := (⟨"java/lang/StringUTF16", "getChar", "([BI)C"⟩ : MethodName)) hown (mvT hZ (hw_ hw 91 rfl)) (mvT hZ (hw_ hw 92 rfl)) (mvT hZ (hw_ hw 70 rfl)) (mvT hZ (hw_ hw 93 rfl)) (by decide) (backOf (W := 0) (rmGet l Z a0 hw [] b kb us i k u cz fm h0 n0 Z0 V_b hl hi hu cu W) hZ (hw_ hw 93 rfl) (hw_ hw 70 rfl) (by decide) (by decide)) (g := (mkF m 7 #[.val (.ref b), .val (.int i)] [(.int i), (.ref b)])) rfl (by rw [hml]; rfl) (argsL := [(.ref b), (.int i)]) (rest := []) (lenOf pd_6 rfl) rfl (by show 2 * 0 + _ ≤ _; exact Nat.le_of_eq rfl) (hb hby d27_7) (fun _ _ => ⟨rfl, heq1, (by decide : 0 + 0 ≤ _), (by decide : 0 + 0 ≤ _)⟩)
  dsimp only [Pt.U, Pt.locs, Pt.cells, Pt.slots] at X2 l2 y2 z2 st2 hQ2
  subst l2 y2 z2
  obtain ⟨rfl, N2q, heq2⟩ := hQ2
  have N2 := Fr.app N1 N2q
  refine own_by (S' := T2.setTop (mkF m 10 #[.val (.ref b), .val (.int i)] [(.int u)])) (fun tZ kZ => st2 _ kZ) ?_
  exact own_retI X2 hx (t := .char) Bd.returns (by simp) (own_narr cu) (hb hby d27_10) Bd.notSynchronized (by decide) (by decide) ⟨rfl, N2, heq2⟩
theorem d39_0 : decode jdk_43_method_2_code 0 = .ok (.iload_n 1, 1) := by decide +kernel
theorem d39_1 : decode jdk_43_method_2_code 1 = .ok (.aload_n 0, 1) := by decide +kernel
theorem d39_2 : decode jdk_43_method_2_code 2 = .ok (.arraylength, 1) := by decide +kernel
theorem d39_3 : decode jdk_43_method_2_code 3 = .ok (.invokestatic 9, 3) := by decide +kernel
theorem d39_6 : decode jdk_43_method_2_code 6 = .ok (.aload_n 0, 1) := by decide +kernel
theorem d39_7 : decode jdk_43_method_2_code 7 = .ok (.iload_n 1, 1) := by decide +kernel
theorem d39_8 : decode jdk_43_method_2_code 8 = .ok (.baload, 1) := by decide +kernel
theorem d39_9 : decode jdk_43_method_2_code 9 = .ok (.sipush 255, 3) := by decide +kernel
theorem d39_12 : decode jdk_43_method_2_code 12 = .ok (.iand, 1) := by decide +kernel
theorem d39_13 : decode jdk_43_method_2_code 13 = .ok (.i2c, 1) := by decide +kernel
theorem d39_14 : decode jdk_43_method_2_code 14 = .ok (.ireturn, 1) := by decide +kernel
theorem pn_4 : plainName "java/lang/StringLatin1" = true := by first | (simp [plainName, overriddenIn]; done) | decide +kernel
theorem ef_rmLCh (m : MethodId) (b : Addr) (i : Int32) : entryFrame m #[(.ref b), (.int i)] 2 = mkF m 0 #[.val (.ref b), .val (.int i)] [] := by first | (simp [entryFrame, mkF, argsToLocals, Value.category, maxLocals]; done) | rfl
set_option maxRecDepth 65536 in
set_option maxHeartbeats 40000000 in
theorem rmLCh (l : Launch) (Z : State) (a0 : Array Value) (hw : ∀ d ∈ tables_1, d.before a0 Z = true) (ws : List Jvm.Cond) (b : Addr) (kb : ClassId) (us : List Int32) (i : Int32) (k : Nat) (u : Int32) (cz : Int32) (fm : Value) (h0 : Heap) (n0 : Nat) (Z0 : n0 ≤ h0.size) (V_b : OwnA Z h0 b kb .byte (bL us)) (hl : us.length ≤ 4) (hi : i.toInt = k) (hu : us[k]? = some u) (cu : CU u) (hal : u.toInt ≤ 255) (W : OwnW Z h0 cz fm) :
    MetFree l (⟨"java/lang/StringLatin1", "charAt", "([BI)C"⟩ : MethodName) (head1 (Jvm.Cond.code (⟨"java/lang/StringLatin1", "charAt", "([BI)C"⟩ : MethodName) jdk_43_method_2_code (2 : Nat) (Option.some Jvm.ClassFile.FieldType.char) :: ws) ({ frames := 2, cells := 0, slots := 0, locals := 27 } : Room)) (fun aZ UZ => aZ = #[(.ref b), (.int i)] ∧ Z.Warmed39 UZ.vm ∧ UZ.heap = h0) (fun _ _ _ _ _ => True) (fun _ UZ oZ VZ => ∃ vZ LZ, oZ = .returned vZ ∧ (QSame (some (.int u)) h0 n0) vZ VZ.heap LZ ∧ FrameEnd UZ oZ VZ LZ ({ frames := 2, cells := 0, slots := 0, locals := 27 } : Room).cells ({ frames := 2, cells := 0, slots := 0, locals := 27 } : Room).slots) := by
  refine MetFree.of_bodySF (plainFor_of_name pn_4) hisR ?_
  intro p e s m args below meth c s₁ Bd hml0 hP hK
  obtain ⟨rfl, hZ, hh⟩ := hP
  have hx := Bd.exec
  have hby := Bd.bytes
  have hml : c.maxLocals = 2 := hml0
  have hown : s.vm.findClass "java/lang/StringLatin1" = some m.cls := findClass_of_methodNamed Bd.named
  have hnm := (name_of_methodNamed Bd.named Bd.method).1
  have X0 : Stand p l e ({ frames := 2, cells := 0, slots := 0, locals := 27 } : Room) s m #[(.ref b), (.int i)] below meth c s₁ [] 0 0 := Stand.of_body Bd
  have e0 : s₁.heap = h0 := by rw [← hh, Bd.state]; rfl
  have N0 := Fr.nil n0
  show OwnG p e below (OwnE s (QSame (some (.int u)) h0 n0) ({ frames := 2, cells := 0, slots := 0, locals := 27 } : Room).cells ({ frames := 2, cells := 0, slots := 0, locals := 27 } : Room).slots) _
  refine own_by (S' := s₁.setTop (mkF m 0 #[.val (.ref b), .val (.int i)] [])) (fun tZ kZ => castTop (ef_rmLCh m b i) kZ) ?_
  obtain ⟨z, hz⟩ := own_int us.length (by omega)
  obtain ⟨Sc, hcz, Sf, rf, Sa, Shi, Slo⟩ := id W
  refine own_by (S' := s₁.setTop (mkF m 1 #[.val (.ref b), .val (.int i)] [(.int i)])) (fun tZ kZ => XS.iloadN X0.here hx rfl (hb hby d39_0) rfl kZ) ?_
  refine own_by (S' := s₁.setTop (mkF m 2 #[.val (.ref b), .val (.int i)] [(.ref b), (.int i)])) (fun tZ kZ => XS.aloadN X0.here hx rfl (hb hby d39_1) rfl rfl kZ) ?_
  obtain ⟨cc1, Ar1, hc1, hl1⟩ := id V_b
  refine own_by (S' := s₁.setTop (mkF m 3 #[.val (.ref b), .val (.int i)] [(.int z), (.int i)])) (fun tZ kZ => X0.arraylength hx (by rw [e0]; exact Ar1.1) (State.isArrayOf_alike hZ.alike Ar1.2.1) (g := (mkF m 2 #[.val (.ref b), .val (.int i)] [(.ref b), (.int i)])) rfl rfl (hb hby d39_2) _ (by rw [len_of (OwnA.size (z := z) hl1 (by rw [bL_len, own_tnc hz])) (own_nneg hz)]; exact kZ)) ?_
  obtain ⟨_, _, ⟨T2, L2, k2, n2⟩, -, X2, ⟨Lc2, hQ2, l2, y2, z2⟩, st2⟩ := Jvm.LawKit.callS X0 hx (y := (⟨"java/lang/String", "checkIndex", "(II)V"⟩ : MethodName)) hown (mvT hZ (hw_ hw 177 rfl)) (mvT hZ (hw_ hw 129 rfl)) (mvT hZ (hw_ hw 14 rfl)) (mvT hZ (hw_ hw 130 rfl)) (by decide) (backOf (W := 0) (rmCI l Z a0 hw [] i z fm h0 n0 Z0 (own_nneg hi) ((own_lt hi hz).mpr (own_klt hu)) Sf rf) hZ (hw_ hw 130 rfl) (hw_ hw 14 rfl) (by decide) (by decide)) (g := (mkF m 3 #[.val (.ref b), .val (.int i)] [(.int z), (.int i)])) rfl (by rw [hml]; rfl) (argsL := [(.int i), (.int z)]) (rest := []) (lenOf pd_4 rfl) rfl (by show 2 * 0 + _ ≤ _; exact Nat.le_of_eq rfl) (hb hby d39_3) (fun _ _ => ⟨rfl, e0, (by decide : 0 + 0 ≤ _), (by decide : 0 + 0 ≤ _)⟩)
  dsimp only [Pt.U, Pt.locs, Pt.cells, Pt.slots] at X2 l2 y2 z2 st2 hQ2
  subst l2 y2 z2
  obtain ⟨rfl, N2q, heq2⟩ := hQ2
  have N2 := Fr.app N0 N2q
  refine own_by (S' := T2.setTop (mkF m 6 #[.val (.ref b), .val (.int i)] [])) (fun tZ kZ => st2 _ kZ) ?_
  refine own_by (S' := T2.setTop (mkF m 7 #[.val (.ref b), .val (.int i)] [(.ref b)])) (fun tZ kZ => XS.aloadN X2.here hx rfl (hb hby d39_6) rfl rfl kZ) ?_
  refine own_by (S' := T2.setTop (mkF m 8 #[.val (.ref b), .val (.int i)] [(.int i), (.ref b)])) (fun tZ kZ => XS.iloadN X2.here hx rfl (hb hby d39_7) rfl kZ) ?_
  obtain ⟨cc3, Ar3, hc3, hl3⟩ := id V_b
  refine own_by (S' := T2.setTop (mkF m 9 #[.val (.ref b), .val (.int i)] [(.int (own_bl u))])) (fun tZ kZ => X2.baloadBytes hx (j := i) (v := (.int (own_bl u))) (by rw [heq2]; exact Ar3.1) (State.isArrayOf_alike hZ.alike Ar3.2.1) Ar3.2.2 (OwnA.inb (j := i) hl3 (own_nneg hi) (by rw [own_tnc hi, bL_len]; exact own_klt hu)) (OwnA.at (j := i) hl3 (by rw [own_tnc hi]; exact bL_at hu)) (g := (mkF m 8 #[.val (.ref b), .val (.int i)] [(.int i), (.ref b)])) rfl rfl (hb hby d39_8) _ kZ) ?_
  refine own_by (S' := T2.setTop (mkF m 12 #[.val (.ref b), .val (.int i)] [(.int (255 : Int32)), (.int (own_bl u))])) (fun tZ kZ => XS.sipush X2.here hx rfl (hb hby d39_9) kZ) ?_
  refine own_by (S' := T2.setTop (mkF m 13 #[.val (.ref b), .val (.int i)] [(.int ((own_bl u) &&& (255 : Int32)))])) (fun tZ kZ => XS.iand X2.here hx rfl (hb hby d39_12) rfl kZ) ?_
  refine own_by (S' := T2.setTop (mkF m 14 #[.val (.ref b), .val (.int i)] [(.int (((own_bl u) &&& (255 : Int32)).toUInt32.toUInt16.toUInt32.toInt32))])) (fun tZ kZ => XS.i2c X2.here hx rfl (hb hby d39_13) rfl kZ) ?_
  rw [own_lc cu.1 hal]
  exact own_retI X2 hx (t := .char) Bd.returns (by simp) (own_narr cu) (hb hby d39_14) Bd.notSynchronized (by decide) (by decide) ⟨rfl, N2, heq2⟩
theorem d26_0 : decode jdk_42_method_56_code 0 = .ok (.aload_n 0, 1) := by decide +kernel
theorem d26_1 : decode jdk_42_method_56_code 1 = .ok (.invokevirtual 492, 3) := by decide +kernel
theorem d26_4 : decode jdk_42_method_56_code 4 = .ok (.ifCond .eq 12, 3) := by decide +kernel
theorem d26_7 : decode jdk_42_method_56_code 7 = .ok (.aload_n 0, 1) := by decide +kernel
theorem d26_8 : decode jdk_42_method_56_code 8 = .ok (.getfield 9, 3) := by decide +kernel
theorem d26_11 : decode jdk_42_method_56_code 11 = .ok (.iload_n 1, 1) := by decide +kernel
theorem d26_12 : decode jdk_42_method_56_code 12 = .ok (.invokestatic 495, 3) := by decide +kernel
theorem d26_15 : decode jdk_42_method_56_code 15 = .ok (.ireturn, 1) := by decide +kernel
theorem d26_16 : decode jdk_42_method_56_code 16 = .ok (.aload_n 0, 1) := by decide +kernel
theorem d26_17 : decode jdk_42_method_56_code 17 = .ok (.getfield 9, 3) := by decide +kernel
theorem d26_20 : decode jdk_42_method_56_code 20 = .ok (.iload_n 1, 1) := by decide +kernel
theorem d26_21 : decode jdk_42_method_56_code 21 = .ok (.invokestatic 498, 3) := by decide +kernel
theorem d26_24 : decode jdk_42_method_56_code 24 = .ok (.ireturn, 1) := by decide +kernel
theorem ef_rmCh (m : MethodId) (r : Addr) (i : Int32) : entryFrame m #[(.ref r), (.int i)] 2 = mkF m 0 #[.val (.ref r), .val (.int i)] [] := by first | (simp [entryFrame, mkF, argsToLocals, Value.category, maxLocals]; done) | rfl
set_option maxRecDepth 65536 in
set_option maxHeartbeats 40000000 in
theorem rmCh (l : Launch) (Z : State) (a0 : Array Value) (hw : ∀ d ∈ tables_1, d.before a0 Z = true) (ws : List Jvm.Cond) (r : Addr) (us : List Int32) (i : Int32) (k : Nat) (u : Int32) (cz : Int32) (fm : Value) (h0 : Heap) (n0 : Nat) (Z0 : n0 ≤ h0.size) (S : OwnStr Z h0 r us) (hl : us.length ≤ 4) (W : OwnW Z h0 cz fm) (hi : i.toInt = k) (hu : us[k]? = some u) (cu : CU u) :
    MetFree l (⟨"java/lang/String", "charAt", "(I)C"⟩ : MethodName) (head1 (Jvm.Cond.code (⟨"java/lang/String", "charAt", "(I)C"⟩ : MethodName) jdk_42_method_56_code (2 : Nat) (Option.some Jvm.ClassFile.FieldType.char) :: ws) ({ frames := 4, cells := 0, slots := 0, locals := 53 } : Room)) (fun aZ UZ => aZ = #[(.ref r), (.int i)] ∧ Z.Warmed39 UZ.vm ∧ UZ.heap = h0) (fun _ _ _ _ _ => True) (fun _ UZ oZ VZ => ∃ vZ LZ, oZ = .returned vZ ∧ (QSame (some (.int u)) h0 n0) vZ VZ.heap LZ ∧ FrameEnd UZ oZ VZ LZ ({ frames := 4, cells := 0, slots := 0, locals := 53 } : Room).cells ({ frames := 4, cells := 0, slots := 0, locals := 53 } : Room).slots) := by
  refine MetFree.of_bodySF (plainFor_of_name pn_1) hisR ?_
  intro p e s m args below meth c s₁ Bd hml0 hP hK
  obtain ⟨rfl, hZ, hh⟩ := hP
  have hx := Bd.exec
  have hby := Bd.bytes
  have hml : c.maxLocals = 2 := hml0
  have hown : s.vm.findClass "java/lang/String" = some m.cls := findClass_of_methodNamed Bd.named
  have hnm := (name_of_methodNamed Bd.named Bd.method).1
  have X0 : Stand p l e ({ frames := 4, cells := 0, slots := 0, locals := 53 } : Room) s m #[(.ref r), (.int i)] below meth c s₁ [] 0 0 := Stand.of_body Bd
  have e0 : s₁.heap = h0 := by rw [← hh, Bd.state]; rfl
  have N0 := Fr.nil n0
  show OwnG p e below (OwnE s (QSame (some (.int u)) h0 n0) ({ frames := 4, cells := 0, slots := 0, locals := 53 } : Room).cells ({ frames := 4, cells := 0, slots := 0, locals := 53 } : Room).slots) _
  refine own_by (S' := s₁.setTop (mkF m 0 #[.val (.ref r), .val (.int i)] [])) (fun tZ kZ => castTop (ef_rmCh m r i) kZ) ?_
  obtain ⟨Ex, bb, kb, Vv, hcs⟩ := id S
  obtain ⟨Sc, hcz, Sf, rf, Sa, Shi, Slo⟩ := id W
  rcases hcs with ⟨Cc, V_b, hal⟩ | ⟨Cc, V_b⟩
  · refine own_by (S' := s₁.setTop (mkF m 1 #[.val (.ref r), .val (.int i)] [(.ref r)])) (fun tZ kZ => XS.aloadN X0.here hx rfl (hb hby d26_0) rfl rfl kZ) ?_
    obtain ⟨cq1, kq1, q1a, q1b, q1c⟩ := isOf hZ e0 Ex
    obtain ⟨_, _, ⟨T1, L1, k1, n1⟩, -, X1, ⟨Lc1, hQ1, l1, y1, z1⟩, st1⟩ := X0.virtualBack hx (y := (⟨"java/lang/String", "isLatin1", "()Z"⟩ : MethodName)) (z := (⟨"java/lang/String", "isLatin1", "()Z"⟩ : MethodName)) hown (mvT hZ (hw_ hw 62 rfl)) (mvT hZ (hw_ hw 63 rfl)) (notFace_of_selects (args := #[]) (mvT hZ (hw_ hw 65 rfl))) (mvT hZ (hw_ hw 65 rfl)) (mvT hZ (hw_ hw 64 rfl)) (by decide) (backOf (W := 0) (rmIsL0 l Z a0 hw [] r cz h0 n0 Z0 Cc Sc hcz) hZ (hw_ hw 66 rfl) (hw_ hw 14 rfl) (by decide) (by decide)) q1a q1c (g := (mkF m 1 #[.val (.ref r), .val (.int i)] [(.ref r)])) rfl (by rw [hml]; rfl) (Steps.refl _) (argsL := []) (rest := []) (lenOf pd_7 rfl) rfl (by show 2 * 0 + _ ≤ _; exact Nat.le_of_eq rfl) (hb hby d26_1) (fun _ _ => ⟨rfl, e0, (by decide : 0 + 0 ≤ _), (by decide : 0 + 0 ≤ _)⟩)
    dsimp only [Pt.U, Pt.locs, Pt.cells, Pt.slots] at X1 l1 y1 z1 st1 hQ1
    subst l1 y1 z1
    obtain ⟨rfl, N1q, heq1⟩ := hQ1
    have N1 := Fr.app N0 N1q
    refine own_by (S' := T1.setTop (mkF m 4 #[.val (.ref r), .val (.int i)] [(.int (1 : Int32))])) (fun tZ kZ => st1.trans kZ) ?_
    refine own_by (S' := T1.setTop (mkF m 7 #[.val (.ref r), .val (.int i)] [])) (fun tZ kZ => XS.ifNo X1.here hx rfl (hb hby d26_4) rfl ((if0 _ _).trans (feq (by decide)).1) kZ) ?_
    refine own_by (S' := T1.setTop (mkF m 8 #[.val (.ref r), .val (.int i)] [(.ref r)])) (fun tZ kZ => XS.aloadN X1.here hx rfl (hb hby d26_7) rfl rfl kZ) ?_
    obtain ⟨T2, X2, e2, st2⟩ := getF X1 hx hZ hown (host := "") (Or.inl (hw_ hw 31 rfl)) Via.refl heq1 Vv (g := (mkF m 8 #[.val (.ref r), .val (.int i)] [(.ref r)])) rfl rfl (hb hby d26_8)
    refine own_by (S' := T2.setTop (mkF m 11 #[.val (.ref r), .val (.int i)] [(.ref bb)])) st2 ?_
    refine own_by (S' := T2.setTop (mkF m 12 #[.val (.ref r), .val (.int i)] [(.int i), (.ref bb)])) (fun tZ kZ => XS.iloadN X2.here hx rfl (hb hby d26_11) rfl kZ) ?_
    obtain ⟨_, _, ⟨T3, L3, k3, n3⟩, -, X3, ⟨Lc3, hQ3, l3, y3, z3⟩, st3⟩ := Jvm.LawKit.callS X2 hx (y := (⟨"java/lang/StringLatin1", "charAt", "([BI)C"⟩ : MethodName)) hown (mvT hZ (hw_ hw 173 rfl)) (mvT hZ (hw_ hw 174 rfl)) (mvT hZ (hw_ hw 175 rfl)) (mvT hZ (hw_ hw 176 rfl)) (by decide) (backOf (W := 0) (rmLCh l Z a0 hw [] bb kb us i k u cz fm h0 n0 Z0 V_b hl hi hu cu (hal _ (List.mem_of_getElem? hu)) W) hZ (hw_ hw 176 rfl) (hw_ hw 175 rfl) (by decide) (by decide)) (g := (mkF m 12 #[.val (.ref r), .val (.int i)] [(.int i), (.ref bb)])) rfl (by rw [hml]; rfl) (argsL := [(.ref bb), (.int i)]) (rest := []) (lenOf pd_6 rfl) rfl (by show 2 * 0 + _ ≤ _; exact Nat.le_of_eq rfl) (hb hby d26_12) (fun _ _ => ⟨rfl, e2, (by decide : 0 + 0 ≤ _), (by decide : 0 + 0 ≤ _)⟩)
    dsimp only [Pt.U, Pt.locs, Pt.cells, Pt.slots] at X3 l3 y3 z3 st3 hQ3
    subst l3 y3 z3
    obtain ⟨rfl, N3q, heq3⟩ := hQ3
    have N3 := Fr.app N1 N3q
    refine own_by (S' := T3.setTop (mkF m 15 #[.val (.ref r), .val (.int i)] [(.int u)])) (fun tZ kZ => st3 _ kZ) ?_
    exact own_retI X3 hx (t := .char) Bd.returns (by simp) (own_narr cu) (hb hby d26_15) Bd.notSynchronized (by decide) (by decide) ⟨rfl, N3, heq3⟩
  · refine own_by (S' := s₁.setTop (mkF m 1 #[.val (.ref r), .val (.int i)] [(.ref r)])) (fun tZ kZ => XS.aloadN X0.here hx rfl (hb hby d26_0) rfl rfl kZ) ?_
    obtain ⟨cq4, kq4, q4a, q4b, q4c⟩ := isOf hZ e0 Ex
    obtain ⟨_, _, ⟨T4, L4, k4, n4⟩, -, X4, ⟨Lc4, hQ4, l4, y4, z4⟩, st4⟩ := X0.virtualBack hx (y := (⟨"java/lang/String", "isLatin1", "()Z"⟩ : MethodName)) (z := (⟨"java/lang/String", "isLatin1", "()Z"⟩ : MethodName)) hown (mvT hZ (hw_ hw 62 rfl)) (mvT hZ (hw_ hw 63 rfl)) (notFace_of_selects (args := #[]) (mvT hZ (hw_ hw 65 rfl))) (mvT hZ (hw_ hw 65 rfl)) (mvT hZ (hw_ hw 64 rfl)) (by decide) (backOf (W := 0) (rmIsL1 l Z a0 hw [] r cz h0 n0 Z0 Cc Sc hcz) hZ (hw_ hw 66 rfl) (hw_ hw 14 rfl) (by decide) (by decide)) q4a q4c (g := (mkF m 1 #[.val (.ref r), .val (.int i)] [(.ref r)])) rfl (by rw [hml]; rfl) (Steps.refl _) (argsL := []) (rest := []) (lenOf pd_7 rfl) rfl (by show 2 * 0 + _ ≤ _; exact Nat.le_of_eq rfl) (hb hby d26_1) (fun _ _ => ⟨rfl, e0, (by decide : 0 + 0 ≤ _), (by decide : 0 + 0 ≤ _)⟩)
    dsimp only [Pt.U, Pt.locs, Pt.cells, Pt.slots] at X4 l4 y4 z4 st4 hQ4
    subst l4 y4 z4
    obtain ⟨rfl, N4q, heq4⟩ := hQ4
    have N4 := Fr.app N0 N4q
    refine own_by (S' := T4.setTop (mkF m 4 #[.val (.ref r), .val (.int i)] [(.int (0 : Int32))])) (fun tZ kZ => st4.trans kZ) ?_
    refine own_by (S' := T4.setTop (mkF m 16 #[.val (.ref r), .val (.int i)] [])) (fun tZ kZ => XS.ifYes X4.here hx rfl (pc0 := 4) (pc' := 16) rfl (hb hby d26_4) rfl ((if0 _ _).trans (teq rfl).1) (by decide) (by decide) kZ) ?_
    refine own_by (S' := T4.setTop (mkF m 17 #[.val (.ref r), .val (.int i)] [(.ref r)])) (fun tZ kZ => XS.aloadN X4.here hx rfl (hb hby d26_16) rfl rfl kZ) ?_
    obtain ⟨T5, X5, e5, st5⟩ := getF X4 hx hZ hown (host := "") (Or.inl (hw_ hw 31 rfl)) Via.refl heq4 Vv (g := (mkF m 17 #[.val (.ref r), .val (.int i)] [(.ref r)])) rfl rfl (hb hby d26_17)
    refine own_by (S' := T5.setTop (mkF m 20 #[.val (.ref r), .val (.int i)] [(.ref bb)])) st5 ?_
    refine own_by (S' := T5.setTop (mkF m 21 #[.val (.ref r), .val (.int i)] [(.int i), (.ref bb)])) (fun tZ kZ => XS.iloadN X5.here hx rfl (hb hby d26_20) rfl kZ) ?_
    obtain ⟨_, _, ⟨T6, L6, k6, n6⟩, -, X6, ⟨Lc6, hQ6, l6, y6, z6⟩, st6⟩ := Jvm.LawKit.callS X5 hx (y := (⟨"java/lang/StringUTF16", "charAt", "([BI)C"⟩ : MethodName)) hown (mvT hZ (hw_ hw 119 rfl)) (mvT hZ (hw_ hw 120 rfl)) (mvT hZ (hw_ hw 70 rfl)) (mvT hZ (hw_ hw 121 rfl)) (by decide) (backOf (W := 0) (rmUCh l Z a0 hw [] bb kb us i k u cz fm h0 n0 Z0 V_b hl hi hu cu W) hZ (hw_ hw 121 rfl) (hw_ hw 70 rfl) (by decide) (by decide)) (g := (mkF m 21 #[.val (.ref r), .val (.int i)] [(.int i), (.ref bb)])) rfl (by rw [hml]; rfl) (argsL := [(.ref bb), (.int i)]) (rest := []) (lenOf pd_6 rfl) rfl (by show 2 * 0 + _ ≤ _; exact Nat.le_of_eq rfl) (hb hby d26_21) (fun _ _ => ⟨rfl, e5, (by decide : 0 + 0 ≤ _), (by decide : 0 + 0 ≤ _)⟩)
    dsimp only [Pt.U, Pt.locs, Pt.cells, Pt.slots] at X6 l6 y6 z6 st6 hQ6
    subst l6 y6 z6
    obtain ⟨rfl, N6q, heq6⟩ := hQ6
    have N6 := Fr.app N4 N6q
    refine own_by (S' := T6.setTop (mkF m 24 #[.val (.ref r), .val (.int i)] [(.int u)])) (fun tZ kZ => st6 _ kZ) ?_
    exact own_retI X6 hx (t := .char) Bd.returns (by simp) (own_narr cu) (hb hby d26_24) Bd.notSynchronized (by decide) (by decide) ⟨rfl, N6, heq6⟩
theorem d22_0 : decode method_3_code 0 = .ok (.iload_n 0, 1) := by decide +kernel
theorem d22_1 : decode method_3_code 1 = .ok (.ldc 7, 2) := by decide +kernel
theorem d22_3 : decode method_3_code 3 = .ok (.if_icmp .lt 13, 3) := by decide +kernel
theorem d22_6 : decode method_3_code 6 = .ok (.iload_n 0, 1) := by decide +kernel
theorem d22_7 : decode method_3_code 7 = .ok (.ldc 10, 2) := by decide +kernel
theorem d22_9 : decode method_3_code 9 = .ok (.if_icmp .gt 7, 3) := by decide +kernel
theorem d22_12 : decode method_3_code 12 = .ok (.iconst 1, 1) := by decide +kernel
theorem d22_13 : decode method_3_code 13 = .ok (.goto 4, 3) := by decide +kernel
theorem d22_16 : decode method_3_code 16 = .ok (.iconst 0, 1) := by decide +kernel
theorem d22_17 : decode method_3_code 17 = .ok (.ireturn, 1) := by decide +kernel
theorem pn_5 : plainName "com/example/idpd/idpd/TextsPrefixPinLaw" = true := by first | (simp [plainName, overriddenIn]; done) | decide +kernel
theorem ef_rmIsH (m : MethodId) (u : Int32) : entryFrame m #[(.int u)] 1 = mkF m 0 #[.val (.int u)] [] := by first | (simp [entryFrame, mkF, argsToLocals, Value.category, maxLocals]; done) | rfl
set_option maxRecDepth 65536 in
set_option maxHeartbeats 40000000 in
theorem rmIsH (l : Launch) (Z : State) (a0 : Array Value) (hw : ∀ d ∈ tables_1, d.before a0 Z = true) (ws : List Jvm.Cond) (u : Int32) (h0 : Heap) (n0 : Nat) (Z0 : n0 ≤ h0.size) :
    MetFree l (⟨"com/example/idpd/idpd/TextsPrefixPinLaw", "isHigh", "(C)Z"⟩ : MethodName) (head1 (Jvm.Cond.code (⟨"com/example/idpd/idpd/TextsPrefixPinLaw", "isHigh", "(C)Z"⟩ : MethodName) method_3_code (1 : Nat) (Option.some Jvm.ClassFile.FieldType.boolean) :: ws) ({ frames := 0, cells := 0, slots := 0, locals := 0 } : Room)) (fun aZ UZ => aZ = #[(.int u)] ∧ Z.Warmed39 UZ.vm ∧ UZ.heap = h0) (fun _ _ _ _ _ => True) (fun _ UZ oZ VZ => ∃ vZ LZ, oZ = .returned vZ ∧ (QSame (some (.int (if isH u = true then 1 else 0))) h0 n0) vZ VZ.heap LZ ∧ FrameEnd UZ oZ VZ LZ ({ frames := 0, cells := 0, slots := 0, locals := 0 } : Room).cells ({ frames := 0, cells := 0, slots := 0, locals := 0 } : Room).slots) := by
  refine MetFree.of_bodySF (plainFor_of_name pn_5) hisR ?_
  intro p e s m args below meth c s₁ Bd hml0 hP hK
  obtain ⟨rfl, hZ, hh⟩ := hP
  have hx := Bd.exec
  have hby := Bd.bytes
  have hml : c.maxLocals = 1 := hml0
  have hown : s.vm.findClass "com/example/idpd/idpd/TextsPrefixPinLaw" = some m.cls := findClass_of_methodNamed Bd.named
  have hnm := (name_of_methodNamed Bd.named Bd.method).1
  have X0 : Stand p l e ({ frames := 0, cells := 0, slots := 0, locals := 0 } : Room) s m #[(.int u)] below meth c s₁ [] 0 0 := Stand.of_body Bd
  have e0 : s₁.heap = h0 := by rw [← hh, Bd.state]; rfl
  have N0 := Fr.nil n0
  show OwnG p e below (OwnE s (QSame (some (.int (if isH u = true then 1 else 0))) h0 n0) ({ frames := 0, cells := 0, slots := 0, locals := 0 } : Room).cells ({ frames := 0, cells := 0, slots := 0, locals := 0 } : Room).slots) _
  refine own_by (S' := s₁.setTop (mkF m 0 #[.val (.int u)] [])) (fun tZ kZ => castTop (ef_rmIsH m u) kZ) ?_
  have x1 : (55296 : Int32).toInt = 55296 := rfl
  have x2 : (56319 : Int32).toInt = 56319 := rfl
  have x3 : (56320 : Int32).toInt = 56320 := rfl
  have x4 : (57343 : Int32).toInt = 57343 := rfl
  have x5 : (57344 : Int32).toInt = 57344 := rfl
  refine own_by (S' := s₁.setTop (mkF m 1 #[.val (.int u)] [(.int u)])) (fun tZ kZ => XS.iloadN X0.here hx rfl (hb hby d22_0) rfl kZ) ?_
  refine own_by (S' := s₁.setTop (mkF m 3 #[.val (.int u)] [(.int (55296 : Int32)), (.int u)])) (fun tZ kZ => X0.ldcInt hx hown (mvT hZ (hw_ hw 7 rfl)) (g := (mkF m 1 #[.val (.int u)] [(.int u)])) rfl (hb hby d22_1) _ kZ) ?_
  by_cases dg1 : u < (55296 : Int32)
  · refine own_by (S' := s₁.setTop (mkF m 16 #[.val (.int u)] [])) (fun tZ kZ => XS.icmpYes X0.here hx rfl (pc0 := 3) (pc' := 16) rfl (hb hby d22_3) rfl (tlt dg1).1 (by decide) (by decide) kZ) ?_
    refine own_by (S' := s₁.setTop (mkF m 17 #[.val (.int u)] [(.int (0 : Int32))])) (fun tZ kZ => XS.iconst X0.here hx rfl (hb hby d22_16) kZ) ?_
    have hf : ¬ isH u = true := by rw [isH_iff]; rw [own_ltI] at dg1; omega
    exact own_retI X0 hx (t := .boolean) Bd.returns (by simp) rfl (hb hby d22_17) Bd.notSynchronized (by decide) (by decide) ⟨by rw [if_neg hf], N0, e0⟩
  · refine own_by (S' := s₁.setTop (mkF m 6 #[.val (.int u)] [])) (fun tZ kZ => XS.icmpNo X0.here hx rfl (hb hby d22_3) rfl (flt dg1).1 kZ) ?_
    refine own_by (S' := s₁.setTop (mkF m 7 #[.val (.int u)] [(.int u)])) (fun tZ kZ => XS.iloadN X0.here hx rfl (hb hby d22_6) rfl kZ) ?_
    refine own_by (S' := s₁.setTop (mkF m 9 #[.val (.int u)] [(.int (56319 : Int32)), (.int u)])) (fun tZ kZ => X0.ldcInt hx hown (mvT hZ (hw_ hw 135 rfl)) (g := (mkF m 7 #[.val (.int u)] [(.int u)])) rfl (hb hby d22_7) _ kZ) ?_
    by_cases dg2 : (56319 : Int32) < u
    · refine own_by (S' := s₁.setTop (mkF m 16 #[.val (.int u)] [])) (fun tZ kZ => XS.icmpYes X0.here hx rfl (pc0 := 9) (pc' := 16) rfl (hb hby d22_9) rfl (tlt dg2).2.2.1 (by decide) (by decide) kZ) ?_
      refine own_by (S' := s₁.setTop (mkF m 17 #[.val (.int u)] [(.int (0 : Int32))])) (fun tZ kZ => XS.iconst X0.here hx rfl (hb hby d22_16) kZ) ?_
      have hf : ¬ isH u = true := by rw [isH_iff]; rw [own_ltI] at dg1 dg2; omega
      exact own_retI X0 hx (t := .boolean) Bd.returns (by simp) rfl (hb hby d22_17) Bd.notSynchronized (by decide) (by decide) ⟨by rw [if_neg hf], N0, e0⟩
    · refine own_by (S' := s₁.setTop (mkF m 12 #[.val (.int u)] [])) (fun tZ kZ => XS.icmpNo X0.here hx rfl (hb hby d22_9) rfl (flt dg2).2.2.1 kZ) ?_
      refine own_by (S' := s₁.setTop (mkF m 13 #[.val (.int u)] [(.int (1 : Int32))])) (fun tZ kZ => XS.iconst X0.here hx rfl (hb hby d22_12) kZ) ?_
      refine own_by (S' := s₁.setTop (mkF m 17 #[.val (.int u)] [(.int (1 : Int32))])) (fun tZ kZ => XS.goto X0.here hx rfl (pc0 := 13) (pc' := 17) rfl (hb hby d22_13) (by decide) (by decide) kZ) ?_
      have hf : isH u = true := by rw [isH_iff]; rw [own_ltI] at dg1 dg2; omega
      exact own_retI X0 hx (t := .boolean) Bd.returns (by simp) rfl (hb hby d22_17) Bd.notSynchronized (by decide) (by decide) ⟨by rw [if_pos hf], N0, e0⟩
theorem d32_0 : decode method_4_code 0 = .ok (.iload_n 0, 1) := by decide +kernel
theorem d32_1 : decode method_4_code 1 = .ok (.ldc 8, 2) := by decide +kernel
theorem d32_3 : decode method_4_code 3 = .ok (.if_icmp .lt 13, 3) := by decide +kernel
theorem d32_6 : decode method_4_code 6 = .ok (.iload_n 0, 1) := by decide +kernel
theorem d32_7 : decode method_4_code 7 = .ok (.ldc 11, 2) := by decide +kernel
theorem d32_9 : decode method_4_code 9 = .ok (.if_icmp .gt 7, 3) := by decide +kernel
theorem d32_12 : decode method_4_code 12 = .ok (.iconst 1, 1) := by decide +kernel
theorem d32_13 : decode method_4_code 13 = .ok (.goto 4, 3) := by decide +kernel
theorem d32_16 : decode method_4_code 16 = .ok (.iconst 0, 1) := by decide +kernel
theorem d32_17 : decode method_4_code 17 = .ok (.ireturn, 1) := by decide +kernel
theorem ef_rmIsO (m : MethodId) (u : Int32) : entryFrame m #[(.int u)] 1 = mkF m 0 #[.val (.int u)] [] := by first | (simp [entryFrame, mkF, argsToLocals, Value.category, maxLocals]; done) | rfl
set_option maxRecDepth 65536 in
set_option maxHeartbeats 40000000 in
theorem rmIsO (l : Launch) (Z : State) (a0 : Array Value) (hw : ∀ d ∈ tables_1, d.before a0 Z = true) (ws : List Jvm.Cond) (u : Int32) (h0 : Heap) (n0 : Nat) (Z0 : n0 ≤ h0.size) :
    MetFree l (⟨"com/example/idpd/idpd/TextsPrefixPinLaw", "isLow", "(C)Z"⟩ : MethodName) (head1 (Jvm.Cond.code (⟨"com/example/idpd/idpd/TextsPrefixPinLaw", "isLow", "(C)Z"⟩ : MethodName) method_4_code (1 : Nat) (Option.some Jvm.ClassFile.FieldType.boolean) :: ws) ({ frames := 0, cells := 0, slots := 0, locals := 0 } : Room)) (fun aZ UZ => aZ = #[(.int u)] ∧ Z.Warmed39 UZ.vm ∧ UZ.heap = h0) (fun _ _ _ _ _ => True) (fun _ UZ oZ VZ => ∃ vZ LZ, oZ = .returned vZ ∧ (QSame (some (.int (if isLo u = true then 1 else 0))) h0 n0) vZ VZ.heap LZ ∧ FrameEnd UZ oZ VZ LZ ({ frames := 0, cells := 0, slots := 0, locals := 0 } : Room).cells ({ frames := 0, cells := 0, slots := 0, locals := 0 } : Room).slots) := by
  refine MetFree.of_bodySF (plainFor_of_name pn_5) hisR ?_
  intro p e s m args below meth c s₁ Bd hml0 hP hK
  obtain ⟨rfl, hZ, hh⟩ := hP
  have hx := Bd.exec
  have hby := Bd.bytes
  have hml : c.maxLocals = 1 := hml0
  have hown : s.vm.findClass "com/example/idpd/idpd/TextsPrefixPinLaw" = some m.cls := findClass_of_methodNamed Bd.named
  have hnm := (name_of_methodNamed Bd.named Bd.method).1
  have X0 : Stand p l e ({ frames := 0, cells := 0, slots := 0, locals := 0 } : Room) s m #[(.int u)] below meth c s₁ [] 0 0 := Stand.of_body Bd
  have e0 : s₁.heap = h0 := by rw [← hh, Bd.state]; rfl
  have N0 := Fr.nil n0
  show OwnG p e below (OwnE s (QSame (some (.int (if isLo u = true then 1 else 0))) h0 n0) ({ frames := 0, cells := 0, slots := 0, locals := 0 } : Room).cells ({ frames := 0, cells := 0, slots := 0, locals := 0 } : Room).slots) _
  refine own_by (S' := s₁.setTop (mkF m 0 #[.val (.int u)] [])) (fun tZ kZ => castTop (ef_rmIsO m u) kZ) ?_
  have x1 : (55296 : Int32).toInt = 55296 := rfl
  have x2 : (56319 : Int32).toInt = 56319 := rfl
  have x3 : (56320 : Int32).toInt = 56320 := rfl
  have x4 : (57343 : Int32).toInt = 57343 := rfl
  have x5 : (57344 : Int32).toInt = 57344 := rfl
  refine own_by (S' := s₁.setTop (mkF m 1 #[.val (.int u)] [(.int u)])) (fun tZ kZ => XS.iloadN X0.here hx rfl (hb hby d32_0) rfl kZ) ?_
  refine own_by (S' := s₁.setTop (mkF m 3 #[.val (.int u)] [(.int (56320 : Int32)), (.int u)])) (fun tZ kZ => X0.ldcInt hx hown (mvT hZ (hw_ hw 6 rfl)) (g := (mkF m 1 #[.val (.int u)] [(.int u)])) rfl (hb hby d32_1) _ kZ) ?_
  by_cases dg1 : u < (56320 : Int32)
  · refine own_by (S' := s₁.setTop (mkF m 16 #[.val (.int u)] [])) (fun tZ kZ => XS.icmpYes X0.here hx rfl (pc0 := 3) (pc' := 16) rfl (hb hby d32_3) rfl (tlt dg1).1 (by decide) (by decide) kZ) ?_
    refine own_by (S' := s₁.setTop (mkF m 17 #[.val (.int u)] [(.int (0 : Int32))])) (fun tZ kZ => XS.iconst X0.here hx rfl (hb hby d32_16) kZ) ?_
    have hf : ¬ isLo u = true := by rw [isLo_iff]; rw [own_ltI] at dg1; omega
    exact own_retI X0 hx (t := .boolean) Bd.returns (by simp) rfl (hb hby d32_17) Bd.notSynchronized (by decide) (by decide) ⟨by rw [if_neg hf], N0, e0⟩
  · refine own_by (S' := s₁.setTop (mkF m 6 #[.val (.int u)] [])) (fun tZ kZ => XS.icmpNo X0.here hx rfl (hb hby d32_3) rfl (flt dg1).1 kZ) ?_
    refine own_by (S' := s₁.setTop (mkF m 7 #[.val (.int u)] [(.int u)])) (fun tZ kZ => XS.iloadN X0.here hx rfl (hb hby d32_6) rfl kZ) ?_
    refine own_by (S' := s₁.setTop (mkF m 9 #[.val (.int u)] [(.int (57343 : Int32)), (.int u)])) (fun tZ kZ => X0.ldcInt hx hown (mvT hZ (hw_ hw 143 rfl)) (g := (mkF m 7 #[.val (.int u)] [(.int u)])) rfl (hb hby d32_7) _ kZ) ?_
    by_cases dg2 : (57343 : Int32) < u
    · refine own_by (S' := s₁.setTop (mkF m 16 #[.val (.int u)] [])) (fun tZ kZ => XS.icmpYes X0.here hx rfl (pc0 := 9) (pc' := 16) rfl (hb hby d32_9) rfl (tlt dg2).2.2.1 (by decide) (by decide) kZ) ?_
      refine own_by (S' := s₁.setTop (mkF m 17 #[.val (.int u)] [(.int (0 : Int32))])) (fun tZ kZ => XS.iconst X0.here hx rfl (hb hby d32_16) kZ) ?_
      have hf : ¬ isLo u = true := by rw [isLo_iff]; rw [own_ltI] at dg1 dg2; omega
      exact own_retI X0 hx (t := .boolean) Bd.returns (by simp) rfl (hb hby d32_17) Bd.notSynchronized (by decide) (by decide) ⟨by rw [if_neg hf], N0, e0⟩
    · refine own_by (S' := s₁.setTop (mkF m 12 #[.val (.int u)] [])) (fun tZ kZ => XS.icmpNo X0.here hx rfl (hb hby d32_9) rfl (flt dg2).2.2.1 kZ) ?_
      refine own_by (S' := s₁.setTop (mkF m 13 #[.val (.int u)] [(.int (1 : Int32))])) (fun tZ kZ => XS.iconst X0.here hx rfl (hb hby d32_12) kZ) ?_
      refine own_by (S' := s₁.setTop (mkF m 17 #[.val (.int u)] [(.int (1 : Int32))])) (fun tZ kZ => XS.goto X0.here hx rfl (pc0 := 13) (pc' := 17) rfl (hb hby d32_13) (by decide) (by decide) kZ) ?_
      have hf : isLo u = true := by rw [isLo_iff]; rw [own_ltI] at dg1 dg2; omega
      exact own_retI X0 hx (t := .boolean) Bd.returns (by simp) rfl (hb hby d32_17) Bd.notSynchronized (by decide) (by decide) ⟨by rw [if_pos hf], N0, e0⟩
theorem d25_0 : decode jdk_89_method_14_code 0 = .ok (.iload_n 0, 1) := by decide +kernel
theorem d25_1 : decode jdk_89_method_14_code 1 = .ok (.ldc 75, 2) := by decide +kernel
theorem d25_3 : decode jdk_89_method_14_code 3 = .ok (.if_icmp .lt 13, 3) := by decide +kernel
theorem d25_6 : decode jdk_89_method_14_code 6 = .ok (.iload_n 0, 1) := by decide +kernel
theorem d25_7 : decode jdk_89_method_14_code 7 = .ok (.ldc 76, 2) := by decide +kernel
theorem d25_9 : decode jdk_89_method_14_code 9 = .ok (.if_icmp .ge 7, 3) := by decide +kernel
theorem d25_12 : decode jdk_89_method_14_code 12 = .ok (.iconst 1, 1) := by decide +kernel
theorem d25_13 : decode jdk_89_method_14_code 13 = .ok (.goto 4, 3) := by decide +kernel
theorem d25_16 : decode jdk_89_method_14_code 16 = .ok (.iconst 0, 1) := by decide +kernel
theorem d25_17 : decode jdk_89_method_14_code 17 = .ok (.ireturn, 1) := by decide +kernel
theorem pn_6 : plainName "java/lang/Character" = true := by first | (simp [plainName, overriddenIn]; done) | decide +kernel
theorem ef_rmHS (m : MethodId) (u : Int32) : entryFrame m #[(.int u)] 1 = mkF m 0 #[.val (.int u)] [] := by first | (simp [entryFrame, mkF, argsToLocals, Value.category, maxLocals]; done) | rfl
set_option maxRecDepth 65536 in
set_option maxHeartbeats 40000000 in
theorem rmHS (l : Launch) (Z : State) (a0 : Array Value) (hw : ∀ d ∈ tables_1, d.before a0 Z = true) (ws : List Jvm.Cond) (u : Int32) (h0 : Heap) (n0 : Nat) (Z0 : n0 ≤ h0.size) :
    MetFree l (⟨"java/lang/Character", "isHighSurrogate", "(C)Z"⟩ : MethodName) (head1 (Jvm.Cond.code (⟨"java/lang/Character", "isHighSurrogate", "(C)Z"⟩ : MethodName) jdk_89_method_14_code (1 : Nat) (Option.some Jvm.ClassFile.FieldType.boolean) :: ws) ({ frames := 0, cells := 0, slots := 0, locals := 0 } : Room)) (fun aZ UZ => aZ = #[(.int u)] ∧ Z.Warmed39 UZ.vm ∧ UZ.heap = h0) (fun _ _ _ _ _ => True) (fun _ UZ oZ VZ => ∃ vZ LZ, oZ = .returned vZ ∧ (QSame (some (.int (if isH u = true then 1 else 0))) h0 n0) vZ VZ.heap LZ ∧ FrameEnd UZ oZ VZ LZ ({ frames := 0, cells := 0, slots := 0, locals := 0 } : Room).cells ({ frames := 0, cells := 0, slots := 0, locals := 0 } : Room).slots) := by
  refine MetFree.of_bodySF (plainFor_of_name pn_6) hisR ?_
  intro p e s m args below meth c s₁ Bd hml0 hP hK
  obtain ⟨rfl, hZ, hh⟩ := hP
  have hx := Bd.exec
  have hby := Bd.bytes
  have hml : c.maxLocals = 1 := hml0
  have hown : s.vm.findClass "java/lang/Character" = some m.cls := findClass_of_methodNamed Bd.named
  have hnm := (name_of_methodNamed Bd.named Bd.method).1
  have X0 : Stand p l e ({ frames := 0, cells := 0, slots := 0, locals := 0 } : Room) s m #[(.int u)] below meth c s₁ [] 0 0 := Stand.of_body Bd
  have e0 : s₁.heap = h0 := by rw [← hh, Bd.state]; rfl
  have N0 := Fr.nil n0
  show OwnG p e below (OwnE s (QSame (some (.int (if isH u = true then 1 else 0))) h0 n0) ({ frames := 0, cells := 0, slots := 0, locals := 0 } : Room).cells ({ frames := 0, cells := 0, slots := 0, locals := 0 } : Room).slots) _
  refine own_by (S' := s₁.setTop (mkF m 0 #[.val (.int u)] [])) (fun tZ kZ => castTop (ef_rmHS m u) kZ) ?_
  have x1 : (55296 : Int32).toInt = 55296 := rfl
  have x2 : (56319 : Int32).toInt = 56319 := rfl
  have x3 : (56320 : Int32).toInt = 56320 := rfl
  have x4 : (57343 : Int32).toInt = 57343 := rfl
  have x5 : (57344 : Int32).toInt = 57344 := rfl
  refine own_by (S' := s₁.setTop (mkF m 1 #[.val (.int u)] [(.int u)])) (fun tZ kZ => XS.iloadN X0.here hx rfl (hb hby d25_0) rfl kZ) ?_
  refine own_by (S' := s₁.setTop (mkF m 3 #[.val (.int u)] [(.int (55296 : Int32)), (.int u)])) (fun tZ kZ => X0.ldcInt hx hown (mvT hZ (hw_ hw 113 rfl)) (g := (mkF m 1 #[.val (.int u)] [(.int u)])) rfl (hb hby d25_1) _ kZ) ?_
  by_cases dg1 : u < (55296 : Int32)
  · refine own_by (S' := s₁.setTop (mkF m 16 #[.val (.int u)] [])) (fun tZ kZ => XS.icmpYes X0.here hx rfl (pc0 := 3) (pc' := 16) rfl (hb hby d25_3) rfl (tlt dg1).1 (by decide) (by decide) kZ) ?_
    refine own_by (S' := s₁.setTop (mkF m 17 #[.val (.int u)] [(.int (0 : Int32))])) (fun tZ kZ => XS.iconst X0.here hx rfl (hb hby d25_16) kZ) ?_
    have hf : ¬ isH u = true := by rw [isH_iff]; rw [own_ltI] at dg1; omega
    exact own_retI X0 hx (t := .boolean) Bd.returns (by simp) rfl (hb hby d25_17) Bd.notSynchronized (by decide) (by decide) ⟨by rw [if_neg hf], N0, e0⟩
  · refine own_by (S' := s₁.setTop (mkF m 6 #[.val (.int u)] [])) (fun tZ kZ => XS.icmpNo X0.here hx rfl (hb hby d25_3) rfl (flt dg1).1 kZ) ?_
    refine own_by (S' := s₁.setTop (mkF m 7 #[.val (.int u)] [(.int u)])) (fun tZ kZ => XS.iloadN X0.here hx rfl (hb hby d25_6) rfl kZ) ?_
    refine own_by (S' := s₁.setTop (mkF m 9 #[.val (.int u)] [(.int (56320 : Int32)), (.int u)])) (fun tZ kZ => X0.ldcInt hx hown (mvT hZ (hw_ hw 139 rfl)) (g := (mkF m 7 #[.val (.int u)] [(.int u)])) rfl (hb hby d25_7) _ kZ) ?_
    by_cases dg2 : u < (56320 : Int32)
    · refine own_by (S' := s₁.setTop (mkF m 12 #[.val (.int u)] [])) (fun tZ kZ => XS.icmpNo X0.here hx rfl (hb hby d25_9) rfl (tlt dg2).2.1 kZ) ?_
      refine own_by (S' := s₁.setTop (mkF m 13 #[.val (.int u)] [(.int (1 : Int32))])) (fun tZ kZ => XS.iconst X0.here hx rfl (hb hby d25_12) kZ) ?_
      refine own_by (S' := s₁.setTop (mkF m 17 #[.val (.int u)] [(.int (1 : Int32))])) (fun tZ kZ => XS.goto X0.here hx rfl (pc0 := 13) (pc' := 17) rfl (hb hby d25_13) (by decide) (by decide) kZ) ?_
      have hf : isH u = true := by rw [isH_iff]; rw [own_ltI] at dg1 dg2; omega
      exact own_retI X0 hx (t := .boolean) Bd.returns (by simp) rfl (hb hby d25_17) Bd.notSynchronized (by decide) (by decide) ⟨by rw [if_pos hf], N0, e0⟩
    · refine own_by (S' := s₁.setTop (mkF m 16 #[.val (.int u)] [])) (fun tZ kZ => XS.icmpYes X0.here hx rfl (pc0 := 9) (pc' := 16) rfl (hb hby d25_9) rfl (flt dg2).2.1 (by decide) (by decide) kZ) ?_
      refine own_by (S' := s₁.setTop (mkF m 17 #[.val (.int u)] [(.int (0 : Int32))])) (fun tZ kZ => XS.iconst X0.here hx rfl (hb hby d25_16) kZ) ?_
      have hf : ¬ isH u = true := by rw [isH_iff]; rw [own_ltI] at dg1 dg2; omega
      exact own_retI X0 hx (t := .boolean) Bd.returns (by simp) rfl (hb hby d25_17) Bd.notSynchronized (by decide) (by decide) ⟨by rw [if_neg hf], N0, e0⟩
theorem d33_0 : decode jdk_89_method_15_code 0 = .ok (.iload_n 0, 1) := by decide +kernel
theorem d33_1 : decode jdk_89_method_15_code 1 = .ok (.ldc 76, 2) := by decide +kernel
theorem d33_3 : decode jdk_89_method_15_code 3 = .ok (.if_icmp .lt 13, 3) := by decide +kernel
theorem d33_6 : decode jdk_89_method_15_code 6 = .ok (.iload_n 0, 1) := by decide +kernel
theorem d33_7 : decode jdk_89_method_15_code 7 = .ok (.ldc 77, 2) := by decide +kernel
theorem d33_9 : decode jdk_89_method_15_code 9 = .ok (.if_icmp .ge 7, 3) := by decide +kernel
theorem d33_12 : decode jdk_89_method_15_code 12 = .ok (.iconst 1, 1) := by decide +kernel
theorem d33_13 : decode jdk_89_method_15_code 13 = .ok (.goto 4, 3) := by decide +kernel
theorem d33_16 : decode jdk_89_method_15_code 16 = .ok (.iconst 0, 1) := by decide +kernel
theorem d33_17 : decode jdk_89_method_15_code 17 = .ok (.ireturn, 1) := by decide +kernel
theorem ef_rmLS (m : MethodId) (u : Int32) : entryFrame m #[(.int u)] 1 = mkF m 0 #[.val (.int u)] [] := by first | (simp [entryFrame, mkF, argsToLocals, Value.category, maxLocals]; done) | rfl
set_option maxRecDepth 65536 in
set_option maxHeartbeats 40000000 in
theorem rmLS (l : Launch) (Z : State) (a0 : Array Value) (hw : ∀ d ∈ tables_1, d.before a0 Z = true) (ws : List Jvm.Cond) (u : Int32) (h0 : Heap) (n0 : Nat) (Z0 : n0 ≤ h0.size) :
    MetFree l (⟨"java/lang/Character", "isLowSurrogate", "(C)Z"⟩ : MethodName) (head1 (Jvm.Cond.code (⟨"java/lang/Character", "isLowSurrogate", "(C)Z"⟩ : MethodName) jdk_89_method_15_code (1 : Nat) (Option.some Jvm.ClassFile.FieldType.boolean) :: ws) ({ frames := 0, cells := 0, slots := 0, locals := 0 } : Room)) (fun aZ UZ => aZ = #[(.int u)] ∧ Z.Warmed39 UZ.vm ∧ UZ.heap = h0) (fun _ _ _ _ _ => True) (fun _ UZ oZ VZ => ∃ vZ LZ, oZ = .returned vZ ∧ (QSame (some (.int (if isLo u = true then 1 else 0))) h0 n0) vZ VZ.heap LZ ∧ FrameEnd UZ oZ VZ LZ ({ frames := 0, cells := 0, slots := 0, locals := 0 } : Room).cells ({ frames := 0, cells := 0, slots := 0, locals := 0 } : Room).slots) := by
  refine MetFree.of_bodySF (plainFor_of_name pn_6) hisR ?_
  intro p e s m args below meth c s₁ Bd hml0 hP hK
  obtain ⟨rfl, hZ, hh⟩ := hP
  have hx := Bd.exec
  have hby := Bd.bytes
  have hml : c.maxLocals = 1 := hml0
  have hown : s.vm.findClass "java/lang/Character" = some m.cls := findClass_of_methodNamed Bd.named
  have hnm := (name_of_methodNamed Bd.named Bd.method).1
  have X0 : Stand p l e ({ frames := 0, cells := 0, slots := 0, locals := 0 } : Room) s m #[(.int u)] below meth c s₁ [] 0 0 := Stand.of_body Bd
  have e0 : s₁.heap = h0 := by rw [← hh, Bd.state]; rfl
  have N0 := Fr.nil n0
  show OwnG p e below (OwnE s (QSame (some (.int (if isLo u = true then 1 else 0))) h0 n0) ({ frames := 0, cells := 0, slots := 0, locals := 0 } : Room).cells ({ frames := 0, cells := 0, slots := 0, locals := 0 } : Room).slots) _
  refine own_by (S' := s₁.setTop (mkF m 0 #[.val (.int u)] [])) (fun tZ kZ => castTop (ef_rmLS m u) kZ) ?_
  have x1 : (55296 : Int32).toInt = 55296 := rfl
  have x2 : (56319 : Int32).toInt = 56319 := rfl
  have x3 : (56320 : Int32).toInt = 56320 := rfl
  have x4 : (57343 : Int32).toInt = 57343 := rfl
  have x5 : (57344 : Int32).toInt = 57344 := rfl
  refine own_by (S' := s₁.setTop (mkF m 1 #[.val (.int u)] [(.int u)])) (fun tZ kZ => XS.iloadN X0.here hx rfl (hb hby d33_0) rfl kZ) ?_
  refine own_by (S' := s₁.setTop (mkF m 3 #[.val (.int u)] [(.int (56320 : Int32)), (.int u)])) (fun tZ kZ => X0.ldcInt hx hown (mvT hZ (hw_ hw 139 rfl)) (g := (mkF m 1 #[.val (.int u)] [(.int u)])) rfl (hb hby d33_1) _ kZ) ?_
  by_cases dg1 : u < (56320 : Int32)
  · refine own_by (S' := s₁.setTop (mkF m 16 #[.val (.int u)] [])) (fun tZ kZ => XS.icmpYes X0.here hx rfl (pc0 := 3) (pc' := 16) rfl (hb hby d33_3) rfl (tlt dg1).1 (by decide) (by decide) kZ) ?_
    refine own_by (S' := s₁.setTop (mkF m 17 #[.val (.int u)] [(.int (0 : Int32))])) (fun tZ kZ => XS.iconst X0.here hx rfl (hb hby d33_16) kZ) ?_
    have hf : ¬ isLo u = true := by rw [isLo_iff]; rw [own_ltI] at dg1; omega
    exact own_retI X0 hx (t := .boolean) Bd.returns (by simp) rfl (hb hby d33_17) Bd.notSynchronized (by decide) (by decide) ⟨by rw [if_neg hf], N0, e0⟩
  · refine own_by (S' := s₁.setTop (mkF m 6 #[.val (.int u)] [])) (fun tZ kZ => XS.icmpNo X0.here hx rfl (hb hby d33_3) rfl (flt dg1).1 kZ) ?_
    refine own_by (S' := s₁.setTop (mkF m 7 #[.val (.int u)] [(.int u)])) (fun tZ kZ => XS.iloadN X0.here hx rfl (hb hby d33_6) rfl kZ) ?_
    refine own_by (S' := s₁.setTop (mkF m 9 #[.val (.int u)] [(.int (57344 : Int32)), (.int u)])) (fun tZ kZ => X0.ldcInt hx hown (mvT hZ (hw_ hw 144 rfl)) (g := (mkF m 7 #[.val (.int u)] [(.int u)])) rfl (hb hby d33_7) _ kZ) ?_
    by_cases dg2 : u < (57344 : Int32)
    · refine own_by (S' := s₁.setTop (mkF m 12 #[.val (.int u)] [])) (fun tZ kZ => XS.icmpNo X0.here hx rfl (hb hby d33_9) rfl (tlt dg2).2.1 kZ) ?_
      refine own_by (S' := s₁.setTop (mkF m 13 #[.val (.int u)] [(.int (1 : Int32))])) (fun tZ kZ => XS.iconst X0.here hx rfl (hb hby d33_12) kZ) ?_
      refine own_by (S' := s₁.setTop (mkF m 17 #[.val (.int u)] [(.int (1 : Int32))])) (fun tZ kZ => XS.goto X0.here hx rfl (pc0 := 13) (pc' := 17) rfl (hb hby d33_13) (by decide) (by decide) kZ) ?_
      have hf : isLo u = true := by rw [isLo_iff]; rw [own_ltI] at dg1 dg2; omega
      exact own_retI X0 hx (t := .boolean) Bd.returns (by simp) rfl (hb hby d33_17) Bd.notSynchronized (by decide) (by decide) ⟨by rw [if_pos hf], N0, e0⟩
    · refine own_by (S' := s₁.setTop (mkF m 16 #[.val (.int u)] [])) (fun tZ kZ => XS.icmpYes X0.here hx rfl (pc0 := 9) (pc' := 16) rfl (hb hby d33_9) rfl (flt dg2).2.1 (by decide) (by decide) kZ) ?_
      refine own_by (S' := s₁.setTop (mkF m 17 #[.val (.int u)] [(.int (0 : Int32))])) (fun tZ kZ => XS.iconst X0.here hx rfl (hb hby d33_16) kZ) ?_
      have hf : ¬ isLo u = true := by rw [isLo_iff]; rw [own_ltI] at dg1 dg2; omega
      exact own_retI X0 hx (t := .boolean) Bd.returns (by simp) rfl (hb hby d33_17) Bd.notSynchronized (by decide) (by decide) ⟨by rw [if_neg hf], N0, e0⟩
theorem d1_0 : decode method_2_code 0 = .ok (.iload_n 0, 1) := by decide +kernel
theorem d1_1 : decode method_2_code 1 = .ok (.iconst 3, 1) := by decide +kernel
theorem d1_2 : decode method_2_code 2 = .ok (.iand, 1) := by decide +kernel
theorem d1_3 : decode method_2_code 3 = .ok (.istore_n 1, 1) := by decide +kernel
theorem d1_4 : decode method_2_code 4 = .ok (.iload_n 0, 1) := by decide +kernel
theorem d1_5 : decode method_2_code 5 = .ok (.iconst 2, 1) := by decide +kernel
theorem d1_6 : decode method_2_code 6 = .ok (.iushr, 1) := by decide +kernel
theorem d1_7 : decode method_2_code 7 = .ok (.istore_n 2, 1) := by decide +kernel
theorem d1_8 : decode method_2_code 8 = .ok (.iload_n 1, 1) := by decide +kernel
theorem d1_9 : decode method_2_code 9 = .ok (.ifCond .ne 10, 3) := by decide +kernel
theorem d1_12 : decode method_2_code 12 = .ok (.iload_n 2, 1) := by decide +kernel
theorem d1_13 : decode method_2_code 13 = .ok (.sipush 255, 3) := by decide +kernel
theorem d1_16 : decode method_2_code 16 = .ok (.iand, 1) := by decide +kernel
theorem d1_17 : decode method_2_code 17 = .ok (.i2c, 1) := by decide +kernel
theorem d1_18 : decode method_2_code 18 = .ok (.ireturn, 1) := by decide +kernel
theorem d1_19 : decode method_2_code 19 = .ok (.iload_n 1, 1) := by decide +kernel
theorem d1_20 : decode method_2_code 20 = .ok (.iconst 1, 1) := by decide +kernel
theorem d1_21 : decode method_2_code 21 = .ok (.if_icmp .ne 13, 3) := by decide +kernel
theorem d1_24 : decode method_2_code 24 = .ok (.ldc 7, 2) := by decide +kernel
theorem d1_26 : decode method_2_code 26 = .ok (.iload_n 2, 1) := by decide +kernel
theorem d1_27 : decode method_2_code 27 = .ok (.sipush 1023, 3) := by decide +kernel
theorem d1_30 : decode method_2_code 30 = .ok (.iand, 1) := by decide +kernel
theorem d1_31 : decode method_2_code 31 = .ok (.iadd, 1) := by decide +kernel
theorem d1_32 : decode method_2_code 32 = .ok (.i2c, 1) := by decide +kernel
theorem d1_33 : decode method_2_code 33 = .ok (.ireturn, 1) := by decide +kernel
theorem d1_34 : decode method_2_code 34 = .ok (.iload_n 1, 1) := by decide +kernel
theorem d1_35 : decode method_2_code 35 = .ok (.iconst 2, 1) := by decide +kernel
theorem d1_36 : decode method_2_code 36 = .ok (.if_icmp .ne 13, 3) := by decide +kernel
theorem d1_39 : decode method_2_code 39 = .ok (.ldc 8, 2) := by decide +kernel
theorem d1_41 : decode method_2_code 41 = .ok (.iload_n 2, 1) := by decide +kernel
theorem d1_42 : decode method_2_code 42 = .ok (.sipush 1023, 3) := by decide +kernel
theorem d1_45 : decode method_2_code 45 = .ok (.iand, 1) := by decide +kernel
theorem d1_46 : decode method_2_code 46 = .ok (.iadd, 1) := by decide +kernel
theorem d1_47 : decode method_2_code 47 = .ok (.i2c, 1) := by decide +kernel
theorem d1_48 : decode method_2_code 48 = .ok (.ireturn, 1) := by decide +kernel
theorem d1_49 : decode method_2_code 49 = .ok (.iload_n 2, 1) := by decide +kernel
theorem d1_50 : decode method_2_code 50 = .ok (.ldc 9, 2) := by decide +kernel
theorem d1_52 : decode method_2_code 52 = .ok (.iand, 1) := by decide +kernel
theorem d1_53 : decode method_2_code 53 = .ok (.i2c, 1) := by decide +kernel
theorem d1_54 : decode method_2_code 54 = .ok (.ireturn, 1) := by decide +kernel
theorem ef_rmDraw (m : MethodId) (x : Int32) : entryFrame m #[(.int x)] 3 = mkF m 0 #[.val (.int x), .unset, .unset] [] := by first | (simp [entryFrame, mkF, argsToLocals, Value.category, maxLocals]; done) | rfl
set_option maxRecDepth 65536 in
set_option maxHeartbeats 40000000 in
theorem rmDraw (l : Launch) (Z : State) (a0 : Array Value) (hw : ∀ d ∈ tables_1, d.before a0 Z = true) (ws : List Jvm.Cond) (x : Int32) (h0 : Heap) (n0 : Nat) (Z0 : n0 ≤ h0.size) :
    MetFree l (⟨"com/example/idpd/idpd/TextsPrefixPinLaw", "draw", "(I)C"⟩ : MethodName) (head1 (Jvm.Cond.code (⟨"com/example/idpd/idpd/TextsPrefixPinLaw", "draw", "(I)C"⟩ : MethodName) method_2_code (3 : Nat) (Option.some Jvm.ClassFile.FieldType.char) :: ws) ({ frames := 0, cells := 0, slots := 0, locals := 0 } : Room)) (fun aZ UZ => aZ = #[(.int x)] ∧ Z.Warmed39 UZ.vm ∧ UZ.heap = h0) (fun _ _ _ _ _ => True) (fun _ UZ oZ VZ => ∃ vZ LZ, oZ = .returned vZ ∧ (QU CU h0 n0) vZ VZ.heap LZ ∧ FrameEnd UZ oZ VZ LZ ({ frames := 0, cells := 0, slots := 0, locals := 0 } : Room).cells ({ frames := 0, cells := 0, slots := 0, locals := 0 } : Room).slots) := by
  refine MetFree.of_bodySF (plainFor_of_name pn_5) hisR ?_
  intro p e s m args below meth c s₁ Bd hml0 hP hK
  obtain ⟨rfl, hZ, hh⟩ := hP
  have hx := Bd.exec
  have hby := Bd.bytes
  have hml : c.maxLocals = 3 := hml0
  have hown : s.vm.findClass "com/example/idpd/idpd/TextsPrefixPinLaw" = some m.cls := findClass_of_methodNamed Bd.named
  have hnm := (name_of_methodNamed Bd.named Bd.method).1
  have X0 : Stand p l e ({ frames := 0, cells := 0, slots := 0, locals := 0 } : Room) s m #[(.int x)] below meth c s₁ [] 0 0 := Stand.of_body Bd
  have e0 : s₁.heap = h0 := by rw [← hh, Bd.state]; rfl
  have N0 := Fr.nil n0
  show OwnG p e below (OwnE s (QU CU h0 n0) ({ frames := 0, cells := 0, slots := 0, locals := 0 } : Room).cells ({ frames := 0, cells := 0, slots := 0, locals := 0 } : Room).slots) _
  refine own_by (S' := s₁.setTop (mkF m 0 #[.val (.int x), .unset, .unset] [])) (fun tZ kZ => castTop (ef_rmDraw m x) kZ) ?_
  refine own_by (S' := s₁.setTop (mkF m 1 #[.val (.int x), .unset, .unset] [(.int x)])) (fun tZ kZ => XS.iloadN X0.here hx rfl (hb hby d1_0) rfl kZ) ?_
  refine own_by (S' := s₁.setTop (mkF m 2 #[.val (.int x), .unset, .unset] [(.int (3 : Int32)), (.int x)])) (fun tZ kZ => XS.iconst X0.here hx rfl (hb hby d1_1) kZ) ?_
  refine own_by (S' := s₁.setTop (mkF m 3 #[.val (.int x), .unset, .unset] [(.int (x &&& (3 : Int32)))])) (fun tZ kZ => XS.iand X0.here hx rfl (hb hby d1_2) rfl kZ) ?_
  obtain ⟨v3, hv3⟩ : ∃ z : Int32, z = (x &&& (3 : Int32)) := ⟨_, rfl⟩
  rw [← hv3]
  refine own_by (S' := s₁.setTop (mkF m 4 #[.val (.int x), .val (.int v3), .unset] [])) (fun tZ kZ => XS.istoreN X0.here hx rfl (hb hby d1_3) rfl (l' := #[.val (.int x), .val (.int v3), .unset]) rfl kZ) ?_
  refine own_by (S' := s₁.setTop (mkF m 5 #[.val (.int x), .val (.int v3), .unset] [(.int x)])) (fun tZ kZ => XS.iloadN X0.here hx rfl (hb hby d1_4) rfl kZ) ?_
  refine own_by (S' := s₁.setTop (mkF m 6 #[.val (.int x), .val (.int v3), .unset] [(.int (2 : Int32)), (.int x)])) (fun tZ kZ => XS.iconst X0.here hx rfl (hb hby d1_5) kZ) ?_
  refine own_by (S' := s₁.setTop (mkF m 7 #[.val (.int x), .val (.int v3), .unset] [(.int ((x.toUInt32 >>> ((2 : Int32) &&& 31).toUInt32).toInt32))])) (fun tZ kZ => XS.iushr X0.here hx rfl (hb hby d1_6) rfl kZ) ?_
  obtain ⟨v7, hv7⟩ : ∃ z : Int32, z = ((x.toUInt32 >>> ((2 : Int32) &&& 31).toUInt32).toInt32) := ⟨_, rfl⟩
  rw [← hv7]
  refine own_by (S' := s₁.setTop (mkF m 8 #[.val (.int x), .val (.int v3), .val (.int v7)] [])) (fun tZ kZ => XS.istoreN X0.here hx rfl (hb hby d1_7) rfl (l' := #[.val (.int x), .val (.int v3), .val (.int v7)]) rfl kZ) ?_
  refine own_by (S' := s₁.setTop (mkF m 9 #[.val (.int x), .val (.int v3), .val (.int v7)] [(.int v3)])) (fun tZ kZ => XS.iloadN X0.here hx rfl (hb hby d1_8) rfl kZ) ?_
  by_cases dg0 : v3 = (0 : Int32)
  · refine own_by (S' := s₁.setTop (mkF m 12 #[.val (.int x), .val (.int v3), .val (.int v7)] [])) (fun tZ kZ => XS.ifNo X0.here hx rfl (hb hby d1_9) rfl ((if0 _ _).trans (teq dg0).2) kZ) ?_
    refine own_by (S' := s₁.setTop (mkF m 13 #[.val (.int x), .val (.int v3), .val (.int v7)] [(.int v7)])) (fun tZ kZ => XS.iloadN X0.here hx rfl (hb hby d1_12) rfl kZ) ?_
    refine own_by (S' := s₁.setTop (mkF m 16 #[.val (.int x), .val (.int v3), .val (.int v7)] [(.int (255 : Int32)), (.int v7)])) (fun tZ kZ => XS.sipush X0.here hx rfl (hb hby d1_13) kZ) ?_
    refine own_by (S' := s₁.setTop (mkF m 17 #[.val (.int x), .val (.int v3), .val (.int v7)] [(.int (v7 &&& (255 : Int32)))])) (fun tZ kZ => XS.iand X0.here hx rfl (hb hby d1_16) rfl kZ) ?_
    refine own_by (S' := s₁.setTop (mkF m 18 #[.val (.int x), .val (.int v3), .val (.int v7)] [(.int ((v7 &&& (255 : Int32)).toUInt32.toUInt16.toUInt32.toInt32))])) (fun tZ kZ => XS.i2c X0.here hx rfl (hb hby d1_17) rfl kZ) ?_
    exact own_retI X0 hx (t := .char) Bd.returns (by simp) (own_narr (own_cui _)) (hb hby d1_18) Bd.notSynchronized (by decide) (by decide) ⟨_, rfl, own_cui _, N0, e0⟩
  · refine own_by (S' := s₁.setTop (mkF m 19 #[.val (.int x), .val (.int v3), .val (.int v7)] [])) (fun tZ kZ => XS.ifYes X0.here hx rfl (pc0 := 9) (pc' := 19) rfl (hb hby d1_9) rfl ((if0 _ _).trans (feq dg0).2) (by decide) (by decide) kZ) ?_
    refine own_by (S' := s₁.setTop (mkF m 20 #[.val (.int x), .val (.int v3), .val (.int v7)] [(.int v3)])) (fun tZ kZ => XS.iloadN X0.here hx rfl (hb hby d1_19) rfl kZ) ?_
    refine own_by (S' := s₁.setTop (mkF m 21 #[.val (.int x), .val (.int v3), .val (.int v7)] [(.int (1 : Int32)), (.int v3)])) (fun tZ kZ => XS.iconst X0.here hx rfl (hb hby d1_20) kZ) ?_
    by_cases dg1 : v3 = (1 : Int32)
    · refine own_by (S' := s₁.setTop (mkF m 24 #[.val (.int x), .val (.int v3), .val (.int v7)] [])) (fun tZ kZ => XS.icmpNo X0.here hx rfl (hb hby d1_21) rfl (teq dg1).2 kZ) ?_
      refine own_by (S' := s₁.setTop (mkF m 26 #[.val (.int x), .val (.int v3), .val (.int v7)] [(.int (55296 : Int32))])) (fun tZ kZ => X0.ldcInt hx hown (mvT hZ (hw_ hw 7 rfl)) (g := (mkF m 24 #[.val (.int x), .val (.int v3), .val (.int v7)] [])) rfl (hb hby d1_24) _ kZ) ?_
      refine own_by (S' := s₁.setTop (mkF m 27 #[.val (.int x), .val (.int v3), .val (.int v7)] [(.int v7), (.int (55296 : Int32))])) (fun tZ kZ => XS.iloadN X0.here hx rfl (hb hby d1_26) rfl kZ) ?_
      refine own_by (S' := s₁.setTop (mkF m 30 #[.val (.int x), .val (.int v3), .val (.int v7)] [(.int (1023 : Int32)), (.int v7), (.int (55296 : Int32))])) (fun tZ kZ => XS.sipush X0.here hx rfl (hb hby d1_27) kZ) ?_
      refine own_by (S' := s₁.setTop (mkF m 31 #[.val (.int x), .val (.int v3), .val (.int v7)] [(.int (v7 &&& (1023 : Int32))), (.int (55296 : Int32))])) (fun tZ kZ => XS.iand X0.here hx rfl (hb hby d1_30) rfl kZ) ?_
      refine own_by (S' := s₁.setTop (mkF m 32 #[.val (.int x), .val (.int v3), .val (.int v7)] [(.int ((55296 : Int32) + (v7 &&& (1023 : Int32))))])) (fun tZ kZ => XS.iadd X0.here hx rfl (hb hby d1_31) rfl kZ) ?_
      refine own_by (S' := s₁.setTop (mkF m 33 #[.val (.int x), .val (.int v3), .val (.int v7)] [(.int (((55296 : Int32) + (v7 &&& (1023 : Int32))).toUInt32.toUInt16.toUInt32.toInt32))])) (fun tZ kZ => XS.i2c X0.here hx rfl (hb hby d1_32) rfl kZ) ?_
      exact own_retI X0 hx (t := .char) Bd.returns (by simp) (own_narr (own_cui _)) (hb hby d1_33) Bd.notSynchronized (by decide) (by decide) ⟨_, rfl, own_cui _, N0, e0⟩
    · refine own_by (S' := s₁.setTop (mkF m 34 #[.val (.int x), .val (.int v3), .val (.int v7)] [])) (fun tZ kZ => XS.icmpYes X0.here hx rfl (pc0 := 21) (pc' := 34) rfl (hb hby d1_21) rfl (feq dg1).2 (by decide) (by decide) kZ) ?_
      refine own_by (S' := s₁.setTop (mkF m 35 #[.val (.int x), .val (.int v3), .val (.int v7)] [(.int v3)])) (fun tZ kZ => XS.iloadN X0.here hx rfl (hb hby d1_34) rfl kZ) ?_
      refine own_by (S' := s₁.setTop (mkF m 36 #[.val (.int x), .val (.int v3), .val (.int v7)] [(.int (2 : Int32)), (.int v3)])) (fun tZ kZ => XS.iconst X0.here hx rfl (hb hby d1_35) kZ) ?_
      by_cases dg2 : v3 = (2 : Int32)
      · refine own_by (S' := s₁.setTop (mkF m 39 #[.val (.int x), .val (.int v3), .val (.int v7)] [])) (fun tZ kZ => XS.icmpNo X0.here hx rfl (hb hby d1_36) rfl (teq dg2).2 kZ) ?_
        refine own_by (S' := s₁.setTop (mkF m 41 #[.val (.int x), .val (.int v3), .val (.int v7)] [(.int (56320 : Int32))])) (fun tZ kZ => X0.ldcInt hx hown (mvT hZ (hw_ hw 6 rfl)) (g := (mkF m 39 #[.val (.int x), .val (.int v3), .val (.int v7)] [])) rfl (hb hby d1_39) _ kZ) ?_
        refine own_by (S' := s₁.setTop (mkF m 42 #[.val (.int x), .val (.int v3), .val (.int v7)] [(.int v7), (.int (56320 : Int32))])) (fun tZ kZ => XS.iloadN X0.here hx rfl (hb hby d1_41) rfl kZ) ?_
        refine own_by (S' := s₁.setTop (mkF m 45 #[.val (.int x), .val (.int v3), .val (.int v7)] [(.int (1023 : Int32)), (.int v7), (.int (56320 : Int32))])) (fun tZ kZ => XS.sipush X0.here hx rfl (hb hby d1_42) kZ) ?_
        refine own_by (S' := s₁.setTop (mkF m 46 #[.val (.int x), .val (.int v3), .val (.int v7)] [(.int (v7 &&& (1023 : Int32))), (.int (56320 : Int32))])) (fun tZ kZ => XS.iand X0.here hx rfl (hb hby d1_45) rfl kZ) ?_
        refine own_by (S' := s₁.setTop (mkF m 47 #[.val (.int x), .val (.int v3), .val (.int v7)] [(.int ((56320 : Int32) + (v7 &&& (1023 : Int32))))])) (fun tZ kZ => XS.iadd X0.here hx rfl (hb hby d1_46) rfl kZ) ?_
        refine own_by (S' := s₁.setTop (mkF m 48 #[.val (.int x), .val (.int v3), .val (.int v7)] [(.int (((56320 : Int32) + (v7 &&& (1023 : Int32))).toUInt32.toUInt16.toUInt32.toInt32))])) (fun tZ kZ => XS.i2c X0.here hx rfl (hb hby d1_47) rfl kZ) ?_
        exact own_retI X0 hx (t := .char) Bd.returns (by simp) (own_narr (own_cui _)) (hb hby d1_48) Bd.notSynchronized (by decide) (by decide) ⟨_, rfl, own_cui _, N0, e0⟩
      · refine own_by (S' := s₁.setTop (mkF m 49 #[.val (.int x), .val (.int v3), .val (.int v7)] [])) (fun tZ kZ => XS.icmpYes X0.here hx rfl (pc0 := 36) (pc' := 49) rfl (hb hby d1_36) rfl (feq dg2).2 (by decide) (by decide) kZ) ?_
        refine own_by (S' := s₁.setTop (mkF m 50 #[.val (.int x), .val (.int v3), .val (.int v7)] [(.int v7)])) (fun tZ kZ => XS.iloadN X0.here hx rfl (hb hby d1_49) rfl kZ) ?_
        refine own_by (S' := s₁.setTop (mkF m 52 #[.val (.int x), .val (.int v3), .val (.int v7)] [(.int (65535 : Int32)), (.int v7)])) (fun tZ kZ => X0.ldcInt hx hown (mvT hZ (hw_ hw 8 rfl)) (g := (mkF m 50 #[.val (.int x), .val (.int v3), .val (.int v7)] [(.int v7)])) rfl (hb hby d1_50) _ kZ) ?_
        refine own_by (S' := s₁.setTop (mkF m 53 #[.val (.int x), .val (.int v3), .val (.int v7)] [(.int (v7 &&& (65535 : Int32)))])) (fun tZ kZ => XS.iand X0.here hx rfl (hb hby d1_52) rfl kZ) ?_
        refine own_by (S' := s₁.setTop (mkF m 54 #[.val (.int x), .val (.int v3), .val (.int v7)] [(.int ((v7 &&& (65535 : Int32)).toUInt32.toUInt16.toUInt32.toInt32))])) (fun tZ kZ => XS.i2c X0.here hx rfl (hb hby d1_53) rfl kZ) ?_
        exact own_retI X0 hx (t := .char) Bd.returns (by simp) (own_narr (own_cui _)) (hb hby d1_54) Bd.notSynchronized (by decide) (by decide) ⟨_, rfl, own_cui _, N0, e0⟩
theorem d21_0 : decode method_5_code 0 = .ok (.iload_n 2, 1) := by decide +kernel
theorem d21_1 : decode method_5_code 1 = .ok (.iconst 1, 1) := by decide +kernel
theorem d21_2 : decode method_5_code 2 = .ok (.iadd, 1) := by decide +kernel
theorem d21_3 : decode method_5_code 3 = .ok (.iload_n 1, 1) := by decide +kernel
theorem d21_4 : decode method_5_code 4 = .ok (.if_icmp .ge 27, 3) := by decide +kernel
theorem d21_7 : decode method_5_code 7 = .ok (.aload_n 0, 1) := by decide +kernel
theorem d21_8 : decode method_5_code 8 = .ok (.iload_n 2, 1) := by decide +kernel
theorem d21_9 : decode method_5_code 9 = .ok (.caload, 1) := by decide +kernel
theorem d21_10 : decode method_5_code 10 = .ok (.invokestatic 12, 3) := by decide +kernel
theorem d21_13 : decode method_5_code 13 = .ok (.ifCond .eq 18, 3) := by decide +kernel
theorem d21_16 : decode method_5_code 16 = .ok (.aload_n 0, 1) := by decide +kernel
theorem d21_17 : decode method_5_code 17 = .ok (.iload_n 2, 1) := by decide +kernel
theorem d21_18 : decode method_5_code 18 = .ok (.iconst 1, 1) := by decide +kernel
theorem d21_19 : decode method_5_code 19 = .ok (.iadd, 1) := by decide +kernel
theorem d21_20 : decode method_5_code 20 = .ok (.caload, 1) := by decide +kernel
theorem d21_21 : decode method_5_code 21 = .ok (.invokestatic 18, 3) := by decide +kernel
theorem d21_24 : decode method_5_code 24 = .ok (.ifCond .eq 7, 3) := by decide +kernel
theorem d21_27 : decode method_5_code 27 = .ok (.iload_n 2, 1) := by decide +kernel
theorem d21_28 : decode method_5_code 28 = .ok (.iconst 2, 1) := by decide +kernel
theorem d21_29 : decode method_5_code 29 = .ok (.iadd, 1) := by decide +kernel
theorem d21_30 : decode method_5_code 30 = .ok (.ireturn, 1) := by decide +kernel
theorem d21_31 : decode method_5_code 31 = .ok (.iload_n 2, 1) := by decide +kernel
theorem d21_32 : decode method_5_code 32 = .ok (.iconst 1, 1) := by decide +kernel
theorem d21_33 : decode method_5_code 33 = .ok (.iadd, 1) := by decide +kernel
theorem d21_34 : decode method_5_code 34 = .ok (.ireturn, 1) := by decide +kernel
theorem ef_rmStep (m : MethodId) (ca : Addr) (n : Int32) (i : Int32) : entryFrame m #[(.ref ca), (.int n), (.int i)] 3 = mkF m 0 #[.val (.ref ca), .val (.int n), .val (.int i)] [] := by first | (simp [entryFrame, mkF, argsToLocals, Value.category, maxLocals]; done) | rfl
set_option maxRecDepth 65536 in
set_option maxHeartbeats 40000000 in
theorem rmStep (l : Launch) (Z : State) (a0 : Array Value) (hw : ∀ d ∈ tables_1, d.before a0 Z = true) (ws : List Jvm.Cond) (ca : Addr) (kc : ClassId) (us : List Int32) (n i : Int32) (N k : Nat) (h0 : Heap) (n0 : Nat) (Z0 : n0 ≤ h0.size) (V_c : OwnA Z h0 ca kc .char (cV us)) (hl : us.length = 4) (hn : n.toInt = N) (hN : N ≤ 4) (hi : i.toInt = k) (hk : k < N) :
    MetFree l (⟨"com/example/idpd/idpd/TextsPrefixPinLaw", "step", "([CII)I"⟩ : MethodName) (head1 (Jvm.Cond.code (⟨"com/example/idpd/idpd/TextsPrefixPinLaw", "step", "([CII)I"⟩ : MethodName) method_5_code (3 : Nat) (Option.some Jvm.ClassFile.FieldType.int) :: ws) ({ frames := 1, cells := 0, slots := 0, locals := 12 } : Room)) (fun aZ UZ => aZ = #[(.ref ca), (.int n), (.int i)] ∧ Z.Warmed39 UZ.vm ∧ UZ.heap = h0) (fun _ _ _ _ _ => True) (fun _ UZ oZ VZ => ∃ vZ LZ, oZ = .returned vZ ∧ (QU (fun z => z.toInt = ((tStep (pr us) N k : Nat) : Int)) h0 n0) vZ VZ.heap LZ ∧ FrameEnd UZ oZ VZ LZ ({ frames := 1, cells := 0, slots := 0, locals := 12 } : Room).cells ({ frames := 1, cells := 0, slots := 0, locals := 12 } : Room).slots) := by
  refine MetFree.of_bodySF (plainFor_of_name pn_5) hisR ?_
  intro p e s m args below meth c s₁ Bd hml0 hP hK
  obtain ⟨rfl, hZ, hh⟩ := hP
  have hx := Bd.exec
  have hby := Bd.bytes
  have hml : c.maxLocals = 3 := hml0
  have hown : s.vm.findClass "com/example/idpd/idpd/TextsPrefixPinLaw" = some m.cls := findClass_of_methodNamed Bd.named
  have hnm := (name_of_methodNamed Bd.named Bd.method).1
  have X0 : Stand p l e ({ frames := 1, cells := 0, slots := 0, locals := 12 } : Room) s m #[(.ref ca), (.int n), (.int i)] below meth c s₁ [] 0 0 := Stand.of_body Bd
  have e0 : s₁.heap = h0 := by rw [← hh, Bd.state]; rfl
  have N0 := Fr.nil n0
  show OwnG p e below (OwnE s (QU (fun z => z.toInt = ((tStep (pr us) N k : Nat) : Int)) h0 n0) ({ frames := 1, cells := 0, slots := 0, locals := 12 } : Room).cells ({ frames := 1, cells := 0, slots := 0, locals := 12 } : Room).slots) _
  refine own_by (S' := s₁.setTop (mkF m 0 #[.val (.ref ca), .val (.int n), .val (.int i)] [])) (fun tZ kZ => castTop (ef_rmStep m ca n i) kZ) ?_
  have hi1 : (i + (1 : Int32)).toInt = ((k + 1 : Nat) : Int) := own_inc hi (by omega)
  obtain ⟨u, hu, -⟩ := own_getq (us := us) (k := k) (by omega)
  refine own_by (S' := s₁.setTop (mkF m 1 #[.val (.ref ca), .val (.int n), .val (.int i)] [(.int i)])) (fun tZ kZ => XS.iloadN X0.here hx rfl (hb hby d21_0) rfl kZ) ?_
  refine own_by (S' := s₁.setTop (mkF m 2 #[.val (.ref ca), .val (.int n), .val (.int i)] [(.int (1 : Int32)), (.int i)])) (fun tZ kZ => XS.iconst X0.here hx rfl (hb hby d21_1) kZ) ?_
  refine own_by (S' := s₁.setTop (mkF m 3 #[.val (.ref ca), .val (.int n), .val (.int i)] [(.int (i + (1 : Int32)))])) (fun tZ kZ => XS.iadd X0.here hx rfl (hb hby d21_2) rfl kZ) ?_
  refine own_by (S' := s₁.setTop (mkF m 4 #[.val (.ref ca), .val (.int n), .val (.int i)] [(.int n), (.int (i + (1 : Int32)))])) (fun tZ kZ => XS.iloadN X0.here hx rfl (hb hby d21_3) rfl kZ) ?_
  by_cases dg1 : (i + (1 : Int32)) < n
  · refine own_by (S' := s₁.setTop (mkF m 7 #[.val (.ref ca), .val (.int n), .val (.int i)] [])) (fun tZ kZ => XS.icmpNo X0.here hx rfl (hb hby d21_4) rfl (tlt dg1).2.1 kZ) ?_
    have dg2 := (own_lt hi1 hn).mp dg1
    obtain ⟨u2, hu2, -⟩ := own_getq (us := us) (k := k + 1) (by omega)
    refine own_by (S' := s₁.setTop (mkF m 8 #[.val (.ref ca), .val (.int n), .val (.int i)] [(.ref ca)])) (fun tZ kZ => XS.aloadN X0.here hx rfl (hb hby d21_7) rfl rfl kZ) ?_
    refine own_by (S' := s₁.setTop (mkF m 9 #[.val (.ref ca), .val (.int n), .val (.int i)] [(.int i), (.ref ca)])) (fun tZ kZ => XS.iloadN X0.here hx rfl (hb hby d21_8) rfl kZ) ?_
    obtain ⟨cc1, Ar1, hc1, hl1⟩ := id V_c
    refine own_by (S' := s₁.setTop (mkF m 10 #[.val (.ref ca), .val (.int n), .val (.int i)] [(.int u)])) (fun tZ kZ => X0.caload hx (j := i) (v := (.int u)) (by rw [e0]; exact Ar1.1) (State.isArrayOf_alike hZ.alike Ar1.2.1) Ar1.2.2 (OwnA.inb (j := i) hl1 (own_nneg hi) (by rw [own_tnc hi, cV_len]; omega)) (OwnA.at (j := i) hl1 (by rw [own_tnc hi]; exact cV_at hu)) (g := (mkF m 9 #[.val (.ref ca), .val (.int n), .val (.int i)] [(.int i), (.ref ca)])) rfl rfl (hb hby d21_9) _ kZ) ?_
    obtain ⟨_, _, ⟨T2, L2, k2, n2⟩, -, X2, ⟨Lc2, hQ2, l2, y2, z2⟩, st2⟩ := Jvm.LawKit.callS X0 hx (y := (⟨"com/example/idpd/idpd/TextsPrefixPinLaw", "isHigh", "(C)Z"⟩ : MethodName)) hown (mvT hZ (hw_ hw 100 rfl)) (mvT hZ (hw_ hw 101 rfl)) (mvT hZ (hw_ hw 4 rfl)) (mvT hZ (hw_ hw 102 rfl)) (by decide) (backOf (W := 0) (rmIsH l Z a0 hw [] u h0 n0 Z0) hZ (hw_ hw 102 rfl) (hw_ hw 4 rfl) (by decide) (by decide)) (g := (mkF m 10 #[.val (.ref ca), .val (.int n), .val (.int i)] [(.int u)])) rfl (by rw [hml]; rfl) (argsL := [(.int u)]) (rest := []) (lenOf pd_8 rfl) rfl (by show 2 * 0 + _ ≤ _; exact Nat.le_of_eq rfl) (hb hby d21_10) (fun _ _ => ⟨rfl, e0, (by decide : 0 + 0 ≤ _), (by decide : 0 + 0 ≤ _)⟩)
    dsimp only [Pt.U, Pt.locs, Pt.cells, Pt.slots] at X2 l2 y2 z2 st2 hQ2
    subst l2 y2 z2
    obtain ⟨rfl, N2q, heq2⟩ := hQ2
    have N2 := Fr.app N0 N2q
    refine own_by (S' := T2.setTop (mkF m 13 #[.val (.ref ca), .val (.int n), .val (.int i)] [(.int (if isH u = true then (1 : Int32) else 0))])) (fun tZ kZ => st2 _ kZ) ?_
    by_cases gH : isH u = true
    · rw [if_pos gH]
      refine own_by (S' := T2.setTop (mkF m 16 #[.val (.ref ca), .val (.int n), .val (.int i)] [])) (fun tZ kZ => XS.ifNo X2.here hx rfl (hb hby d21_13) rfl ((if0 _ _).trans (feq (by decide)).1) kZ) ?_
      refine own_by (S' := T2.setTop (mkF m 17 #[.val (.ref ca), .val (.int n), .val (.int i)] [(.ref ca)])) (fun tZ kZ => XS.aloadN X2.here hx rfl (hb hby d21_16) rfl rfl kZ) ?_
      refine own_by (S' := T2.setTop (mkF m 18 #[.val (.ref ca), .val (.int n), .val (.int i)] [(.int i), (.ref ca)])) (fun tZ kZ => XS.iloadN X2.here hx rfl (hb hby d21_17) rfl kZ) ?_
      refine own_by (S' := T2.setTop (mkF m 19 #[.val (.ref ca), .val (.int n), .val (.int i)] [(.int (1 : Int32)), (.int i), (.ref ca)])) (fun tZ kZ => XS.iconst X2.here hx rfl (hb hby d21_18) kZ) ?_
      refine own_by (S' := T2.setTop (mkF m 20 #[.val (.ref ca), .val (.int n), .val (.int i)] [(.int (i + (1 : Int32))), (.ref ca)])) (fun tZ kZ => XS.iadd X2.here hx rfl (hb hby d21_19) rfl kZ) ?_
      obtain ⟨cc3, Ar3, hc3, hl3⟩ := id V_c
      refine own_by (S' := T2.setTop (mkF m 21 #[.val (.ref ca), .val (.int n), .val (.int i)] [(.int u2)])) (fun tZ kZ => X2.caload hx (j := (i + (1 : Int32))) (v := (.int u2)) (by rw [heq2]; exact Ar3.1) (State.isArrayOf_alike hZ.alike Ar3.2.1) Ar3.2.2 (OwnA.inb (j := (i + (1 : Int32))) hl3 (own_nneg hi1) (by rw [own_tnc hi1, cV_len]; omega)) (OwnA.at (j := (i + (1 : Int32))) hl3 (by rw [own_tnc hi1]; exact cV_at hu2)) (g := (mkF m 20 #[.val (.ref ca), .val (.int n), .val (.int i)] [(.int (i + (1 : Int32))), (.ref ca)])) rfl rfl (hb hby d21_20) _ kZ) ?_
      obtain ⟨_, _, ⟨T4, L4, k4, n4⟩, -, X4, ⟨Lc4, hQ4, l4, y4, z4⟩, st4⟩ := Jvm.LawKit.callS X2 hx (y := (⟨"com/example/idpd/idpd/TextsPrefixPinLaw", "isLow", "(C)Z"⟩ : MethodName)) hown (mvT hZ (hw_ hw 136 rfl)) (mvT hZ (hw_ hw 137 rfl)) (mvT hZ (hw_ hw 4 rfl)) (mvT hZ (hw_ hw 138 rfl)) (by decide) (backOf (W := 0) (rmIsO l Z a0 hw [] u2 h0 n0 Z0) hZ (hw_ hw 138 rfl) (hw_ hw 4 rfl) (by decide) (by decide)) (g := (mkF m 21 #[.val (.ref ca), .val (.int n), .val (.int i)] [(.int u2)])) rfl (by rw [hml]; rfl) (argsL := [(.int u2)]) (rest := []) (lenOf pd_8 rfl) rfl (by show 2 * 0 + _ ≤ _; exact Nat.le_of_eq rfl) (hb hby d21_21) (fun _ _ => ⟨rfl, heq2, (by decide : 0 + 0 ≤ _), (by decide : 0 + 0 ≤ _)⟩)
      dsimp only [Pt.U, Pt.locs, Pt.cells, Pt.slots] at X4 l4 y4 z4 st4 hQ4
      subst l4 y4 z4
      obtain ⟨rfl, N4q, heq4⟩ := hQ4
      have N4 := Fr.app N2 N4q
      refine own_by (S' := T4.setTop (mkF m 24 #[.val (.ref ca), .val (.int n), .val (.int i)] [(.int (if isLo u2 = true then (1 : Int32) else 0))])) (fun tZ kZ => st4 _ kZ) ?_
      by_cases gL : isLo u2 = true
      · rw [if_pos gL]
        refine own_by (S' := T4.setTop (mkF m 27 #[.val (.ref ca), .val (.int n), .val (.int i)] [])) (fun tZ kZ => XS.ifNo X4.here hx rfl (hb hby d21_24) rfl ((if0 _ _).trans (feq (by decide)).1) kZ) ?_
        refine own_by (S' := T4.setTop (mkF m 28 #[.val (.ref ca), .val (.int n), .val (.int i)] [(.int i)])) (fun tZ kZ => XS.iloadN X4.here hx rfl (hb hby d21_27) rfl kZ) ?_
        refine own_by (S' := T4.setTop (mkF m 29 #[.val (.ref ca), .val (.int n), .val (.int i)] [(.int (2 : Int32)), (.int i)])) (fun tZ kZ => XS.iconst X4.here hx rfl (hb hby d21_28) kZ) ?_
        refine own_by (S' := T4.setTop (mkF m 30 #[.val (.ref ca), .val (.int n), .val (.int i)] [(.int (i + (2 : Int32)))])) (fun tZ kZ => XS.iadd X4.here hx rfl (hb hby d21_29) rfl kZ) ?_
        exact own_retI X4 hx (t := .int) Bd.returns (by simp) rfl (hb hby d21_30) Bd.notSynchronized (by decide) (by decide) ⟨_, rfl, (by rw [tStep_2 dg2 (pr_t hu hu2 gH gL)]; exact own_inc2 hi (by omega)), N4, heq4⟩
      · rw [if_neg gL]
        refine own_by (S' := T4.setTop (mkF m 31 #[.val (.ref ca), .val (.int n), .val (.int i)] [])) (fun tZ kZ => XS.ifYes X4.here hx rfl (pc0 := 24) (pc' := 31) rfl (hb hby d21_24) rfl ((if0 _ _).trans (teq rfl).1) (by decide) (by decide) kZ) ?_
        refine own_by (S' := T4.setTop (mkF m 32 #[.val (.ref ca), .val (.int n), .val (.int i)] [(.int i)])) (fun tZ kZ => XS.iloadN X4.here hx rfl (hb hby d21_31) rfl kZ) ?_
        refine own_by (S' := T4.setTop (mkF m 33 #[.val (.ref ca), .val (.int n), .val (.int i)] [(.int (1 : Int32)), (.int i)])) (fun tZ kZ => XS.iconst X4.here hx rfl (hb hby d21_32) kZ) ?_
        refine own_by (S' := T4.setTop (mkF m 34 #[.val (.ref ca), .val (.int n), .val (.int i)] [(.int (i + (1 : Int32)))])) (fun tZ kZ => XS.iadd X4.here hx rfl (hb hby d21_33) rfl kZ) ?_
        exact own_retI X4 hx (t := .int) Bd.returns (by simp) rfl (hb hby d21_34) Bd.notSynchronized (by decide) (by decide) ⟨_, rfl, (by rw [tStep_b (pr_f1 hu2 gL)]; exact hi1), N4, heq4⟩
    · rw [if_neg gH]
      refine own_by (S' := T2.setTop (mkF m 31 #[.val (.ref ca), .val (.int n), .val (.int i)] [])) (fun tZ kZ => XS.ifYes X2.here hx rfl (pc0 := 13) (pc' := 31) rfl (hb hby d21_13) rfl ((if0 _ _).trans (teq rfl).1) (by decide) (by decide) kZ) ?_
      refine own_by (S' := T2.setTop (mkF m 32 #[.val (.ref ca), .val (.int n), .val (.int i)] [(.int i)])) (fun tZ kZ => XS.iloadN X2.here hx rfl (hb hby d21_31) rfl kZ) ?_
      refine own_by (S' := T2.setTop (mkF m 33 #[.val (.ref ca), .val (.int n), .val (.int i)] [(.int (1 : Int32)), (.int i)])) (fun tZ kZ => XS.iconst X2.here hx rfl (hb hby d21_32) kZ) ?_
      refine own_by (S' := T2.setTop (mkF m 34 #[.val (.ref ca), .val (.int n), .val (.int i)] [(.int (i + (1 : Int32)))])) (fun tZ kZ => XS.iadd X2.here hx rfl (hb hby d21_33) rfl kZ) ?_
      exact own_retI X2 hx (t := .int) Bd.returns (by simp) rfl (hb hby d21_34) Bd.notSynchronized (by decide) (by decide) ⟨_, rfl, (by rw [tStep_b (pr_f0 hu gH)]; exact hi1), N2, heq2⟩
  · refine own_by (S' := s₁.setTop (mkF m 31 #[.val (.ref ca), .val (.int n), .val (.int i)] [])) (fun tZ kZ => XS.icmpYes X0.here hx rfl (pc0 := 4) (pc' := 31) rfl (hb hby d21_4) rfl (flt dg1).2.1 (by decide) (by decide) kZ) ?_
    refine own_by (S' := s₁.setTop (mkF m 32 #[.val (.ref ca), .val (.int n), .val (.int i)] [(.int i)])) (fun tZ kZ => XS.iloadN X0.here hx rfl (hb hby d21_31) rfl kZ) ?_
    refine own_by (S' := s₁.setTop (mkF m 33 #[.val (.ref ca), .val (.int n), .val (.int i)] [(.int (1 : Int32)), (.int i)])) (fun tZ kZ => XS.iconst X0.here hx rfl (hb hby d21_32) kZ) ?_
    refine own_by (S' := s₁.setTop (mkF m 34 #[.val (.ref ca), .val (.int n), .val (.int i)] [(.int (i + (1 : Int32)))])) (fun tZ kZ => XS.iadd X0.here hx rfl (hb hby d21_33) rfl kZ) ?_
    exact own_retI X0 hx (t := .int) Bd.returns (by simp) rfl (hb hby d21_34) Bd.notSynchronized (by decide) (by decide) ⟨_, rfl, (by rw [tStep_a (fun q => dg1 ((own_lt hi1 hn).mpr q))]; exact hi1), N0, e0⟩
theorem d24_0 : decode jdk_52_method_11_code 0 = .ok (.getstatic 44, 3) := by decide +kernel
theorem d24_3 : decode jdk_52_method_11_code 3 = .ok (.ifCond .ne 16, 3) := by decide +kernel
theorem d24_6 : decode jdk_52_method_11_code 6 = .ok (.iload_n 1, 1) := by decide +kernel
theorem d24_7 : decode jdk_52_method_11_code 7 = .ok (.iload_n 2, 1) := by decide +kernel
theorem d24_8 : decode jdk_52_method_11_code 8 = .ok (.if_icmp .le 11, 3) := by decide +kernel
theorem d24_11 : decode jdk_52_method_11_code 11 = .ok (.new 52, 3) := by decide +kernel
theorem d24_14 : decode jdk_52_method_11_code 14 = .ok (.dup, 1) := by decide +kernel
theorem d24_15 : decode jdk_52_method_11_code 15 = .ok (.invokespecial 66, 3) := by decide +kernel
theorem d24_18 : decode jdk_52_method_11_code 18 = .ok (.athrow, 1) := by decide +kernel
theorem d24_19 : decode jdk_52_method_11_code 19 = .ok (.iload_n 2, 1) := by decide +kernel
theorem d24_20 : decode jdk_52_method_11_code 20 = .ok (.iload_n 1, 1) := by decide +kernel
theorem d24_21 : decode jdk_52_method_11_code 21 = .ok (.isub, 1) := by decide +kernel
theorem d24_22 : decode jdk_52_method_11_code 22 = .ok (.istore 4, 2) := by decide +kernel
theorem d24_24 : decode jdk_52_method_11_code 24 = .ok (.iload_n 1, 1) := by decide +kernel
theorem d24_25 : decode jdk_52_method_11_code 25 = .ok (.istore 5, 2) := by decide +kernel
theorem d24_27 : decode jdk_52_method_11_code 27 = .ok (.iload_n 3, 1) := by decide +kernel
theorem d24_28 : decode jdk_52_method_11_code 28 = .ok (.ifCond .eq 16, 3) := by decide +kernel
theorem d24_31 : decode jdk_52_method_11_code 31 = .ok (.iload 5, 2) := by decide +kernel
theorem d24_33 : decode jdk_52_method_11_code 33 = .ok (.iload_n 2, 1) := by decide +kernel
theorem d24_34 : decode jdk_52_method_11_code 34 = .ok (.if_icmp .ge 10, 3) := by decide +kernel
theorem d24_37 : decode jdk_52_method_11_code 37 = .ok (.iload 5, 2) := by decide +kernel
theorem d24_39 : decode jdk_52_method_11_code 39 = .ok (.iload_n 2, 1) := by decide +kernel
theorem d24_40 : decode jdk_52_method_11_code 40 = .ok (.aload_n 0, 1) := by decide +kernel
theorem d24_41 : decode jdk_52_method_11_code 41 = .ok (.invokestatic 96, 3) := by decide +kernel
theorem d24_44 : decode jdk_52_method_11_code 44 = .ok (.iload 5, 2) := by decide +kernel
theorem d24_46 : decode jdk_52_method_11_code 46 = .ok (.iload_n 2, 1) := by decide +kernel
theorem d24_47 : decode jdk_52_method_11_code 47 = .ok (.iconst 1, 1) := by decide +kernel
theorem d24_48 : decode jdk_52_method_11_code 48 = .ok (.isub, 1) := by decide +kernel
theorem d24_49 : decode jdk_52_method_11_code 49 = .ok (.if_icmp .ge 39, 3) := by decide +kernel
theorem d24_52 : decode jdk_52_method_11_code 52 = .ok (.aload_n 0, 1) := by decide +kernel
theorem d24_53 : decode jdk_52_method_11_code 53 = .ok (.iload 5, 2) := by decide +kernel
theorem d24_55 : decode jdk_52_method_11_code 55 = .ok (.iinc 5 1, 3) := by decide +kernel
theorem d24_58 : decode jdk_52_method_11_code 58 = .ok (.invokestatic 71, 3) := by decide +kernel
theorem d24_61 : decode jdk_52_method_11_code 61 = .ok (.invokestatic 75, 3) := by decide +kernel
theorem d24_64 : decode jdk_52_method_11_code 64 = .ok (.ifCond .eq (-20), 3) := by decide +kernel
theorem d24_67 : decode jdk_52_method_11_code 67 = .ok (.aload_n 0, 1) := by decide +kernel
theorem d24_68 : decode jdk_52_method_11_code 68 = .ok (.iload 5, 2) := by decide +kernel
theorem d24_70 : decode jdk_52_method_11_code 70 = .ok (.invokestatic 71, 3) := by decide +kernel
theorem d24_73 : decode jdk_52_method_11_code 73 = .ok (.invokestatic 81, 3) := by decide +kernel
theorem d24_76 : decode jdk_52_method_11_code 76 = .ok (.ifCond .eq (-32), 3) := by decide +kernel
theorem d24_79 : decode jdk_52_method_11_code 79 = .ok (.iinc 4 (-1), 3) := by decide +kernel
theorem d24_82 : decode jdk_52_method_11_code 82 = .ok (.iinc 5 1, 3) := by decide +kernel
theorem d24_85 : decode jdk_52_method_11_code 85 = .ok (.goto (-41), 3) := by decide +kernel
theorem d24_88 : decode jdk_52_method_11_code 88 = .ok (.iload 4, 2) := by decide +kernel
theorem d24_90 : decode jdk_52_method_11_code 90 = .ok (.ireturn, 1) := by decide +kernel
theorem ef_rmCp4 (m : MethodId) (b : Addr) (n : Int32) : entryFrame m #[(.ref b), (.int (0 : Int32)), (.int n), (.int (0 : Int32))] 6 = mkF m 0 #[.val (.ref b), .val (.int (0 : Int32)), .val (.int n), .val (.int (0 : Int32)), .unset, .unset] [] := by first | (simp [entryFrame, mkF, argsToLocals, Value.category, maxLocals]; done) | rfl
set_option maxRecDepth 65536 in
set_option maxHeartbeats 40000000 in
theorem rmCp4 (l : Launch) (Z : State) (a0 : Array Value) (hw : ∀ d ∈ tables_1, d.before a0 Z = true) (ws : List Jvm.Cond) (b : Addr) (kb : ClassId) (us : List Int32) (n : Int32) (cz : Int32) (fm : Value) (h0 : Heap) (n0 : Nat) (Z0 : n0 ≤ h0.size) (V_b : OwnA Z h0 b kb .byte (bU us)) (hl : us.length ≤ 4) (hn : n.toInt = us.length) (hus : ∀ q ∈ us, CU q) (W : OwnW Z h0 cz fm) :
    MetFree l (⟨"java/lang/StringUTF16", "codePointCount", "([BIIZ)I"⟩ : MethodName) (head1 (Jvm.Cond.code (⟨"java/lang/StringUTF16", "codePointCount", "([BIIZ)I"⟩ : MethodName) jdk_52_method_11_code (6 : Nat) (Option.some Jvm.ClassFile.FieldType.int) :: ws) ({ frames := 1, cells := 0, slots := 0, locals := 13 } : Room)) (fun aZ UZ => aZ = #[(.ref b), (.int (0 : Int32)), (.int n), (.int (0 : Int32))] ∧ Z.Warmed39 UZ.vm ∧ UZ.heap = h0) (fun _ _ _ _ _ => True) (fun _ UZ oZ VZ => ∃ vZ LZ, oZ = .returned vZ ∧ (QU (fun z => z.toInt = ((tCp (pr us) us.length 4 0 us.length : Nat) : Int)) h0 n0) vZ VZ.heap LZ ∧ FrameEnd UZ oZ VZ LZ ({ frames := 1, cells := 0, slots := 0, locals := 13 } : Room).cells ({ frames := 1, cells := 0, slots := 0, locals := 13 } : Room).slots) := by
  refine MetFree.of_bodySF (plainFor_of_name pn_3) hisR ?_
  intro p e s m args below meth c s₁ Bd hml0 hP hK
  obtain ⟨rfl, hZ, hh⟩ := hP
  have hx := Bd.exec
  have hby := Bd.bytes
  have hml : c.maxLocals = 6 := hml0
  have hown : s.vm.findClass "java/lang/StringUTF16" = some m.cls := findClass_of_methodNamed Bd.named
  have hnm := (name_of_methodNamed Bd.named Bd.method).1
  have X0 : Stand p l e ({ frames := 1, cells := 0, slots := 0, locals := 13 } : Room) s m #[(.ref b), (.int (0 : Int32)), (.int n), (.int (0 : Int32))] below meth c s₁ [] 0 0 := Stand.of_body Bd
  have e0 : s₁.heap = h0 := by rw [← hh, Bd.state]; rfl
  have N0 := Fr.nil n0
  show OwnG p e below (OwnE s (QU (fun z => z.toInt = ((tCp (pr us) us.length 4 0 us.length : Nat) : Int)) h0 n0) ({ frames := 1, cells := 0, slots := 0, locals := 13 } : Room).cells ({ frames := 1, cells := 0, slots := 0, locals := 13 } : Room).slots) _
  refine own_by (S' := s₁.setTop (mkF m 0 #[.val (.ref b), .val (.int (0 : Int32)), .val (.int n), .val (.int (0 : Int32)), .unset, .unset] [])) (fun tZ kZ => castTop (ef_rmCp4 m b n) kZ) ?_
  obtain ⟨Sc, hcz, Sf, rf, Sa, Shi, Slo⟩ := id W
  obtain ⟨T1, X1, e1, st1⟩ := getS2 X0 hx hZ hown (host := "") (Or.inl (hw_ hw 88 rfl)) Via.refl e0 Sa (g := (mkF m 0 #[.val (.ref b), .val (.int (0 : Int32)), .val (.int n), .val (.int (0 : Int32)), .unset, .unset] [])) rfl (hb hby d24_0)
  refine own_by (S' := T1.setTop (mkF m 3 #[.val (.ref b), .val (.int (0 : Int32)), .val (.int n), .val (.int (0 : Int32)), .unset, .unset] [(.int (1 : Int32))])) st1 ?_
  refine own_by (S' := T1.setTop (mkF m 19 #[.val (.ref b), .val (.int (0 : Int32)), .val (.int n), .val (.int (0 : Int32)), .unset, .unset] [])) (fun tZ kZ => XS.ifYes X1.here hx rfl (pc0 := 3) (pc' := 19) rfl (hb hby d24_3) rfl ((if0 _ _).trans (feq (by decide)).2) (by decide) (by decide) kZ) ?_
  refine own_by (S' := T1.setTop (mkF m 20 #[.val (.ref b), .val (.int (0 : Int32)), .val (.int n), .val (.int (0 : Int32)), .unset, .unset] [(.int n)])) (fun tZ kZ => XS.iloadN X1.here hx rfl (hb hby d24_19) rfl kZ) ?_
  refine own_by (S' := T1.setTop (mkF m 21 #[.val (.ref b), .val (.int (0 : Int32)), .val (.int n), .val (.int (0 : Int32)), .unset, .unset] [(.int (0 : Int32)), (.int n)])) (fun tZ kZ => XS.iloadN X1.here hx rfl (hb hby d24_20) rfl kZ) ?_
  refine own_by (S' := T1.setTop (mkF m 22 #[.val (.ref b), .val (.int (0 : Int32)), .val (.int n), .val (.int (0 : Int32)), .unset, .unset] [(.int (n - (0 : Int32)))])) (fun tZ kZ => XS.isub X1.here hx rfl (hb hby d24_21) rfl kZ) ?_
  rw [own_sub0]
  refine own_by (S' := T1.setTop (mkF m 24 #[.val (.ref b), .val (.int (0 : Int32)), .val (.int n), .val (.int (0 : Int32)), .val (.int n), .unset] [])) (fun tZ kZ => XS.istore X1.here hx rfl (hb hby d24_22) rfl (l' := #[.val (.ref b), .val (.int (0 : Int32)), .val (.int n), .val (.int (0 : Int32)), .val (.int n), .unset]) rfl kZ) ?_
  refine own_by (S' := T1.setTop (mkF m 25 #[.val (.ref b), .val (.int (0 : Int32)), .val (.int n), .val (.int (0 : Int32)), .val (.int n), .unset] [(.int (0 : Int32))])) (fun tZ kZ => XS.iloadN X1.here hx rfl (hb hby d24_24) rfl kZ) ?_
  refine own_by (S' := T1.setTop (mkF m 27 #[.val (.ref b), .val (.int (0 : Int32)), .val (.int n), .val (.int (0 : Int32)), .val (.int n), .val (.int (0 : Int32))] [])) (fun tZ kZ => XS.istore X1.here hx rfl (hb hby d24_25) rfl (l' := #[.val (.ref b), .val (.int (0 : Int32)), .val (.int n), .val (.int (0 : Int32)), .val (.int n), .val (.int (0 : Int32))]) rfl kZ) ?_
  refine own_by (S' := T1.setTop (mkF m 28 #[.val (.ref b), .val (.int (0 : Int32)), .val (.int n), .val (.int (0 : Int32)), .val (.int n), .val (.int (0 : Int32))] [(.int (0 : Int32))])) (fun tZ kZ => XS.iloadN X1.here hx rfl (hb hby d24_27) rfl kZ) ?_
  refine own_by (S' := T1.setTop (mkF m 44 #[.val (.ref b), .val (.int (0 : Int32)), .val (.int n), .val (.int (0 : Int32)), .val (.int n), .val (.int (0 : Int32))] [])) (fun tZ kZ => XS.ifYes X1.here hx rfl (pc0 := 28) (pc' := 44) rfl (hb hby d24_28) rfl ((if0 _ _).trans (teq rfl).1) (by decide) (by decide) kZ) ?_
  have J44 : ∀ (f : Nat) (Tj2 : State) (Lj2 : List Loc) (hj2 : Heap) (k cc : Nat) (vi vc : Int32) (Xj2 : Stand p l e ({ frames := 1, cells := 0, slots := 0, locals := 13 } : Room) s m #[(.ref b), (.int (0 : Int32)), (.int n), (.int (0 : Int32))] below meth c Tj2 Lj2 0 0) (ej2 : Tj2.heap = hj2) (Nj2 : Fr n0 Lj2) (Kj2 : Keep h0 hj2 []) (hvi : vi.toInt = k) (hvc : vc.toInt = cc) (hf : us.length ≤ k + f) (hc4 : cc ≤ 4) (hcn : us.length ≤ cc + k) (hr : tCp (pr us) us.length f k cc = tCp (pr us) us.length 4 0 us.length) (hSame : h0 = hj2), OwnG p e below (OwnE s (QU (fun z => z.toInt = ((tCp (pr us) us.length 4 0 us.length : Nat) : Int)) h0 n0) ({ frames := 1, cells := 0, slots := 0, locals := 13 } : Room).cells ({ frames := 1, cells := 0, slots := 0, locals := 13 } : Room).slots) (Tj2.setTop (mkF m 44 #[.val (.ref b), .val (.int (0 : Int32)), .val (.int n), .val (.int (0 : Int32)), .val (.int vc), .val (.int vi)] [])) := by
    intro f
    induction f using Nat.strongRecOn with
    | ind f ih =>
      intro Tj2 Lj2 hj2 k cc vi vc Xj2 ej2 Nj2 Kj2 hvi hvc hf hc4 hcn hr hSame
      subst hSame
      refine own_by (S' := Tj2.setTop (mkF m 46 #[.val (.ref b), .val (.int (0 : Int32)), .val (.int n), .val (.int (0 : Int32)), .val (.int vc), .val (.int vi)] [(.int vi)])) (fun tZ kZ => XS.iload Xj2.here hx rfl (hb hby d24_44) rfl kZ) ?_
      refine own_by (S' := Tj2.setTop (mkF m 47 #[.val (.ref b), .val (.int (0 : Int32)), .val (.int n), .val (.int (0 : Int32)), .val (.int vc), .val (.int vi)] [(.int n), (.int vi)])) (fun tZ kZ => XS.iloadN Xj2.here hx rfl (hb hby d24_46) rfl kZ) ?_
      refine own_by (S' := Tj2.setTop (mkF m 48 #[.val (.ref b), .val (.int (0 : Int32)), .val (.int n), .val (.int (0 : Int32)), .val (.int vc), .val (.int vi)] [(.int (1 : Int32)), (.int n), (.int vi)])) (fun tZ kZ => XS.iconst Xj2.here hx rfl (hb hby d24_47) kZ) ?_
      refine own_by (S' := Tj2.setTop (mkF m 49 #[.val (.ref b), .val (.int (0 : Int32)), .val (.int n), .val (.int (0 : Int32)), .val (.int vc), .val (.int vi)] [(.int (n - (1 : Int32))), (.int vi)])) (fun tZ kZ => XS.isub Xj2.here hx rfl (hb hby d24_48) rfl kZ) ?_
      by_cases dg1 : vi < (n - (1 : Int32))
      · refine own_by (S' := Tj2.setTop (mkF m 52 #[.val (.ref b), .val (.int (0 : Int32)), .val (.int n), .val (.int (0 : Int32)), .val (.int vc), .val (.int vi)] [])) (fun tZ kZ => XS.icmpNo Xj2.here hx rfl (hb hby d24_49) rfl (tlt dg1).2.1 kZ) ?_
        have hn1 : us.length = 0 ∨ (n - (1 : Int32)).toInt = ((us.length - 1 : Nat) : Int) := by
          rcases Nat.eq_zero_or_pos us.length with q | q
          · exact Or.inl q
          · exact Or.inr (own_sub (b := 1) hn rfl q (by omega))
        have dg2 : k + 1 < us.length := by
          rcases hn1 with h | h
          · exfalso
            have q := own_sub0 n
            have e1 : n = 0 := own_eq hn (by rw [h]; rfl)
            rw [e1, own_ltI] at dg1
            have e2 : ((0 : Int32) - (1 : Int32)).toInt = -1 := by decide
            omega
          · have q := (own_lt hvi h).mp dg1
            omega
        obtain ⟨f', rfl⟩ : ∃ f', f = f' + 1 := ⟨f - 1, by omega⟩
        have hi1 : (vi + (1 : Int32)).toInt = ((k + 1 : Nat) : Int) := own_inc hvi (by omega)
        obtain ⟨u, hu, hum⟩ := own_getq (us := us) (k := k) (by omega)
        obtain ⟨u2, hu2, hum2⟩ := own_getq (us := us) (k := k + 1) (by omega)
        refine own_by (S' := Tj2.setTop (mkF m 53 #[.val (.ref b), .val (.int (0 : Int32)), .val (.int n), .val (.int (0 : Int32)), .val (.int vc), .val (.int vi)] [(.ref b)])) (fun tZ kZ => XS.aloadN Xj2.here hx rfl (hb hby d24_52) rfl rfl kZ) ?_
        refine own_by (S' := Tj2.setTop (mkF m 55 #[.val (.ref b), .val (.int (0 : Int32)), .val (.int n), .val (.int (0 : Int32)), .val (.int vc), .val (.int vi)] [(.int vi), (.ref b)])) (fun tZ kZ => XS.iload Xj2.here hx rfl (hb hby d24_53) rfl kZ) ?_
        refine own_by (S' := Tj2.setTop (mkF m 58 #[.val (.ref b), .val (.int (0 : Int32)), .val (.int n), .val (.int (0 : Int32)), .val (.int vc), .val (.int (vi + (1 : Int32)))] [(.int vi), (.ref b)])) (fun tZ kZ => XS.iinc Xj2.here hx rfl (hb hby d24_55) rfl (l' := #[.val (.ref b), .val (.int (0 : Int32)), .val (.int n), .val (.int (0 : Int32)), .val (.int vc), .val (.int (vi + (1 : Int32)))]) rfl kZ) ?_
        obtain ⟨_, _, ⟨T3, L3, k3, n3⟩, -, X3, ⟨Lc3, hQ3, l3, y3, z3⟩, st3⟩ := Jvm.LawKit.callS Xj2 hx (y := (⟨"java/lang/StringUTF16", "getChar", "([BI)C"⟩ : MethodName)) hown (mvT hZ (hw_ hw 91 rfl)) (mvT hZ (hw_ hw 92 rfl)) (mvT hZ (hw_ hw 70 rfl)) (mvT hZ (hw_ hw 93 rfl)) (by decide) (backOf (W := 0) (rmGet l Z a0 hw [] b kb us vi k u cz fm h0 n0 Z0 V_b hl hvi hu (hus _ hum) W) hZ (hw_ hw 93 rfl) (hw_ hw 70 rfl) (by decide) (by decide)) (g := (mkF m 58 #[.val (.ref b), .val (.int (0 : Int32)), .val (.int n), .val (.int (0 : Int32)), .val (.int vc), .val (.int (vi + (1 : Int32)))] [(.int vi), (.ref b)])) rfl (by rw [hml]; rfl) (argsL := [(.ref b), (.int vi)]) (rest := []) (lenOf pd_6 rfl) rfl (by show 2 * 0 + _ ≤ _; exact Nat.le_of_eq rfl) (hb hby d24_58) (fun _ _ => ⟨rfl, ej2, (by decide : 0 + 0 ≤ _), (by decide : 0 + 0 ≤ _)⟩)
        dsimp only [Pt.U, Pt.locs, Pt.cells, Pt.slots] at X3 l3 y3 z3 st3 hQ3
        subst l3 y3 z3
        obtain ⟨rfl, N3q, heq3⟩ := hQ3
        have N3 := Fr.app Nj2 N3q
        refine own_by (S' := T3.setTop (mkF m 61 #[.val (.ref b), .val (.int (0 : Int32)), .val (.int n), .val (.int (0 : Int32)), .val (.int vc), .val (.int (vi + (1 : Int32)))] [(.int u)])) (fun tZ kZ => st3 _ kZ) ?_
        obtain ⟨_, _, ⟨T4, L4, k4, n4⟩, -, X4, ⟨Lc4, hQ4, l4, y4, z4⟩, st4⟩ := Jvm.LawKit.callS X3 hx (y := (⟨"java/lang/Character", "isHighSurrogate", "(C)Z"⟩ : MethodName)) hown (mvT hZ (hw_ hw 109 rfl)) (mvT hZ (hw_ hw 110 rfl)) (mvT hZ (hw_ hw 111 rfl)) (mvT hZ (hw_ hw 112 rfl)) (by decide) (backOf (W := 0) (rmHS l Z a0 hw [] u h0 n0 Z0) hZ (hw_ hw 112 rfl) (hw_ hw 111 rfl) (by decide) (by decide)) (g := (mkF m 61 #[.val (.ref b), .val (.int (0 : Int32)), .val (.int n), .val (.int (0 : Int32)), .val (.int vc), .val (.int (vi + (1 : Int32)))] [(.int u)])) rfl (by rw [hml]; rfl) (argsL := [(.int u)]) (rest := []) (lenOf pd_8 rfl) rfl (by show 2 * 0 + _ ≤ _; exact Nat.le_of_eq rfl) (hb hby d24_61) (fun _ _ => ⟨rfl, heq3, (by decide : 0 + 0 ≤ _), (by decide : 0 + 0 ≤ _)⟩)
        dsimp only [Pt.U, Pt.locs, Pt.cells, Pt.slots] at X4 l4 y4 z4 st4 hQ4
        subst l4 y4 z4
        obtain ⟨rfl, N4q, heq4⟩ := hQ4
        have N4 := Fr.app N3 N4q
        refine own_by (S' := T4.setTop (mkF m 64 #[.val (.ref b), .val (.int (0 : Int32)), .val (.int n), .val (.int (0 : Int32)), .val (.int vc), .val (.int (vi + (1 : Int32)))] [(.int (if isH u = true then (1 : Int32) else 0))])) (fun tZ kZ => st4 _ kZ) ?_
        by_cases gH : isH u = true
        · rw [if_pos gH]
          refine own_by (S' := T4.setTop (mkF m 67 #[.val (.ref b), .val (.int (0 : Int32)), .val (.int n), .val (.int (0 : Int32)), .val (.int vc), .val (.int (vi + (1 : Int32)))] [])) (fun tZ kZ => XS.ifNo X4.here hx rfl (hb hby d24_64) rfl ((if0 _ _).trans (feq (by decide)).1) kZ) ?_
          refine own_by (S' := T4.setTop (mkF m 68 #[.val (.ref b), .val (.int (0 : Int32)), .val (.int n), .val (.int (0 : Int32)), .val (.int vc), .val (.int (vi + (1 : Int32)))] [(.ref b)])) (fun tZ kZ => XS.aloadN X4.here hx rfl (hb hby d24_67) rfl rfl kZ) ?_
          refine own_by (S' := T4.setTop (mkF m 70 #[.val (.ref b), .val (.int (0 : Int32)), .val (.int n), .val (.int (0 : Int32)), .val (.int vc), .val (.int (vi + (1 : Int32)))] [(.int (vi + (1 : Int32))), (.ref b)])) (fun tZ kZ => XS.iload X4.here hx rfl (hb hby d24_68) rfl kZ) ?_
          obtain ⟨_, _, ⟨T5, L5, k5, n5⟩, -, X5, ⟨Lc5, hQ5, l5, y5, z5⟩, st5⟩ := Jvm.LawKit.callS X4 hx (y := (⟨"java/lang/StringUTF16", "getChar", "([BI)C"⟩ : MethodName)) hown (mvT hZ (hw_ hw 91 rfl)) (mvT hZ (hw_ hw 92 rfl)) (mvT hZ (hw_ hw 70 rfl)) (mvT hZ (hw_ hw 93 rfl)) (by decide) (backOf (W := 0) (rmGet l Z a0 hw [] b kb us (vi + (1 : Int32)) (k + 1) u2 cz fm h0 n0 Z0 V_b hl hi1 hu2 (hus _ hum2) W) hZ (hw_ hw 93 rfl) (hw_ hw 70 rfl) (by decide) (by decide)) (g := (mkF m 70 #[.val (.ref b), .val (.int (0 : Int32)), .val (.int n), .val (.int (0 : Int32)), .val (.int vc), .val (.int (vi + (1 : Int32)))] [(.int (vi + (1 : Int32))), (.ref b)])) rfl (by rw [hml]; rfl) (argsL := [(.ref b), (.int (vi + (1 : Int32)))]) (rest := []) (lenOf pd_6 rfl) rfl (by show 2 * 0 + _ ≤ _; exact Nat.le_of_eq rfl) (hb hby d24_70) (fun _ _ => ⟨rfl, heq4, (by decide : 0 + 0 ≤ _), (by decide : 0 + 0 ≤ _)⟩)
          dsimp only [Pt.U, Pt.locs, Pt.cells, Pt.slots] at X5 l5 y5 z5 st5 hQ5
          subst l5 y5 z5
          obtain ⟨rfl, N5q, heq5⟩ := hQ5
          have N5 := Fr.app N4 N5q
          refine own_by (S' := T5.setTop (mkF m 73 #[.val (.ref b), .val (.int (0 : Int32)), .val (.int n), .val (.int (0 : Int32)), .val (.int vc), .val (.int (vi + (1 : Int32)))] [(.int u2)])) (fun tZ kZ => st5 _ kZ) ?_
          obtain ⟨_, _, ⟨T6, L6, k6, n6⟩, -, X6, ⟨Lc6, hQ6, l6, y6, z6⟩, st6⟩ := Jvm.LawKit.callS X5 hx (y := (⟨"java/lang/Character", "isLowSurrogate", "(C)Z"⟩ : MethodName)) hown (mvT hZ (hw_ hw 140 rfl)) (mvT hZ (hw_ hw 141 rfl)) (mvT hZ (hw_ hw 111 rfl)) (mvT hZ (hw_ hw 142 rfl)) (by decide) (backOf (W := 0) (rmLS l Z a0 hw [] u2 h0 n0 Z0) hZ (hw_ hw 142 rfl) (hw_ hw 111 rfl) (by decide) (by decide)) (g := (mkF m 73 #[.val (.ref b), .val (.int (0 : Int32)), .val (.int n), .val (.int (0 : Int32)), .val (.int vc), .val (.int (vi + (1 : Int32)))] [(.int u2)])) rfl (by rw [hml]; rfl) (argsL := [(.int u2)]) (rest := []) (lenOf pd_8 rfl) rfl (by show 2 * 0 + _ ≤ _; exact Nat.le_of_eq rfl) (hb hby d24_73) (fun _ _ => ⟨rfl, heq5, (by decide : 0 + 0 ≤ _), (by decide : 0 + 0 ≤ _)⟩)
          dsimp only [Pt.U, Pt.locs, Pt.cells, Pt.slots] at X6 l6 y6 z6 st6 hQ6
          subst l6 y6 z6
          obtain ⟨rfl, N6q, heq6⟩ := hQ6
          have N6 := Fr.app N5 N6q
          refine own_by (S' := T6.setTop (mkF m 76 #[.val (.ref b), .val (.int (0 : Int32)), .val (.int n), .val (.int (0 : Int32)), .val (.int vc), .val (.int (vi + (1 : Int32)))] [(.int (if isLo u2 = true then (1 : Int32) else 0))])) (fun tZ kZ => st6 _ kZ) ?_
          by_cases gL : isLo u2 = true
          · rw [if_pos gL]
            refine own_by (S' := T6.setTop (mkF m 79 #[.val (.ref b), .val (.int (0 : Int32)), .val (.int n), .val (.int (0 : Int32)), .val (.int vc), .val (.int (vi + (1 : Int32)))] [])) (fun tZ kZ => XS.ifNo X6.here hx rfl (hb hby d24_76) rfl ((if0 _ _).trans (feq (by decide)).1) kZ) ?_
            refine own_by (S' := T6.setTop (mkF m 82 #[.val (.ref b), .val (.int (0 : Int32)), .val (.int n), .val (.int (0 : Int32)), .val (.int (vc + (-1 : Int32))), .val (.int (vi + (1 : Int32)))] [])) (fun tZ kZ => XS.iinc X6.here hx rfl (hb hby d24_79) rfl (l' := #[.val (.ref b), .val (.int (0 : Int32)), .val (.int n), .val (.int (0 : Int32)), .val (.int (vc + (-1 : Int32))), .val (.int (vi + (1 : Int32)))]) rfl kZ) ?_
            refine own_by (S' := T6.setTop (mkF m 85 #[.val (.ref b), .val (.int (0 : Int32)), .val (.int n), .val (.int (0 : Int32)), .val (.int (vc + (-1 : Int32))), .val (.int ((vi + (1 : Int32)) + (1 : Int32)))] [])) (fun tZ kZ => XS.iinc X6.here hx rfl (hb hby d24_82) rfl (l' := #[.val (.ref b), .val (.int (0 : Int32)), .val (.int n), .val (.int (0 : Int32)), .val (.int (vc + (-1 : Int32))), .val (.int ((vi + (1 : Int32)) + (1 : Int32)))]) rfl kZ) ?_
            refine own_by (S' := T6.setTop (mkF m 44 #[.val (.ref b), .val (.int (0 : Int32)), .val (.int n), .val (.int (0 : Int32)), .val (.int (vc + (-1 : Int32))), .val (.int ((vi + (1 : Int32)) + (1 : Int32)))] [])) (fun tZ kZ => XS.goto X6.here hx rfl (pc0 := 85) (pc' := 44) rfl (hb hby d24_85) (by decide) (by decide) kZ) ?_
            exact ih f' (by omega) _ _ _ (k + 2) (cc - 1) _ _ X6 heq6 N6 Kj2 (own_inc hi1 (by omega)) (own_dec hvc (by omega) (by omega)) (by omega) (by omega) (by omega) (by rw [← hr, tCp_1 dg2 (pr_t hu hu2 gH gL)]) rfl
          · rw [if_neg gL]
            refine own_by (S' := T6.setTop (mkF m 44 #[.val (.ref b), .val (.int (0 : Int32)), .val (.int n), .val (.int (0 : Int32)), .val (.int vc), .val (.int (vi + (1 : Int32)))] [])) (fun tZ kZ => XS.ifYes X6.here hx rfl (pc0 := 76) (pc' := 44) rfl (hb hby d24_76) rfl ((if0 _ _).trans (teq rfl).1) (by decide) (by decide) kZ) ?_
            exact ih f' (by omega) _ _ _ (k + 1) cc _ _ X6 heq6 N6 Kj2 hi1 hvc (by omega) (by omega) (by omega) (by rw [← hr, tCp_0 dg2 (pr_f1 hu2 gL)]) rfl
        · rw [if_neg gH]
          refine own_by (S' := T4.setTop (mkF m 44 #[.val (.ref b), .val (.int (0 : Int32)), .val (.int n), .val (.int (0 : Int32)), .val (.int vc), .val (.int (vi + (1 : Int32)))] [])) (fun tZ kZ => XS.ifYes X4.here hx rfl (pc0 := 64) (pc' := 44) rfl (hb hby d24_64) rfl ((if0 _ _).trans (teq rfl).1) (by decide) (by decide) kZ) ?_
          exact ih f' (by omega) _ _ _ (k + 1) cc _ _ X4 heq4 N4 Kj2 hi1 hvc (by omega) (by omega) (by omega) (by rw [← hr, tCp_0 dg2 (pr_f0 hu gH)]) rfl
      · refine own_by (S' := Tj2.setTop (mkF m 88 #[.val (.ref b), .val (.int (0 : Int32)), .val (.int n), .val (.int (0 : Int32)), .val (.int vc), .val (.int vi)] [])) (fun tZ kZ => XS.icmpYes Xj2.here hx rfl (pc0 := 49) (pc' := 88) rfl (hb hby d24_49) rfl (flt dg1).2.1 (by decide) (by decide) kZ) ?_
        have hn1 : us.length = 0 ∨ (n - (1 : Int32)).toInt = ((us.length - 1 : Nat) : Int) := by
          rcases Nat.eq_zero_or_pos us.length with q | q
          · exact Or.inl q
          · exact Or.inr (own_sub (b := 1) hn rfl q (by omega))
        have dg2 : ¬ k + 1 < us.length := by
          intro q
          rcases hn1 with h | h
          · omega
          · exact dg1 ((own_lt hvi h).mpr (by omega))
        rw [tCp_e dg2] at hr
        refine own_by (S' := Tj2.setTop (mkF m 90 #[.val (.ref b), .val (.int (0 : Int32)), .val (.int n), .val (.int (0 : Int32)), .val (.int vc), .val (.int vi)] [(.int vc)])) (fun tZ kZ => XS.iload Xj2.here hx rfl (hb hby d24_88) rfl kZ) ?_
        exact own_retI Xj2 hx (t := .int) Bd.returns (by simp) rfl (hb hby d24_90) Bd.notSynchronized (by decide) (by decide) ⟨_, rfl, (by rw [← hr]; exact hvc), Nj2, ej2⟩
  exact J44 4 _ _ _ 0 us.length 0 n X1 e1 N0 (Keep.refl h0 []) rfl hn (by omega) hl (by omega) rfl rfl
theorem d23_0 : decode jdk_52_method_12_code 0 = .ok (.aload_n 0, 1) := by decide +kernel
theorem d23_1 : decode jdk_52_method_12_code 1 = .ok (.iload_n 1, 1) := by decide +kernel
theorem d23_2 : decode jdk_52_method_12_code 2 = .ok (.iload_n 2, 1) := by decide +kernel
theorem d23_3 : decode jdk_52_method_12_code 3 = .ok (.iconst 0, 1) := by decide +kernel
theorem d23_4 : decode jdk_52_method_12_code 4 = .ok (.invokestatic 100, 3) := by decide +kernel
theorem d23_7 : decode jdk_52_method_12_code 7 = .ok (.ireturn, 1) := by decide +kernel
theorem ef_rmCp3 (m : MethodId) (b : Addr) (n : Int32) : entryFrame m #[(.ref b), (.int (0 : Int32)), (.int n)] 3 = mkF m 0 #[.val (.ref b), .val (.int (0 : Int32)), .val (.int n)] [] := by first | (simp [entryFrame, mkF, argsToLocals, Value.category, maxLocals]; done) | rfl
set_option maxRecDepth 65536 in
set_option maxHeartbeats 40000000 in
theorem rmCp3 (l : Launch) (Z : State) (a0 : Array Value) (hw : ∀ d ∈ tables_1, d.before a0 Z = true) (ws : List Jvm.Cond) (b : Addr) (kb : ClassId) (us : List Int32) (n : Int32) (cz : Int32) (fm : Value) (h0 : Heap) (n0 : Nat) (Z0 : n0 ≤ h0.size) (V_b : OwnA Z h0 b kb .byte (bU us)) (hl : us.length ≤ 4) (hn : n.toInt = us.length) (hus : ∀ q ∈ us, CU q) (W : OwnW Z h0 cz fm) :
    MetFree l (⟨"java/lang/StringUTF16", "codePointCount", "([BII)I"⟩ : MethodName) (head1 (Jvm.Cond.code (⟨"java/lang/StringUTF16", "codePointCount", "([BII)I"⟩ : MethodName) jdk_52_method_12_code (3 : Nat) (Option.some Jvm.ClassFile.FieldType.int) :: ws) ({ frames := 2, cells := 0, slots := 0, locals := 30 } : Room)) (fun aZ UZ => aZ = #[(.ref b), (.int (0 : Int32)), (.int n)] ∧ Z.Warmed39 UZ.vm ∧ UZ.heap = h0) (fun _ _ _ _ _ => True) (fun _ UZ oZ VZ => ∃ vZ LZ, oZ = .returned vZ ∧ (QU (fun z => z.toInt = ((tCp (pr us) us.length 4 0 us.length : Nat) : Int)) h0 n0) vZ VZ.heap LZ ∧ FrameEnd UZ oZ VZ LZ ({ frames := 2, cells := 0, slots := 0, locals := 30 } : Room).cells ({ frames := 2, cells := 0, slots := 0, locals := 30 } : Room).slots) := by
  refine MetFree.of_bodySF (plainFor_of_name pn_3) hisR ?_
  intro p e s m args below meth c s₁ Bd hml0 hP hK
  obtain ⟨rfl, hZ, hh⟩ := hP
  have hx := Bd.exec
  have hby := Bd.bytes
  have hml : c.maxLocals = 3 := hml0
  have hown : s.vm.findClass "java/lang/StringUTF16" = some m.cls := findClass_of_methodNamed Bd.named
  have hnm := (name_of_methodNamed Bd.named Bd.method).1
  have X0 : Stand p l e ({ frames := 2, cells := 0, slots := 0, locals := 30 } : Room) s m #[(.ref b), (.int (0 : Int32)), (.int n)] below meth c s₁ [] 0 0 := Stand.of_body Bd
  have e0 : s₁.heap = h0 := by rw [← hh, Bd.state]; rfl
  have N0 := Fr.nil n0
  show OwnG p e below (OwnE s (QU (fun z => z.toInt = ((tCp (pr us) us.length 4 0 us.length : Nat) : Int)) h0 n0) ({ frames := 2, cells := 0, slots := 0, locals := 30 } : Room).cells ({ frames := 2, cells := 0, slots := 0, locals := 30 } : Room).slots) _
  refine own_by (S' := s₁.setTop (mkF m 0 #[.val (.ref b), .val (.int (0 : Int32)), .val (.int n)] [])) (fun tZ kZ => castTop (ef_rmCp3 m b n) kZ) ?_
  refine own_by (S' := s₁.setTop (mkF m 1 #[.val (.ref b), .val (.int (0 : Int32)), .val (.int n)] [(.ref b)])) (fun tZ kZ => XS.aloadN X0.here hx rfl (hb hby d23_0) rfl rfl kZ) ?_
  refine own_by (S' := s₁.setTop (mkF m 2 #[.val (.ref b), .val (.int (0 : Int32)), .val (.int n)] [(.int (0 : Int32)), (.ref b)])) (fun tZ kZ => XS.iloadN X0.here hx rfl (hb hby d23_1) rfl kZ) ?_
  refine own_by (S' := s₁.setTop (mkF m 3 #[.val (.ref b), .val (.int (0 : Int32)), .val (.int n)] [(.int n), (.int (0 : Int32)), (.ref b)])) (fun tZ kZ => XS.iloadN X0.here hx rfl (hb hby d23_2) rfl kZ) ?_
  refine own_by (S' := s₁.setTop (mkF m 4 #[.val (.ref b), .val (.int (0 : Int32)), .val (.int n)] [(.int (0 : Int32)), (.int n), (.int (0 : Int32)), (.ref b)])) (fun tZ kZ => XS.iconst X0.here hx rfl (hb hby d23_3) kZ) ?_
  obtain ⟨_, _, ⟨T1, L1, k1, n1⟩, -, X1, ⟨Lc1, hQ1, l1, y1, z1⟩, st1⟩ := Jvm.LawKit.callS X0 hx (y := (⟨"java/lang/StringUTF16", "codePointCount", "([BIIZ)I"⟩ : MethodName)) hown (mvT hZ (hw_ hw 106 rfl)) (mvT hZ (hw_ hw 107 rfl)) (mvT hZ (hw_ hw 70 rfl)) (mvT hZ (hw_ hw 108 rfl)) (by decide) (backOf (W := 0) (rmCp4 l Z a0 hw [] b kb us n cz fm h0 n0 Z0 V_b hl hn hus W) hZ (hw_ hw 108 rfl) (hw_ hw 70 rfl) (by decide) (by decide)) (g := (mkF m 4 #[.val (.ref b), .val (.int (0 : Int32)), .val (.int n)] [(.int (0 : Int32)), (.int n), (.int (0 : Int32)), (.ref b)])) rfl (by rw [hml]; rfl) (argsL := [(.ref b), (.int (0 : Int32)), (.int n), (.int (0 : Int32))]) (rest := []) (lenOf pd_9 rfl) rfl (by show 2 * 0 + _ ≤ _; exact Nat.le_of_eq rfl) (hb hby d23_4) (fun _ _ => ⟨rfl, e0, (by decide : 0 + 0 ≤ _), (by decide : 0 + 0 ≤ _)⟩)
  dsimp only [Pt.U, Pt.locs, Pt.cells, Pt.slots] at X1 l1 y1 z1 st1 hQ1
  subst l1 y1 z1
  obtain ⟨zr, rfl, hzr, N1q, heq1⟩ := hQ1
  have N1 := Fr.app N0 N1q
  refine own_by (S' := T1.setTop (mkF m 7 #[.val (.ref b), .val (.int (0 : Int32)), .val (.int n)] [(.int zr)])) (fun tZ kZ => st1 _ kZ) ?_
  exact own_retI X1 hx (t := .int) Bd.returns (by simp) rfl (hb hby d23_7) Bd.notSynchronized (by decide) (by decide) ⟨_, rfl, hzr, N1, heq1⟩
theorem d9_0 : decode jdk_42_method_59_code 0 = .ok (.iload_n 1, 1) := by decide +kernel
theorem d9_1 : decode jdk_42_method_59_code 1 = .ok (.iload_n 2, 1) := by decide +kernel
theorem d9_2 : decode jdk_42_method_59_code 2 = .ok (.aload_n 0, 1) := by decide +kernel
theorem d9_3 : decode jdk_42_method_59_code 3 = .ok (.invokevirtual 505, 3) := by decide +kernel
theorem d9_6 : decode jdk_42_method_59_code 6 = .ok (.invokestatic 511, 3) := by decide +kernel
theorem d9_9 : decode jdk_42_method_59_code 9 = .ok (.pop, 1) := by decide +kernel
theorem d9_10 : decode jdk_42_method_59_code 10 = .ok (.aload_n 0, 1) := by decide +kernel
theorem d9_11 : decode jdk_42_method_59_code 11 = .ok (.invokevirtual 492, 3) := by decide +kernel
theorem d9_14 : decode jdk_42_method_59_code 14 = .ok (.ifCond .eq 7, 3) := by decide +kernel
theorem d9_17 : decode jdk_42_method_59_code 17 = .ok (.iload_n 2, 1) := by decide +kernel
theorem d9_18 : decode jdk_42_method_59_code 18 = .ok (.iload_n 1, 1) := by decide +kernel
theorem d9_19 : decode jdk_42_method_59_code 19 = .ok (.isub, 1) := by decide +kernel
theorem d9_20 : decode jdk_42_method_59_code 20 = .ok (.ireturn, 1) := by decide +kernel
theorem d9_21 : decode jdk_42_method_59_code 21 = .ok (.aload_n 0, 1) := by decide +kernel
theorem d9_22 : decode jdk_42_method_59_code 22 = .ok (.getfield 9, 3) := by decide +kernel
theorem d9_25 : decode jdk_42_method_59_code 25 = .ok (.iload_n 1, 1) := by decide +kernel
theorem d9_26 : decode jdk_42_method_59_code 26 = .ok (.iload_n 2, 1) := by decide +kernel
theorem d9_27 : decode jdk_42_method_59_code 27 = .ok (.invokestatic 514, 3) := by decide +kernel
theorem d9_30 : decode jdk_42_method_59_code 30 = .ok (.ireturn, 1) := by decide +kernel
theorem ef_rmCp (m : MethodId) (r : Addr) (n : Int32) : entryFrame m #[(.ref r), (.int (0 : Int32)), (.int n)] 3 = mkF m 0 #[.val (.ref r), .val (.int (0 : Int32)), .val (.int n)] [] := by first | (simp [entryFrame, mkF, argsToLocals, Value.category, maxLocals]; done) | rfl
set_option maxRecDepth 65536 in
set_option maxHeartbeats 40000000 in
theorem rmCp (l : Launch) (Z : State) (a0 : Array Value) (hw : ∀ d ∈ tables_1, d.before a0 Z = true) (ws : List Jvm.Cond) (r : Addr) (us : List Int32) (n : Int32) (cz : Int32) (fm : Value) (h0 : Heap) (n0 : Nat) (Z0 : n0 ≤ h0.size) (S : OwnStr Z h0 r us) (hl : us.length ≤ 4) (W : OwnW Z h0 cz fm) (hn : n.toInt = us.length) (hus : ∀ q ∈ us, CU q) :
    MetFree l (⟨"java/lang/String", "codePointCount", "(II)I"⟩ : MethodName) (head1 (Jvm.Cond.code (⟨"java/lang/String", "codePointCount", "(II)I"⟩ : MethodName) jdk_42_method_59_code (3 : Nat) (Option.some Jvm.ClassFile.FieldType.int) :: ws) ({ frames := 3, cells := 0, slots := 0, locals := 44 } : Room)) (fun aZ UZ => aZ = #[(.ref r), (.int (0 : Int32)), (.int n)] ∧ Z.Warmed39 UZ.vm ∧ UZ.heap = h0) (fun _ _ _ _ _ => True) (fun _ UZ oZ VZ => ∃ vZ LZ, oZ = .returned vZ ∧ (QU (fun z => z.toInt = ((tCp (pr us) us.length 4 0 us.length : Nat) : Int)) h0 n0) vZ VZ.heap LZ ∧ FrameEnd UZ oZ VZ LZ ({ frames := 3, cells := 0, slots := 0, locals := 44 } : Room).cells ({ frames := 3, cells := 0, slots := 0, locals := 44 } : Room).slots) := by
  refine MetFree.of_bodySF (plainFor_of_name pn_1) hisR ?_
  intro p e s m args below meth c s₁ Bd hml0 hP hK
  obtain ⟨rfl, hZ, hh⟩ := hP
  have hx := Bd.exec
  have hby := Bd.bytes
  have hml : c.maxLocals = 3 := hml0
  have hown : s.vm.findClass "java/lang/String" = some m.cls := findClass_of_methodNamed Bd.named
  have hnm := (name_of_methodNamed Bd.named Bd.method).1
  have X0 : Stand p l e ({ frames := 3, cells := 0, slots := 0, locals := 44 } : Room) s m #[(.ref r), (.int (0 : Int32)), (.int n)] below meth c s₁ [] 0 0 := Stand.of_body Bd
  have e0 : s₁.heap = h0 := by rw [← hh, Bd.state]; rfl
  have N0 := Fr.nil n0
  show OwnG p e below (OwnE s (QU (fun z => z.toInt = ((tCp (pr us) us.length 4 0 us.length : Nat) : Int)) h0 n0) ({ frames := 3, cells := 0, slots := 0, locals := 44 } : Room).cells ({ frames := 3, cells := 0, slots := 0, locals := 44 } : Room).slots) _
  refine own_by (S' := s₁.setTop (mkF m 0 #[.val (.ref r), .val (.int (0 : Int32)), .val (.int n)] [])) (fun tZ kZ => castTop (ef_rmCp m r n) kZ) ?_
  obtain ⟨Ex, bb, kb, Vv, hcs⟩ := id S
  obtain ⟨Sc, hcz, Sf, rf, Sa, Shi, Slo⟩ := id W
  refine own_by (S' := s₁.setTop (mkF m 1 #[.val (.ref r), .val (.int (0 : Int32)), .val (.int n)] [(.int (0 : Int32))])) (fun tZ kZ => XS.iloadN X0.here hx rfl (hb hby d9_0) rfl kZ) ?_
  refine own_by (S' := s₁.setTop (mkF m 2 #[.val (.ref r), .val (.int (0 : Int32)), .val (.int n)] [(.int n), (.int (0 : Int32))])) (fun tZ kZ => XS.iloadN X0.here hx rfl (hb hby d9_1) rfl kZ) ?_
  refine own_by (S' := s₁.setTop (mkF m 3 #[.val (.ref r), .val (.int (0 : Int32)), .val (.int n)] [(.ref r), (.int n), (.int (0 : Int32))])) (fun tZ kZ => XS.aloadN X0.here hx rfl (hb hby d9_2) rfl rfl kZ) ?_
  obtain ⟨cq1, kq1, q1a, q1b, q1c⟩ := isOf hZ e0 S.1
  obtain ⟨_, _, ⟨T1, L1, k1, n1⟩, -, X1, ⟨Lc1, hQ1, l1, y1, z1⟩, st1⟩ := X0.virtualBack hx (y := (⟨"java/lang/String", "length", "()I"⟩ : MethodName)) (z := (⟨"java/lang/String", "length", "()I"⟩ : MethodName)) hown (mvT hZ (hw_ hw 53 rfl)) (mvT hZ (hw_ hw 38 rfl)) (notFace_of_selects (args := #[]) (mvT hZ (hw_ hw 40 rfl))) (mvT hZ (hw_ hw 40 rfl)) (mvT hZ (hw_ hw 39 rfl)) (by decide) (backOf (W := 2) (rmLen l Z a0 hw [] r us n cz fm h0 n0 Z0 hn S hl W) hZ (hw_ hw 41 rfl) (hw_ hw 14 rfl) (by decide) (by decide)) q1a q1c (g := (mkF m 3 #[.val (.ref r), .val (.int (0 : Int32)), .val (.int n)] [(.ref r), (.int n), (.int (0 : Int32))])) rfl (by rw [hml]; rfl) (Steps.refl _) (argsL := []) (rest := [(.int n), (.int (0 : Int32))]) (lenOf pd_10 rfl) rfl (by show 2 * 0 + _ ≤ _; exact Nat.le_of_eq rfl) (hb hby d9_3) (fun _ _ => ⟨rfl, e0, (by decide : 0 + 0 ≤ _), (by decide : 0 + 0 ≤ _)⟩)
  dsimp only [Pt.U, Pt.locs, Pt.cells, Pt.slots] at X1 l1 y1 z1 st1 hQ1
  subst l1 y1 z1
  obtain ⟨rfl, N1q, heq1⟩ := hQ1
  have N1 := Fr.app N0 N1q
  refine own_by (S' := T1.setTop (mkF m 6 #[.val (.ref r), .val (.int (0 : Int32)), .val (.int n)] [(.int n), (.int n), (.int (0 : Int32))])) (fun tZ kZ => st1.trans kZ) ?_
  obtain ⟨_, _, ⟨T2, L2, k2, n2⟩, -, X2, ⟨Lc2, hQ2, l2, y2, z2⟩, st2⟩ := Jvm.LawKit.callS X1 hx (y := (⟨"java/util/Objects", "checkFromToIndex", "(III)I"⟩ : MethodName)) hown (mvT hZ (hw_ hw 54 rfl)) (mvT hZ (hw_ hw 55 rfl)) (mvT hZ (hw_ hw 56 rfl)) (mvT hZ (hw_ hw 57 rfl)) (by decide) (backOf (W := 0) (rmOFT l Z a0 hw [] (0 : Int32) n n h0 n0 Z0 (by decide) (own_nneg hn) (by rw [own_lt hn hn]; omega)) hZ (hw_ hw 57 rfl) (hw_ hw 56 rfl) (by decide) (by decide)) (g := (mkF m 6 #[.val (.ref r), .val (.int (0 : Int32)), .val (.int n)] [(.int n), (.int n), (.int (0 : Int32))])) rfl (by rw [hml]; rfl) (argsL := [(.int (0 : Int32)), (.int n), (.int n)]) (rest := []) (lenOf pd_11 rfl) rfl (by show 2 * 0 + _ ≤ _; exact Nat.le_of_eq rfl) (hb hby d9_6) (fun _ _ => ⟨rfl, heq1, (by decide : 0 + 0 ≤ _), (by decide : 0 + 0 ≤ _)⟩)
  dsimp only [Pt.U, Pt.locs, Pt.cells, Pt.slots] at X2 l2 y2 z2 st2 hQ2
  subst l2 y2 z2
  obtain ⟨rfl, N2q, heq2⟩ := hQ2
  have N2 := Fr.app N1 N2q
  refine own_by (S' := T2.setTop (mkF m 9 #[.val (.ref r), .val (.int (0 : Int32)), .val (.int n)] [(.int (0 : Int32))])) (fun tZ kZ => st2 _ kZ) ?_
  refine own_by (S' := T2.setTop (mkF m 10 #[.val (.ref r), .val (.int (0 : Int32)), .val (.int n)] [])) (fun tZ kZ => XS.pop X2.here hx rfl (hb hby d9_9) rfl rfl kZ) ?_
  refine own_by (S' := T2.setTop (mkF m 11 #[.val (.ref r), .val (.int (0 : Int32)), .val (.int n)] [(.ref r)])) (fun tZ kZ => XS.aloadN X2.here hx rfl (hb hby d9_10) rfl rfl kZ) ?_
  rcases hcs with ⟨Cc, V_b, hal⟩ | ⟨Cc, V_b⟩
  · obtain ⟨cq3, kq3, q3a, q3b, q3c⟩ := isOf hZ heq2 Ex
    obtain ⟨_, _, ⟨T3, L3, k3, n3⟩, -, X3, ⟨Lc3, hQ3, l3, y3, z3⟩, st3⟩ := X2.virtualBack hx (y := (⟨"java/lang/String", "isLatin1", "()Z"⟩ : MethodName)) (z := (⟨"java/lang/String", "isLatin1", "()Z"⟩ : MethodName)) hown (mvT hZ (hw_ hw 62 rfl)) (mvT hZ (hw_ hw 63 rfl)) (notFace_of_selects (args := #[]) (mvT hZ (hw_ hw 65 rfl))) (mvT hZ (hw_ hw 65 rfl)) (mvT hZ (hw_ hw 64 rfl)) (by decide) (backOf (W := 0) (rmIsL0 l Z a0 hw [] r cz h0 n0 Z0 Cc Sc hcz) hZ (hw_ hw 66 rfl) (hw_ hw 14 rfl) (by decide) (by decide)) q3a q3c (g := (mkF m 11 #[.val (.ref r), .val (.int (0 : Int32)), .val (.int n)] [(.ref r)])) rfl (by rw [hml]; rfl) (Steps.refl _) (argsL := []) (rest := []) (lenOf pd_7 rfl) rfl (by show 2 * 0 + _ ≤ _; exact Nat.le_of_eq rfl) (hb hby d9_11) (fun _ _ => ⟨rfl, heq2, (by decide : 0 + 0 ≤ _), (by decide : 0 + 0 ≤ _)⟩)
    dsimp only [Pt.U, Pt.locs, Pt.cells, Pt.slots] at X3 l3 y3 z3 st3 hQ3
    subst l3 y3 z3
    obtain ⟨rfl, N3q, heq3⟩ := hQ3
    have N3 := Fr.app N2 N3q
    refine own_by (S' := T3.setTop (mkF m 14 #[.val (.ref r), .val (.int (0 : Int32)), .val (.int n)] [(.int (1 : Int32))])) (fun tZ kZ => st3.trans kZ) ?_
    refine own_by (S' := T3.setTop (mkF m 17 #[.val (.ref r), .val (.int (0 : Int32)), .val (.int n)] [])) (fun tZ kZ => XS.ifNo X3.here hx rfl (hb hby d9_14) rfl ((if0 _ _).trans (feq (by decide)).1) kZ) ?_
    refine own_by (S' := T3.setTop (mkF m 18 #[.val (.ref r), .val (.int (0 : Int32)), .val (.int n)] [(.int n)])) (fun tZ kZ => XS.iloadN X3.here hx rfl (hb hby d9_17) rfl kZ) ?_
    refine own_by (S' := T3.setTop (mkF m 19 #[.val (.ref r), .val (.int (0 : Int32)), .val (.int n)] [(.int (0 : Int32)), (.int n)])) (fun tZ kZ => XS.iloadN X3.here hx rfl (hb hby d9_18) rfl kZ) ?_
    refine own_by (S' := T3.setTop (mkF m 20 #[.val (.ref r), .val (.int (0 : Int32)), .val (.int n)] [(.int (n - (0 : Int32)))])) (fun tZ kZ => XS.isub X3.here hx rfl (hb hby d9_19) rfl kZ) ?_
    rw [own_sub0]
    exact own_retI X3 hx (t := .int) Bd.returns (by simp) rfl (hb hby d9_20) Bd.notSynchronized (by decide) (by decide) ⟨_, rfl, (by rw [tCp_f (pr_lat hal)]; exact hn), N3, heq3⟩
  · obtain ⟨cq4, kq4, q4a, q4b, q4c⟩ := isOf hZ heq2 Ex
    obtain ⟨_, _, ⟨T4, L4, k4, n4⟩, -, X4, ⟨Lc4, hQ4, l4, y4, z4⟩, st4⟩ := X2.virtualBack hx (y := (⟨"java/lang/String", "isLatin1", "()Z"⟩ : MethodName)) (z := (⟨"java/lang/String", "isLatin1", "()Z"⟩ : MethodName)) hown (mvT hZ (hw_ hw 62 rfl)) (mvT hZ (hw_ hw 63 rfl)) (notFace_of_selects (args := #[]) (mvT hZ (hw_ hw 65 rfl))) (mvT hZ (hw_ hw 65 rfl)) (mvT hZ (hw_ hw 64 rfl)) (by decide) (backOf (W := 0) (rmIsL1 l Z a0 hw [] r cz h0 n0 Z0 Cc Sc hcz) hZ (hw_ hw 66 rfl) (hw_ hw 14 rfl) (by decide) (by decide)) q4a q4c (g := (mkF m 11 #[.val (.ref r), .val (.int (0 : Int32)), .val (.int n)] [(.ref r)])) rfl (by rw [hml]; rfl) (Steps.refl _) (argsL := []) (rest := []) (lenOf pd_7 rfl) rfl (by show 2 * 0 + _ ≤ _; exact Nat.le_of_eq rfl) (hb hby d9_11) (fun _ _ => ⟨rfl, heq2, (by decide : 0 + 0 ≤ _), (by decide : 0 + 0 ≤ _)⟩)
    dsimp only [Pt.U, Pt.locs, Pt.cells, Pt.slots] at X4 l4 y4 z4 st4 hQ4
    subst l4 y4 z4
    obtain ⟨rfl, N4q, heq4⟩ := hQ4
    have N4 := Fr.app N2 N4q
    refine own_by (S' := T4.setTop (mkF m 14 #[.val (.ref r), .val (.int (0 : Int32)), .val (.int n)] [(.int (0 : Int32))])) (fun tZ kZ => st4.trans kZ) ?_
    refine own_by (S' := T4.setTop (mkF m 21 #[.val (.ref r), .val (.int (0 : Int32)), .val (.int n)] [])) (fun tZ kZ => XS.ifYes X4.here hx rfl (pc0 := 14) (pc' := 21) rfl (hb hby d9_14) rfl ((if0 _ _).trans (teq rfl).1) (by decide) (by decide) kZ) ?_
    refine own_by (S' := T4.setTop (mkF m 22 #[.val (.ref r), .val (.int (0 : Int32)), .val (.int n)] [(.ref r)])) (fun tZ kZ => XS.aloadN X4.here hx rfl (hb hby d9_21) rfl rfl kZ) ?_
    obtain ⟨T5, X5, e5, st5⟩ := getF X4 hx hZ hown (host := "") (Or.inl (hw_ hw 31 rfl)) Via.refl heq4 Vv (g := (mkF m 22 #[.val (.ref r), .val (.int (0 : Int32)), .val (.int n)] [(.ref r)])) rfl rfl (hb hby d9_22)
    refine own_by (S' := T5.setTop (mkF m 25 #[.val (.ref r), .val (.int (0 : Int32)), .val (.int n)] [(.ref bb)])) st5 ?_
    refine own_by (S' := T5.setTop (mkF m 26 #[.val (.ref r), .val (.int (0 : Int32)), .val (.int n)] [(.int (0 : Int32)), (.ref bb)])) (fun tZ kZ => XS.iloadN X5.here hx rfl (hb hby d9_25) rfl kZ) ?_
    refine own_by (S' := T5.setTop (mkF m 27 #[.val (.ref r), .val (.int (0 : Int32)), .val (.int n)] [(.int n), (.int (0 : Int32)), (.ref bb)])) (fun tZ kZ => XS.iloadN X5.here hx rfl (hb hby d9_26) rfl kZ) ?_
    obtain ⟨_, _, ⟨T6, L6, k6, n6⟩, -, X6, ⟨Lc6, hQ6, l6, y6, z6⟩, st6⟩ := Jvm.LawKit.callS X5 hx (y := (⟨"java/lang/StringUTF16", "codePointCount", "([BII)I"⟩ : MethodName)) hown (mvT hZ (hw_ hw 103 rfl)) (mvT hZ (hw_ hw 104 rfl)) (mvT hZ (hw_ hw 70 rfl)) (mvT hZ (hw_ hw 105 rfl)) (by decide) (backOf (W := 0) (rmCp3 l Z a0 hw [] bb kb us n cz fm h0 n0 Z0 V_b hl hn hus W) hZ (hw_ hw 105 rfl) (hw_ hw 70 rfl) (by decide) (by decide)) (g := (mkF m 27 #[.val (.ref r), .val (.int (0 : Int32)), .val (.int n)] [(.int n), (.int (0 : Int32)), (.ref bb)])) rfl (by rw [hml]; rfl) (argsL := [(.ref bb), (.int (0 : Int32)), (.int n)]) (rest := []) (lenOf pd_12 rfl) rfl (by show 2 * 0 + _ ≤ _; exact Nat.le_of_eq rfl) (hb hby d9_27) (fun _ _ => ⟨rfl, e5, (by decide : 0 + 0 ≤ _), (by decide : 0 + 0 ≤ _)⟩)
    dsimp only [Pt.U, Pt.locs, Pt.cells, Pt.slots] at X6 l6 y6 z6 st6 hQ6
    subst l6 y6 z6
    obtain ⟨zr, rfl, hzr, N6q, heq6⟩ := hQ6
    have N6 := Fr.app N4 N6q
    refine own_by (S' := T6.setTop (mkF m 30 #[.val (.ref r), .val (.int (0 : Int32)), .val (.int n)] [(.int zr)])) (fun tZ kZ => st6 _ kZ) ?_
    exact own_retI X6 hx (t := .int) Bd.returns (by simp) rfl (hb hby d9_30) Bd.notSynchronized (by decide) (by decide) ⟨_, rfl, hzr, N6, heq6⟩
theorem d35_0 : decode jdk_89_method_36_code 0 = .ok (.aload_n 0, 1) := by decide +kernel
theorem d35_1 : decode jdk_89_method_36_code 1 = .ok (.invokeinterface 92 1, 5) := by decide +kernel
theorem d35_6 : decode jdk_89_method_36_code 6 = .ok (.istore_n 3, 1) := by decide +kernel
theorem d35_7 : decode jdk_89_method_36_code 7 = .ok (.iload_n 1, 1) := by decide +kernel
theorem d35_8 : decode jdk_89_method_36_code 8 = .ok (.ifCond .lt 8, 3) := by decide +kernel
theorem d35_11 : decode jdk_89_method_36_code 11 = .ok (.iload_n 1, 1) := by decide +kernel
theorem d35_12 : decode jdk_89_method_36_code 12 = .ok (.iload_n 3, 1) := by decide +kernel
theorem d35_13 : decode jdk_89_method_36_code 13 = .ok (.if_icmp .le 11, 3) := by decide +kernel
theorem d35_16 : decode jdk_89_method_36_code 16 = .ok (.new 104, 3) := by decide +kernel
theorem d35_19 : decode jdk_89_method_36_code 19 = .ok (.dup, 1) := by decide +kernel
theorem d35_20 : decode jdk_89_method_36_code 20 = .ok (.invokespecial 106, 3) := by decide +kernel
theorem d35_23 : decode jdk_89_method_36_code 23 = .ok (.athrow, 1) := by decide +kernel
theorem d35_24 : decode jdk_89_method_36_code 24 = .ok (.iload_n 1, 1) := by decide +kernel
theorem d35_25 : decode jdk_89_method_36_code 25 = .ok (.istore 4, 2) := by decide +kernel
theorem d35_27 : decode jdk_89_method_36_code 27 = .ok (.iload_n 2, 1) := by decide +kernel
theorem d35_28 : decode jdk_89_method_36_code 28 = .ok (.ifCond .lt 81, 3) := by decide +kernel
theorem d35_31 : decode jdk_89_method_36_code 31 = .ok (.iconst 0, 1) := by decide +kernel
theorem d35_32 : decode jdk_89_method_36_code 32 = .ok (.istore 5, 2) := by decide +kernel
theorem d35_34 : decode jdk_89_method_36_code 34 = .ok (.iload 4, 2) := by decide +kernel
theorem d35_36 : decode jdk_89_method_36_code 36 = .ok (.iload_n 3, 1) := by decide +kernel
theorem d35_37 : decode jdk_89_method_36_code 37 = .ok (.if_icmp .ge 55, 3) := by decide +kernel
theorem d35_40 : decode jdk_89_method_36_code 40 = .ok (.iload 5, 2) := by decide +kernel
theorem d35_42 : decode jdk_89_method_36_code 42 = .ok (.iload_n 2, 1) := by decide +kernel
theorem d35_43 : decode jdk_89_method_36_code 43 = .ok (.if_icmp .ge 49, 3) := by decide +kernel
theorem d35_46 : decode jdk_89_method_36_code 46 = .ok (.aload_n 0, 1) := by decide +kernel
theorem d35_47 : decode jdk_89_method_36_code 47 = .ok (.iload 4, 2) := by decide +kernel
theorem d35_49 : decode jdk_89_method_36_code 49 = .ok (.iinc 4 1, 3) := by decide +kernel
theorem d35_52 : decode jdk_89_method_36_code 52 = .ok (.invokeinterface 86 2, 5) := by decide +kernel
theorem d35_57 : decode jdk_89_method_36_code 57 = .ok (.invokestatic 78, 3) := by decide +kernel
theorem d35_60 : decode jdk_89_method_36_code 60 = .ok (.ifCond .eq 26, 3) := by decide +kernel
theorem d35_63 : decode jdk_89_method_36_code 63 = .ok (.iload 4, 2) := by decide +kernel
theorem d35_65 : decode jdk_89_method_36_code 65 = .ok (.iload_n 3, 1) := by decide +kernel
theorem d35_66 : decode jdk_89_method_36_code 66 = .ok (.if_icmp .ge 20, 3) := by decide +kernel
theorem d35_69 : decode jdk_89_method_36_code 69 = .ok (.aload_n 0, 1) := by decide +kernel
theorem d35_70 : decode jdk_89_method_36_code 70 = .ok (.iload 4, 2) := by decide +kernel
theorem d35_72 : decode jdk_89_method_36_code 72 = .ok (.invokeinterface 86 2, 5) := by decide +kernel
theorem d35_77 : decode jdk_89_method_36_code 77 = .ok (.invokestatic 82, 3) := by decide +kernel
theorem d35_80 : decode jdk_89_method_36_code 80 = .ok (.ifCond .eq 6, 3) := by decide +kernel
theorem d35_83 : decode jdk_89_method_36_code 83 = .ok (.iinc 4 1, 3) := by decide +kernel
theorem d35_86 : decode jdk_89_method_36_code 86 = .ok (.iinc 5 1, 3) := by decide +kernel
theorem d35_89 : decode jdk_89_method_36_code 89 = .ok (.goto (-55), 3) := by decide +kernel
theorem d35_92 : decode jdk_89_method_36_code 92 = .ok (.iload 5, 2) := by decide +kernel
theorem d35_94 : decode jdk_89_method_36_code 94 = .ok (.iload_n 2, 1) := by decide +kernel
theorem d35_95 : decode jdk_89_method_36_code 95 = .ok (.if_icmp .ge 11, 3) := by decide +kernel
theorem d35_98 : decode jdk_89_method_36_code 98 = .ok (.new 104, 3) := by decide +kernel
theorem d35_101 : decode jdk_89_method_36_code 101 = .ok (.dup, 1) := by decide +kernel
theorem d35_102 : decode jdk_89_method_36_code 102 = .ok (.invokespecial 106, 3) := by decide +kernel
theorem d35_105 : decode jdk_89_method_36_code 105 = .ok (.athrow, 1) := by decide +kernel
theorem d35_106 : decode jdk_89_method_36_code 106 = .ok (.goto 76, 3) := by decide +kernel
theorem d35_109 : decode jdk_89_method_36_code 109 = .ok (.iload_n 2, 1) := by decide +kernel
theorem d35_110 : decode jdk_89_method_36_code 110 = .ok (.istore 5, 2) := by decide +kernel
theorem d35_112 : decode jdk_89_method_36_code 112 = .ok (.iload 4, 2) := by decide +kernel
theorem d35_114 : decode jdk_89_method_36_code 114 = .ok (.ifCond .le 55, 3) := by decide +kernel
theorem d35_117 : decode jdk_89_method_36_code 117 = .ok (.iload 5, 2) := by decide +kernel
theorem d35_119 : decode jdk_89_method_36_code 119 = .ok (.ifCond .ge 50, 3) := by decide +kernel
theorem d35_122 : decode jdk_89_method_36_code 122 = .ok (.aload_n 0, 1) := by decide +kernel
theorem d35_123 : decode jdk_89_method_36_code 123 = .ok (.iinc 4 (-1), 3) := by decide +kernel
theorem d35_126 : decode jdk_89_method_36_code 126 = .ok (.iload 4, 2) := by decide +kernel
theorem d35_128 : decode jdk_89_method_36_code 128 = .ok (.invokeinterface 86 2, 5) := by decide +kernel
theorem d35_133 : decode jdk_89_method_36_code 133 = .ok (.invokestatic 82, 3) := by decide +kernel
theorem d35_136 : decode jdk_89_method_36_code 136 = .ok (.ifCond .eq 27, 3) := by decide +kernel
theorem d35_139 : decode jdk_89_method_36_code 139 = .ok (.iload 4, 2) := by decide +kernel
theorem d35_141 : decode jdk_89_method_36_code 141 = .ok (.ifCond .le 22, 3) := by decide +kernel
theorem d35_144 : decode jdk_89_method_36_code 144 = .ok (.aload_n 0, 1) := by decide +kernel
theorem d35_145 : decode jdk_89_method_36_code 145 = .ok (.iload 4, 2) := by decide +kernel
theorem d35_147 : decode jdk_89_method_36_code 147 = .ok (.iconst 1, 1) := by decide +kernel
theorem d35_148 : decode jdk_89_method_36_code 148 = .ok (.isub, 1) := by decide +kernel
theorem d35_149 : decode jdk_89_method_36_code 149 = .ok (.invokeinterface 86 2, 5) := by decide +kernel
theorem d35_154 : decode jdk_89_method_36_code 154 = .ok (.invokestatic 78, 3) := by decide +kernel
theorem d35_157 : decode jdk_89_method_36_code 157 = .ok (.ifCond .eq 6, 3) := by decide +kernel
theorem d35_160 : decode jdk_89_method_36_code 160 = .ok (.iinc 4 (-1), 3) := by decide +kernel
theorem d35_163 : decode jdk_89_method_36_code 163 = .ok (.iinc 5 1, 3) := by decide +kernel
theorem d35_166 : decode jdk_89_method_36_code 166 = .ok (.goto (-54), 3) := by decide +kernel
theorem d35_169 : decode jdk_89_method_36_code 169 = .ok (.iload 5, 2) := by decide +kernel
theorem d35_171 : decode jdk_89_method_36_code 171 = .ok (.ifCond .ge 11, 3) := by decide +kernel
theorem d35_174 : decode jdk_89_method_36_code 174 = .ok (.new 104, 3) := by decide +kernel
theorem d35_177 : decode jdk_89_method_36_code 177 = .ok (.dup, 1) := by decide +kernel
theorem d35_178 : decode jdk_89_method_36_code 178 = .ok (.invokespecial 106, 3) := by decide +kernel
theorem d35_181 : decode jdk_89_method_36_code 181 = .ok (.athrow, 1) := by decide +kernel
theorem d35_182 : decode jdk_89_method_36_code 182 = .ok (.iload 4, 2) := by decide +kernel
theorem d35_184 : decode jdk_89_method_36_code 184 = .ok (.ireturn, 1) := by decide +kernel
theorem ef_rmOff (m : MethodId) (r : Addr) (mm : Int32) : entryFrame m #[(.ref r), (.int (0 : Int32)), (.int mm)] 6 = mkF m 0 #[.val (.ref r), .val (.int (0 : Int32)), .val (.int mm), .unset, .unset, .unset] [] := by first | (simp [entryFrame, mkF, argsToLocals, Value.category, maxLocals]; done) | rfl
set_option maxRecDepth 65536 in
set_option maxHeartbeats 40000000 in
theorem rmOff (l : Launch) (Z : State) (a0 : Array Value) (hw : ∀ d ∈ tables_1, d.before a0 Z = true) (ws : List Jvm.Cond) (r : Addr) (us : List Int32) (n mm : Int32) (M E : Nat) (cz : Int32) (fm : Value) (h0 : Heap) (n0 : Nat) (Z0 : n0 ≤ h0.size) (S : OwnStr Z h0 r us) (hl : us.length ≤ 4) (W : OwnW Z h0 cz fm) (hn : n.toInt = us.length) (hus : ∀ q ∈ us, CU q) (hm : mm.toInt = M) (hO : tOff (pr us) us.length M 4 0 0 = (E, M)) :
    MetFree l (⟨"java/lang/Character", "offsetByCodePoints", "(Ljava/lang/CharSequence;II)I"⟩ : MethodName) (head1 (Jvm.Cond.code (⟨"java/lang/Character", "offsetByCodePoints", "(Ljava/lang/CharSequence;II)I"⟩ : MethodName) jdk_89_method_36_code (6 : Nat) (Option.some Jvm.ClassFile.FieldType.int) :: ws) ({ frames := 5, cells := 0, slots := 0, locals := 66 } : Room)) (fun aZ UZ => aZ = #[(.ref r), (.int (0 : Int32)), (.int mm)] ∧ Z.Warmed39 UZ.vm ∧ UZ.heap = h0) (fun _ _ _ _ _ => True) (fun _ UZ oZ VZ => ∃ vZ LZ, oZ = .returned vZ ∧ (QU (fun z => z.toInt = (E : Int)) h0 n0) vZ VZ.heap LZ ∧ FrameEnd UZ oZ VZ LZ ({ frames := 5, cells := 0, slots := 0, locals := 66 } : Room).cells ({ frames := 5, cells := 0, slots := 0, locals := 66 } : Room).slots) := by
  refine MetFree.of_bodySF (plainFor_of_name pn_6) hisR ?_
  intro p e s m args below meth c s₁ Bd hml0 hP hK
  obtain ⟨rfl, hZ, hh⟩ := hP
  have hx := Bd.exec
  have hby := Bd.bytes
  have hml : c.maxLocals = 6 := hml0
  have hown : s.vm.findClass "java/lang/Character" = some m.cls := findClass_of_methodNamed Bd.named
  have hnm := (name_of_methodNamed Bd.named Bd.method).1
  have X0 : Stand p l e ({ frames := 5, cells := 0, slots := 0, locals := 66 } : Room) s m #[(.ref r), (.int (0 : Int32)), (.int mm)] below meth c s₁ [] 0 0 := Stand.of_body Bd
  have e0 : s₁.heap = h0 := by rw [← hh, Bd.state]; rfl
  have N0 := Fr.nil n0
  show OwnG p e below (OwnE s (QU (fun z => z.toInt = (E : Int)) h0 n0) ({ frames := 5, cells := 0, slots := 0, locals := 66 } : Room).cells ({ frames := 5, cells := 0, slots := 0, locals := 66 } : Room).slots) _
  refine own_by (S' := s₁.setTop (mkF m 0 #[.val (.ref r), .val (.int (0 : Int32)), .val (.int mm), .unset, .unset, .unset] [])) (fun tZ kZ => castTop (ef_rmOff m r mm) kZ) ?_
  refine own_by (S' := s₁.setTop (mkF m 1 #[.val (.ref r), .val (.int (0 : Int32)), .val (.int mm), .unset, .unset, .unset] [(.ref r)])) (fun tZ kZ => XS.aloadN X0.here hx rfl (hb hby d35_0) rfl rfl kZ) ?_
  obtain ⟨cq1, kq1, q1a, q1b, q1c⟩ := isOf hZ e0 S.1
  obtain ⟨_, _, ⟨T1, L1, k1, n1⟩, -, X1, ⟨Lc1, hQ1, l1, y1, z1⟩, st1⟩ := X0.interfaceBack hx (xi := (⟨"java/lang/CharSequence", "length", "()I"⟩ : MethodName)) (y := (⟨"java/lang/String", "length", "()I"⟩ : MethodName)) hown (mvT hZ (hw_ hw 153 rfl)) (mvT hZ (hw_ hw 154 rfl)) (mvT hZ (hw_ hw 155 rfl)) (mvT hZ (hw_ hw 156 rfl)) (mvT hZ (hw_ hw 39 rfl)) (mvT hZ (hw_ hw 157 rfl)) (mvT hZ (hw_ hw 158 rfl)) (mvT hZ (hw_ hw 159 rfl)) (by decide) (backOf (W := 0) (rmLen l Z a0 hw [] r us n cz fm h0 n0 Z0 hn S hl W) hZ (hw_ hw 41 rfl) (hw_ hw 14 rfl) (by decide) (by decide)) q1a q1b q1c (g := (mkF m 1 #[.val (.ref r), .val (.int (0 : Int32)), .val (.int mm), .unset, .unset, .unset] [(.ref r)])) rfl (by rw [hml]; rfl) (Steps.refl _) (argsL := []) (rest := []) (lenOf pd_10 rfl) rfl (by show 2 * 0 + _ ≤ _; exact Nat.le_of_eq rfl) (hb hby d35_1) (fun _ _ => ⟨rfl, e0, (by decide : 0 + 0 ≤ _), (by decide : 0 + 0 ≤ _)⟩)
  dsimp only [Pt.U, Pt.locs, Pt.cells, Pt.slots] at X1 l1 y1 z1 st1 hQ1
  subst l1 y1 z1
  obtain ⟨rfl, N1q, heq1⟩ := hQ1
  have N1 := Fr.app N0 N1q
  refine own_by (S' := T1.setTop (mkF m 6 #[.val (.ref r), .val (.int (0 : Int32)), .val (.int mm), .unset, .unset, .unset] [(.int n)])) (fun tZ kZ => st1.trans kZ) ?_
  refine own_by (S' := T1.setTop (mkF m 7 #[.val (.ref r), .val (.int (0 : Int32)), .val (.int mm), .val (.int n), .unset, .unset] [])) (fun tZ kZ => XS.istoreN X1.here hx rfl (hb hby d35_6) rfl (l' := #[.val (.ref r), .val (.int (0 : Int32)), .val (.int mm), .val (.int n), .unset, .unset]) rfl kZ) ?_
  refine own_by (S' := T1.setTop (mkF m 8 #[.val (.ref r), .val (.int (0 : Int32)), .val (.int mm), .val (.int n), .unset, .unset] [(.int (0 : Int32))])) (fun tZ kZ => XS.iloadN X1.here hx rfl (hb hby d35_7) rfl kZ) ?_
  refine own_by (S' := T1.setTop (mkF m 11 #[.val (.ref r), .val (.int (0 : Int32)), .val (.int mm), .val (.int n), .unset, .unset] [])) (fun tZ kZ => XS.ifNo X1.here hx rfl (hb hby d35_8) rfl ((if0 _ _).trans (flt (by decide)).1) kZ) ?_
  refine own_by (S' := T1.setTop (mkF m 12 #[.val (.ref r), .val (.int (0 : Int32)), .val (.int mm), .val (.int n), .unset, .unset] [(.int (0 : Int32))])) (fun tZ kZ => XS.iloadN X1.here hx rfl (hb hby d35_11) rfl kZ) ?_
  refine own_by (S' := T1.setTop (mkF m 13 #[.val (.ref r), .val (.int (0 : Int32)), .val (.int mm), .val (.int n), .unset, .unset] [(.int n), (.int (0 : Int32))])) (fun tZ kZ => XS.iloadN X1.here hx rfl (hb hby d35_12) rfl kZ) ?_
  refine own_by (S' := T1.setTop (mkF m 24 #[.val (.ref r), .val (.int (0 : Int32)), .val (.int mm), .val (.int n), .unset, .unset] [])) (fun tZ kZ => XS.icmpYes X1.here hx rfl (pc0 := 13) (pc' := 24) rfl (hb hby d35_13) rfl (flt (own_nneg hn)).2.2.2 (by decide) (by decide) kZ) ?_
  refine own_by (S' := T1.setTop (mkF m 25 #[.val (.ref r), .val (.int (0 : Int32)), .val (.int mm), .val (.int n), .unset, .unset] [(.int (0 : Int32))])) (fun tZ kZ => XS.iloadN X1.here hx rfl (hb hby d35_24) rfl kZ) ?_
  refine own_by (S' := T1.setTop (mkF m 27 #[.val (.ref r), .val (.int (0 : Int32)), .val (.int mm), .val (.int n), .val (.int (0 : Int32)), .unset] [])) (fun tZ kZ => XS.istore X1.here hx rfl (hb hby d35_25) rfl (l' := #[.val (.ref r), .val (.int (0 : Int32)), .val (.int mm), .val (.int n), .val (.int (0 : Int32)), .unset]) rfl kZ) ?_
  refine own_by (S' := T1.setTop (mkF m 28 #[.val (.ref r), .val (.int (0 : Int32)), .val (.int mm), .val (.int n), .val (.int (0 : Int32)), .unset] [(.int mm)])) (fun tZ kZ => XS.iloadN X1.here hx rfl (hb hby d35_27) rfl kZ) ?_
  refine own_by (S' := T1.setTop (mkF m 31 #[.val (.ref r), .val (.int (0 : Int32)), .val (.int mm), .val (.int n), .val (.int (0 : Int32)), .unset] [])) (fun tZ kZ => XS.ifNo X1.here hx rfl (hb hby d35_28) rfl ((if0 _ _).trans (flt (own_nneg hm)).1) kZ) ?_
  refine own_by (S' := T1.setTop (mkF m 32 #[.val (.ref r), .val (.int (0 : Int32)), .val (.int mm), .val (.int n), .val (.int (0 : Int32)), .unset] [(.int (0 : Int32))])) (fun tZ kZ => XS.iconst X1.here hx rfl (hb hby d35_31) kZ) ?_
  refine own_by (S' := T1.setTop (mkF m 34 #[.val (.ref r), .val (.int (0 : Int32)), .val (.int mm), .val (.int n), .val (.int (0 : Int32)), .val (.int (0 : Int32))] [])) (fun tZ kZ => XS.istore X1.here hx rfl (hb hby d35_32) rfl (l' := #[.val (.ref r), .val (.int (0 : Int32)), .val (.int mm), .val (.int n), .val (.int (0 : Int32)), .val (.int (0 : Int32))]) rfl kZ) ?_
  have J34 : ∀ (f : Nat) (Tj2 : State) (Lj2 : List Loc) (hj2 : Heap) (k cc : Nat) (vi vc : Int32) (Xj2 : Stand p l e ({ frames := 5, cells := 0, slots := 0, locals := 66 } : Room) s m #[(.ref r), (.int (0 : Int32)), (.int mm)] below meth c Tj2 Lj2 0 0) (ej2 : Tj2.heap = hj2) (Nj2 : Fr n0 Lj2) (Kj2 : Keep h0 hj2 []) (hvi : vi.toInt = k) (hvc : vc.toInt = cc) (hf : us.length ≤ k + f) (hck : cc ≤ k) (hk5 : k ≤ us.length) (hr : tOff (pr us) us.length M f k cc = (E, M)) (hSame : h0 = hj2), OwnG p e below (OwnE s (QU (fun z => z.toInt = (E : Int)) h0 n0) ({ frames := 5, cells := 0, slots := 0, locals := 66 } : Room).cells ({ frames := 5, cells := 0, slots := 0, locals := 66 } : Room).slots) (Tj2.setTop (mkF m 34 #[.val (.ref r), .val (.int (0 : Int32)), .val (.int mm), .val (.int n), .val (.int vi), .val (.int vc)] [])) := by
    intro f
    induction f using Nat.strongRecOn with
    | ind f ih =>
      intro Tj2 Lj2 hj2 k cc vi vc Xj2 ej2 Nj2 Kj2 hvi hvc hf hck hk5 hr hSame
      subst hSame
      refine own_by (S' := Tj2.setTop (mkF m 36 #[.val (.ref r), .val (.int (0 : Int32)), .val (.int mm), .val (.int n), .val (.int vi), .val (.int vc)] [(.int vi)])) (fun tZ kZ => XS.iload Xj2.here hx rfl (hb hby d35_34) rfl kZ) ?_
      refine own_by (S' := Tj2.setTop (mkF m 37 #[.val (.ref r), .val (.int (0 : Int32)), .val (.int mm), .val (.int n), .val (.int vi), .val (.int vc)] [(.int n), (.int vi)])) (fun tZ kZ => XS.iloadN Xj2.here hx rfl (hb hby d35_36) rfl kZ) ?_
      by_cases dg1 : vi < n
      · refine own_by (S' := Tj2.setTop (mkF m 40 #[.val (.ref r), .val (.int (0 : Int32)), .val (.int mm), .val (.int n), .val (.int vi), .val (.int vc)] [])) (fun tZ kZ => XS.icmpNo Xj2.here hx rfl (hb hby d35_37) rfl (tlt dg1).2.1 kZ) ?_
        refine own_by (S' := Tj2.setTop (mkF m 42 #[.val (.ref r), .val (.int (0 : Int32)), .val (.int mm), .val (.int n), .val (.int vi), .val (.int vc)] [(.int vc)])) (fun tZ kZ => XS.iload Xj2.here hx rfl (hb hby d35_40) rfl kZ) ?_
        refine own_by (S' := Tj2.setTop (mkF m 43 #[.val (.ref r), .val (.int (0 : Int32)), .val (.int mm), .val (.int n), .val (.int vi), .val (.int vc)] [(.int mm), (.int vc)])) (fun tZ kZ => XS.iloadN Xj2.here hx rfl (hb hby d35_42) rfl kZ) ?_
        by_cases dg2 : vc < mm
        · refine own_by (S' := Tj2.setTop (mkF m 46 #[.val (.ref r), .val (.int (0 : Int32)), .val (.int mm), .val (.int n), .val (.int vi), .val (.int vc)] [])) (fun tZ kZ => XS.icmpNo Xj2.here hx rfl (hb hby d35_43) rfl (tlt dg2).2.1 kZ) ?_
          have dg3 := (own_lt hvi hn).mp dg1
          have dg4 := (own_lt hvc hm).mp dg2
          obtain ⟨f', rfl⟩ : ∃ f', f = f' + 1 := ⟨f - 1, by omega⟩
          rw [tOff_s dg3 dg4] at hr
          have hi1 : (vi + (1 : Int32)).toInt = ((k + 1 : Nat) : Int) := own_inc hvi (by omega)
          have hc1 : (vc + (1 : Int32)).toInt = ((cc + 1 : Nat) : Int) := own_inc hvc (by omega)
          obtain ⟨u, hu, hum⟩ := own_getq (us := us) (k := k) (by omega)
          refine own_by (S' := Tj2.setTop (mkF m 47 #[.val (.ref r), .val (.int (0 : Int32)), .val (.int mm), .val (.int n), .val (.int vi), .val (.int vc)] [(.ref r)])) (fun tZ kZ => XS.aloadN Xj2.here hx rfl (hb hby d35_46) rfl rfl kZ) ?_
          refine own_by (S' := Tj2.setTop (mkF m 49 #[.val (.ref r), .val (.int (0 : Int32)), .val (.int mm), .val (.int n), .val (.int vi), .val (.int vc)] [(.int vi), (.ref r)])) (fun tZ kZ => XS.iload Xj2.here hx rfl (hb hby d35_47) rfl kZ) ?_
          refine own_by (S' := Tj2.setTop (mkF m 52 #[.val (.ref r), .val (.int (0 : Int32)), .val (.int mm), .val (.int n), .val (.int (vi + (1 : Int32))), .val (.int vc)] [(.int vi), (.ref r)])) (fun tZ kZ => XS.iinc Xj2.here hx rfl (hb hby d35_49) rfl (l' := #[.val (.ref r), .val (.int (0 : Int32)), .val (.int mm), .val (.int n), .val (.int (vi + (1 : Int32))), .val (.int vc)]) rfl kZ) ?_
          obtain ⟨cq3, kq3, q3a, q3b, q3c⟩ := isOf hZ ej2 S.1
          obtain ⟨_, _, ⟨T3, L3, k3, n3⟩, -, X3, ⟨Lc3, hQ3, l3, y3, z3⟩, st3⟩ := Xj2.interfaceBack hx (xi := (⟨"java/lang/CharSequence", "charAt", "(I)C"⟩ : MethodName)) (y := (⟨"java/lang/String", "charAt", "(I)C"⟩ : MethodName)) hown (mvT hZ (hw_ hw 178 rfl)) (mvT hZ (hw_ hw 179 rfl)) (mvT hZ (hw_ hw 180 rfl)) (mvT hZ (hw_ hw 181 rfl)) (mvT hZ (hw_ hw 116 rfl)) (mvT hZ (hw_ hw 182 rfl)) (mvT hZ (hw_ hw 183 rfl)) (mvT hZ (hw_ hw 159 rfl)) (by decide) (backOf (W := 0) (rmCh l Z a0 hw [] r us vi k u cz fm h0 n0 Z0 S hl W hvi hu (hus _ hum)) hZ (hw_ hw 118 rfl) (hw_ hw 14 rfl) (by decide) (by decide)) q3a q3b q3c (g := (mkF m 52 #[.val (.ref r), .val (.int (0 : Int32)), .val (.int mm), .val (.int n), .val (.int (vi + (1 : Int32))), .val (.int vc)] [(.int vi), (.ref r)])) rfl (by rw [hml]; rfl) (Steps.refl _) (argsL := [(.int vi)]) (rest := []) (lenOf pd_13 rfl) rfl (by show 2 * 0 + _ ≤ _; exact Nat.le_of_eq rfl) (hb hby d35_52) (fun _ _ => ⟨rfl, ej2, (by decide : 0 + 0 ≤ _), (by decide : 0 + 0 ≤ _)⟩)
          dsimp only [Pt.U, Pt.locs, Pt.cells, Pt.slots] at X3 l3 y3 z3 st3 hQ3
          subst l3 y3 z3
          obtain ⟨rfl, N3q, heq3⟩ := hQ3
          have N3 := Fr.app Nj2 N3q
          refine own_by (S' := T3.setTop (mkF m 57 #[.val (.ref r), .val (.int (0 : Int32)), .val (.int mm), .val (.int n), .val (.int (vi + (1 : Int32))), .val (.int vc)] [(.int u)])) (fun tZ kZ => st3.trans kZ) ?_
          obtain ⟨_, _, ⟨T4, L4, k4, n4⟩, -, X4, ⟨Lc4, hQ4, l4, y4, z4⟩, st4⟩ := Jvm.LawKit.callS X3 hx (y := (⟨"java/lang/Character", "isHighSurrogate", "(C)Z"⟩ : MethodName)) hown (mvT hZ (hw_ hw 184 rfl)) (mvT hZ (hw_ hw 110 rfl)) (mvT hZ (hw_ hw 111 rfl)) (mvT hZ (hw_ hw 112 rfl)) (by decide) (backOf (W := 0) (rmHS l Z a0 hw [] u h0 n0 Z0) hZ (hw_ hw 112 rfl) (hw_ hw 111 rfl) (by decide) (by decide)) (g := (mkF m 57 #[.val (.ref r), .val (.int (0 : Int32)), .val (.int mm), .val (.int n), .val (.int (vi + (1 : Int32))), .val (.int vc)] [(.int u)])) rfl (by rw [hml]; rfl) (argsL := [(.int u)]) (rest := []) (lenOf pd_8 rfl) rfl (by show 2 * 0 + _ ≤ _; exact Nat.le_of_eq rfl) (hb hby d35_57) (fun _ _ => ⟨rfl, heq3, (by decide : 0 + 0 ≤ _), (by decide : 0 + 0 ≤ _)⟩)
          dsimp only [Pt.U, Pt.locs, Pt.cells, Pt.slots] at X4 l4 y4 z4 st4 hQ4
          subst l4 y4 z4
          obtain ⟨rfl, N4q, heq4⟩ := hQ4
          have N4 := Fr.app N3 N4q
          refine own_by (S' := T4.setTop (mkF m 60 #[.val (.ref r), .val (.int (0 : Int32)), .val (.int mm), .val (.int n), .val (.int (vi + (1 : Int32))), .val (.int vc)] [(.int (if isH u = true then (1 : Int32) else 0))])) (fun tZ kZ => st4 _ kZ) ?_
          by_cases gH : isH u = true
          · rw [if_pos gH]
            refine own_by (S' := T4.setTop (mkF m 63 #[.val (.ref r), .val (.int (0 : Int32)), .val (.int mm), .val (.int n), .val (.int (vi + (1 : Int32))), .val (.int vc)] [])) (fun tZ kZ => XS.ifNo X4.here hx rfl (hb hby d35_60) rfl ((if0 _ _).trans (feq (by decide)).1) kZ) ?_
            refine own_by (S' := T4.setTop (mkF m 65 #[.val (.ref r), .val (.int (0 : Int32)), .val (.int mm), .val (.int n), .val (.int (vi + (1 : Int32))), .val (.int vc)] [(.int (vi + (1 : Int32)))])) (fun tZ kZ => XS.iload X4.here hx rfl (hb hby d35_63) rfl kZ) ?_
            refine own_by (S' := T4.setTop (mkF m 66 #[.val (.ref r), .val (.int (0 : Int32)), .val (.int mm), .val (.int n), .val (.int (vi + (1 : Int32))), .val (.int vc)] [(.int n), (.int (vi + (1 : Int32)))])) (fun tZ kZ => XS.iloadN X4.here hx rfl (hb hby d35_65) rfl kZ) ?_
            by_cases dg5 : (vi + (1 : Int32)) < n
            · refine own_by (S' := T4.setTop (mkF m 69 #[.val (.ref r), .val (.int (0 : Int32)), .val (.int mm), .val (.int n), .val (.int (vi + (1 : Int32))), .val (.int vc)] [])) (fun tZ kZ => XS.icmpNo X4.here hx rfl (hb hby d35_66) rfl (tlt dg5).2.1 kZ) ?_
              have dg6 := (own_lt hi1 hn).mp dg5
              obtain ⟨u2, hu2, hum2⟩ := own_getq (us := us) (k := k + 1) (by omega)
              refine own_by (S' := T4.setTop (mkF m 70 #[.val (.ref r), .val (.int (0 : Int32)), .val (.int mm), .val (.int n), .val (.int (vi + (1 : Int32))), .val (.int vc)] [(.ref r)])) (fun tZ kZ => XS.aloadN X4.here hx rfl (hb hby d35_69) rfl rfl kZ) ?_
              refine own_by (S' := T4.setTop (mkF m 72 #[.val (.ref r), .val (.int (0 : Int32)), .val (.int mm), .val (.int n), .val (.int (vi + (1 : Int32))), .val (.int vc)] [(.int (vi + (1 : Int32))), (.ref r)])) (fun tZ kZ => XS.iload X4.here hx rfl (hb hby d35_70) rfl kZ) ?_
              obtain ⟨cq5, kq5, q5a, q5b, q5c⟩ := isOf hZ heq4 S.1
              obtain ⟨_, _, ⟨T5, L5, k5, n5⟩, -, X5, ⟨Lc5, hQ5, l5, y5, z5⟩, st5⟩ := X4.interfaceBack hx (xi := (⟨"java/lang/CharSequence", "charAt", "(I)C"⟩ : MethodName)) (y := (⟨"java/lang/String", "charAt", "(I)C"⟩ : MethodName)) hown (mvT hZ (hw_ hw 178 rfl)) (mvT hZ (hw_ hw 179 rfl)) (mvT hZ (hw_ hw 180 rfl)) (mvT hZ (hw_ hw 181 rfl)) (mvT hZ (hw_ hw 116 rfl)) (mvT hZ (hw_ hw 182 rfl)) (mvT hZ (hw_ hw 183 rfl)) (mvT hZ (hw_ hw 159 rfl)) (by decide) (backOf (W := 0) (rmCh l Z a0 hw [] r us (vi + (1 : Int32)) (k + 1) u2 cz fm h0 n0 Z0 S hl W hi1 hu2 (hus _ hum2)) hZ (hw_ hw 118 rfl) (hw_ hw 14 rfl) (by decide) (by decide)) q5a q5b q5c (g := (mkF m 72 #[.val (.ref r), .val (.int (0 : Int32)), .val (.int mm), .val (.int n), .val (.int (vi + (1 : Int32))), .val (.int vc)] [(.int (vi + (1 : Int32))), (.ref r)])) rfl (by rw [hml]; rfl) (Steps.refl _) (argsL := [(.int (vi + (1 : Int32)))]) (rest := []) (lenOf pd_13 rfl) rfl (by show 2 * 0 + _ ≤ _; exact Nat.le_of_eq rfl) (hb hby d35_72) (fun _ _ => ⟨rfl, heq4, (by decide : 0 + 0 ≤ _), (by decide : 0 + 0 ≤ _)⟩)
              dsimp only [Pt.U, Pt.locs, Pt.cells, Pt.slots] at X5 l5 y5 z5 st5 hQ5
              subst l5 y5 z5
              obtain ⟨rfl, N5q, heq5⟩ := hQ5
              have N5 := Fr.app N4 N5q
              refine own_by (S' := T5.setTop (mkF m 77 #[.val (.ref r), .val (.int (0 : Int32)), .val (.int mm), .val (.int n), .val (.int (vi + (1 : Int32))), .val (.int vc)] [(.int u2)])) (fun tZ kZ => st5.trans kZ) ?_
              obtain ⟨_, _, ⟨T6, L6, k6, n6⟩, -, X6, ⟨Lc6, hQ6, l6, y6, z6⟩, st6⟩ := Jvm.LawKit.callS X5 hx (y := (⟨"java/lang/Character", "isLowSurrogate", "(C)Z"⟩ : MethodName)) hown (mvT hZ (hw_ hw 185 rfl)) (mvT hZ (hw_ hw 141 rfl)) (mvT hZ (hw_ hw 111 rfl)) (mvT hZ (hw_ hw 142 rfl)) (by decide) (backOf (W := 0) (rmLS l Z a0 hw [] u2 h0 n0 Z0) hZ (hw_ hw 142 rfl) (hw_ hw 111 rfl) (by decide) (by decide)) (g := (mkF m 77 #[.val (.ref r), .val (.int (0 : Int32)), .val (.int mm), .val (.int n), .val (.int (vi + (1 : Int32))), .val (.int vc)] [(.int u2)])) rfl (by rw [hml]; rfl) (argsL := [(.int u2)]) (rest := []) (lenOf pd_8 rfl) rfl (by show 2 * 0 + _ ≤ _; exact Nat.le_of_eq rfl) (hb hby d35_77) (fun _ _ => ⟨rfl, heq5, (by decide : 0 + 0 ≤ _), (by decide : 0 + 0 ≤ _)⟩)
              dsimp only [Pt.U, Pt.locs, Pt.cells, Pt.slots] at X6 l6 y6 z6 st6 hQ6
              subst l6 y6 z6
              obtain ⟨rfl, N6q, heq6⟩ := hQ6
              have N6 := Fr.app N5 N6q
              refine own_by (S' := T6.setTop (mkF m 80 #[.val (.ref r), .val (.int (0 : Int32)), .val (.int mm), .val (.int n), .val (.int (vi + (1 : Int32))), .val (.int vc)] [(.int (if isLo u2 = true then (1 : Int32) else 0))])) (fun tZ kZ => st6 _ kZ) ?_
              by_cases gL : isLo u2 = true
              · rw [if_pos gL]
                refine own_by (S' := T6.setTop (mkF m 83 #[.val (.ref r), .val (.int (0 : Int32)), .val (.int mm), .val (.int n), .val (.int (vi + (1 : Int32))), .val (.int vc)] [])) (fun tZ kZ => XS.ifNo X6.here hx rfl (hb hby d35_80) rfl ((if0 _ _).trans (feq (by decide)).1) kZ) ?_
                refine own_by (S' := T6.setTop (mkF m 86 #[.val (.ref r), .val (.int (0 : Int32)), .val (.int mm), .val (.int n), .val (.int ((vi + (1 : Int32)) + (1 : Int32))), .val (.int vc)] [])) (fun tZ kZ => XS.iinc X6.here hx rfl (hb hby d35_83) rfl (l' := #[.val (.ref r), .val (.int (0 : Int32)), .val (.int mm), .val (.int n), .val (.int ((vi + (1 : Int32)) + (1 : Int32))), .val (.int vc)]) rfl kZ) ?_
                refine own_by (S' := T6.setTop (mkF m 89 #[.val (.ref r), .val (.int (0 : Int32)), .val (.int mm), .val (.int n), .val (.int ((vi + (1 : Int32)) + (1 : Int32))), .val (.int (vc + (1 : Int32)))] [])) (fun tZ kZ => XS.iinc X6.here hx rfl (hb hby d35_86) rfl (l' := #[.val (.ref r), .val (.int (0 : Int32)), .val (.int mm), .val (.int n), .val (.int ((vi + (1 : Int32)) + (1 : Int32))), .val (.int (vc + (1 : Int32)))]) rfl kZ) ?_
                refine own_by (S' := T6.setTop (mkF m 34 #[.val (.ref r), .val (.int (0 : Int32)), .val (.int mm), .val (.int n), .val (.int ((vi + (1 : Int32)) + (1 : Int32))), .val (.int (vc + (1 : Int32)))] [])) (fun tZ kZ => XS.goto X6.here hx rfl (pc0 := 89) (pc' := 34) rfl (hb hby d35_89) (by decide) (by decide) kZ) ?_
                rw [tStep_2 dg6 (pr_t hu hu2 gH gL)] at hr
                exact ih f' (by omega) _ _ _ (k + 2) (cc + 1) _ _ X6 heq6 N6 Kj2 (own_inc hi1 (by omega)) hc1 (by omega) (by omega) (by omega) hr rfl
              · rw [if_neg gL]
                refine own_by (S' := T6.setTop (mkF m 86 #[.val (.ref r), .val (.int (0 : Int32)), .val (.int mm), .val (.int n), .val (.int (vi + (1 : Int32))), .val (.int vc)] [])) (fun tZ kZ => XS.ifYes X6.here hx rfl (pc0 := 80) (pc' := 86) rfl (hb hby d35_80) rfl ((if0 _ _).trans (teq rfl).1) (by decide) (by decide) kZ) ?_
                refine own_by (S' := T6.setTop (mkF m 89 #[.val (.ref r), .val (.int (0 : Int32)), .val (.int mm), .val (.int n), .val (.int (vi + (1 : Int32))), .val (.int (vc + (1 : Int32)))] [])) (fun tZ kZ => XS.iinc X6.here hx rfl (hb hby d35_86) rfl (l' := #[.val (.ref r), .val (.int (0 : Int32)), .val (.int mm), .val (.int n), .val (.int (vi + (1 : Int32))), .val (.int (vc + (1 : Int32)))]) rfl kZ) ?_
                refine own_by (S' := T6.setTop (mkF m 34 #[.val (.ref r), .val (.int (0 : Int32)), .val (.int mm), .val (.int n), .val (.int (vi + (1 : Int32))), .val (.int (vc + (1 : Int32)))] [])) (fun tZ kZ => XS.goto X6.here hx rfl (pc0 := 89) (pc' := 34) rfl (hb hby d35_89) (by decide) (by decide) kZ) ?_
                rw [tStep_b (pr_f1 hu2 gL)] at hr
                exact ih f' (by omega) _ _ _ (k + 1) (cc + 1) _ _ X6 heq6 N6 Kj2 hi1 hc1 (by omega) (by omega) (by omega) hr rfl
            · refine own_by (S' := T4.setTop (mkF m 86 #[.val (.ref r), .val (.int (0 : Int32)), .val (.int mm), .val (.int n), .val (.int (vi + (1 : Int32))), .val (.int vc)] [])) (fun tZ kZ => XS.icmpYes X4.here hx rfl (pc0 := 66) (pc' := 86) rfl (hb hby d35_66) rfl (flt dg5).2.1 (by decide) (by decide) kZ) ?_
              have dg6 : ¬ k + 1 < us.length := fun q => dg5 ((own_lt hi1 hn).mpr q)
              refine own_by (S' := T4.setTop (mkF m 89 #[.val (.ref r), .val (.int (0 : Int32)), .val (.int mm), .val (.int n), .val (.int (vi + (1 : Int32))), .val (.int (vc + (1 : Int32)))] [])) (fun tZ kZ => XS.iinc X4.here hx rfl (hb hby d35_86) rfl (l' := #[.val (.ref r), .val (.int (0 : Int32)), .val (.int mm), .val (.int n), .val (.int (vi + (1 : Int32))), .val (.int (vc + (1 : Int32)))]) rfl kZ) ?_
              refine own_by (S' := T4.setTop (mkF m 34 #[.val (.ref r), .val (.int (0 : Int32)), .val (.int mm), .val (.int n), .val (.int (vi + (1 : Int32))), .val (.int (vc + (1 : Int32)))] [])) (fun tZ kZ => XS.goto X4.here hx rfl (pc0 := 89) (pc' := 34) rfl (hb hby d35_89) (by decide) (by decide) kZ) ?_
              rw [tStep_a dg6] at hr
              exact ih f' (by omega) _ _ _ (k + 1) (cc + 1) _ _ X4 heq4 N4 Kj2 hi1 hc1 (by omega) (by omega) (by omega) hr rfl
          · rw [if_neg gH]
            refine own_by (S' := T4.setTop (mkF m 86 #[.val (.ref r), .val (.int (0 : Int32)), .val (.int mm), .val (.int n), .val (.int (vi + (1 : Int32))), .val (.int vc)] [])) (fun tZ kZ => XS.ifYes X4.here hx rfl (pc0 := 60) (pc' := 86) rfl (hb hby d35_60) rfl ((if0 _ _).trans (teq rfl).1) (by decide) (by decide) kZ) ?_
            refine own_by (S' := T4.setTop (mkF m 89 #[.val (.ref r), .val (.int (0 : Int32)), .val (.int mm), .val (.int n), .val (.int (vi + (1 : Int32))), .val (.int (vc + (1 : Int32)))] [])) (fun tZ kZ => XS.iinc X4.here hx rfl (hb hby d35_86) rfl (l' := #[.val (.ref r), .val (.int (0 : Int32)), .val (.int mm), .val (.int n), .val (.int (vi + (1 : Int32))), .val (.int (vc + (1 : Int32)))]) rfl kZ) ?_
            refine own_by (S' := T4.setTop (mkF m 34 #[.val (.ref r), .val (.int (0 : Int32)), .val (.int mm), .val (.int n), .val (.int (vi + (1 : Int32))), .val (.int (vc + (1 : Int32)))] [])) (fun tZ kZ => XS.goto X4.here hx rfl (pc0 := 89) (pc' := 34) rfl (hb hby d35_89) (by decide) (by decide) kZ) ?_
            rw [tStep_b (pr_f0 hu gH)] at hr
            exact ih f' (by omega) _ _ _ (k + 1) (cc + 1) _ _ X4 heq4 N4 Kj2 hi1 hc1 (by omega) (by omega) (by omega) hr rfl
        · refine own_by (S' := Tj2.setTop (mkF m 92 #[.val (.ref r), .val (.int (0 : Int32)), .val (.int mm), .val (.int n), .val (.int vi), .val (.int vc)] [])) (fun tZ kZ => XS.icmpYes Xj2.here hx rfl (pc0 := 43) (pc' := 92) rfl (hb hby d35_43) rfl (flt dg2).2.1 (by decide) (by decide) kZ) ?_
          have hex : (k, cc) = (E, M) := by rw [← hr]; exact (tOff_e (fun q => dg2 ((own_lt hvc hm).mpr q.2))).symm
          have hkE : k = E := congrArg Prod.fst hex
          have hcM : cc = M := congrArg Prod.snd hex
          refine own_by (S' := Tj2.setTop (mkF m 94 #[.val (.ref r), .val (.int (0 : Int32)), .val (.int mm), .val (.int n), .val (.int vi), .val (.int vc)] [(.int vc)])) (fun tZ kZ => XS.iload Xj2.here hx rfl (hb hby d35_92) rfl kZ) ?_
          refine own_by (S' := Tj2.setTop (mkF m 95 #[.val (.ref r), .val (.int (0 : Int32)), .val (.int mm), .val (.int n), .val (.int vi), .val (.int vc)] [(.int mm), (.int vc)])) (fun tZ kZ => XS.iloadN Xj2.here hx rfl (hb hby d35_94) rfl kZ) ?_
          refine own_by (S' := Tj2.setTop (mkF m 106 #[.val (.ref r), .val (.int (0 : Int32)), .val (.int mm), .val (.int n), .val (.int vi), .val (.int vc)] [])) (fun tZ kZ => XS.icmpYes Xj2.here hx rfl (pc0 := 95) (pc' := 106) rfl (hb hby d35_95) rfl (flt (by rw [own_lt hvc hm]; omega)).2.1 (by decide) (by decide) kZ) ?_
          refine own_by (S' := Tj2.setTop (mkF m 182 #[.val (.ref r), .val (.int (0 : Int32)), .val (.int mm), .val (.int n), .val (.int vi), .val (.int vc)] [])) (fun tZ kZ => XS.goto Xj2.here hx rfl (pc0 := 106) (pc' := 182) rfl (hb hby d35_106) (by decide) (by decide) kZ) ?_
          refine own_by (S' := Tj2.setTop (mkF m 184 #[.val (.ref r), .val (.int (0 : Int32)), .val (.int mm), .val (.int n), .val (.int vi), .val (.int vc)] [(.int vi)])) (fun tZ kZ => XS.iload Xj2.here hx rfl (hb hby d35_182) rfl kZ) ?_
          exact own_retI Xj2 hx (t := .int) Bd.returns (by simp) rfl (hb hby d35_184) Bd.notSynchronized (by decide) (by decide) ⟨_, rfl, (by rw [← hkE]; exact hvi), Nj2, ej2⟩
      · refine own_by (S' := Tj2.setTop (mkF m 92 #[.val (.ref r), .val (.int (0 : Int32)), .val (.int mm), .val (.int n), .val (.int vi), .val (.int vc)] [])) (fun tZ kZ => XS.icmpYes Xj2.here hx rfl (pc0 := 37) (pc' := 92) rfl (hb hby d35_37) rfl (flt dg1).2.1 (by decide) (by decide) kZ) ?_
        have hex : (k, cc) = (E, M) := by rw [← hr]; exact (tOff_e (fun q => dg1 ((own_lt hvi hn).mpr q.1))).symm
        have hkE : k = E := congrArg Prod.fst hex
        have hcM : cc = M := congrArg Prod.snd hex
        refine own_by (S' := Tj2.setTop (mkF m 94 #[.val (.ref r), .val (.int (0 : Int32)), .val (.int mm), .val (.int n), .val (.int vi), .val (.int vc)] [(.int vc)])) (fun tZ kZ => XS.iload Xj2.here hx rfl (hb hby d35_92) rfl kZ) ?_
        refine own_by (S' := Tj2.setTop (mkF m 95 #[.val (.ref r), .val (.int (0 : Int32)), .val (.int mm), .val (.int n), .val (.int vi), .val (.int vc)] [(.int mm), (.int vc)])) (fun tZ kZ => XS.iloadN Xj2.here hx rfl (hb hby d35_94) rfl kZ) ?_
        refine own_by (S' := Tj2.setTop (mkF m 106 #[.val (.ref r), .val (.int (0 : Int32)), .val (.int mm), .val (.int n), .val (.int vi), .val (.int vc)] [])) (fun tZ kZ => XS.icmpYes Xj2.here hx rfl (pc0 := 95) (pc' := 106) rfl (hb hby d35_95) rfl (flt (by rw [own_lt hvc hm]; omega)).2.1 (by decide) (by decide) kZ) ?_
        refine own_by (S' := Tj2.setTop (mkF m 182 #[.val (.ref r), .val (.int (0 : Int32)), .val (.int mm), .val (.int n), .val (.int vi), .val (.int vc)] [])) (fun tZ kZ => XS.goto Xj2.here hx rfl (pc0 := 106) (pc' := 182) rfl (hb hby d35_106) (by decide) (by decide) kZ) ?_
        refine own_by (S' := Tj2.setTop (mkF m 184 #[.val (.ref r), .val (.int (0 : Int32)), .val (.int mm), .val (.int n), .val (.int vi), .val (.int vc)] [(.int vi)])) (fun tZ kZ => XS.iload Xj2.here hx rfl (hb hby d35_182) rfl kZ) ?_
        exact own_retI Xj2 hx (t := .int) Bd.returns (by simp) rfl (hb hby d35_184) Bd.notSynchronized (by decide) (by decide) ⟨_, rfl, (by rw [← hkE]; exact hvi), Nj2, ej2⟩
  exact J34 4 _ _ _ 0 0 0 0 X1 heq1 N1 (Keep.refl h0 []) rfl rfl (by omega) (Nat.le_refl _) (Nat.zero_le _) hO rfl
theorem d34_0 : decode jdk_42_method_60_code 0 = .ok (.aload_n 0, 1) := by decide +kernel
theorem d34_1 : decode jdk_42_method_60_code 1 = .ok (.iload_n 1, 1) := by decide +kernel
theorem d34_2 : decode jdk_42_method_60_code 2 = .ok (.iload_n 2, 1) := by decide +kernel
theorem d34_3 : decode jdk_42_method_60_code 3 = .ok (.invokestatic 517, 3) := by decide +kernel
theorem d34_6 : decode jdk_42_method_60_code 6 = .ok (.ireturn, 1) := by decide +kernel
theorem ef_rmOfs (m : MethodId) (r : Addr) (mm : Int32) : entryFrame m #[(.ref r), (.int (0 : Int32)), (.int mm)] 3 = mkF m 0 #[.val (.ref r), .val (.int (0 : Int32)), .val (.int mm)] [] := by first | (simp [entryFrame, mkF, argsToLocals, Value.category, maxLocals]; done) | rfl
set_option maxRecDepth 65536 in
set_option maxHeartbeats 40000000 in
theorem rmOfs (l : Launch) (Z : State) (a0 : Array Value) (hw : ∀ d ∈ tables_1, d.before a0 Z = true) (ws : List Jvm.Cond) (r : Addr) (us : List Int32) (n mm : Int32) (M E : Nat) (cz : Int32) (fm : Value) (h0 : Heap) (n0 : Nat) (Z0 : n0 ≤ h0.size) (S : OwnStr Z h0 r us) (hl : us.length ≤ 4) (W : OwnW Z h0 cz fm) (hn : n.toInt = us.length) (hus : ∀ q ∈ us, CU q) (hm : mm.toInt = M) (hO : tOff (pr us) us.length M 4 0 0 = (E, M)) :
    MetFree l (⟨"java/lang/String", "offsetByCodePoints", "(II)I"⟩ : MethodName) (head1 (Jvm.Cond.code (⟨"java/lang/String", "offsetByCodePoints", "(II)I"⟩ : MethodName) jdk_42_method_60_code (3 : Nat) (Option.some Jvm.ClassFile.FieldType.int) :: ws) ({ frames := 6, cells := 0, slots := 0, locals := 83 } : Room)) (fun aZ UZ => aZ = #[(.ref r), (.int (0 : Int32)), (.int mm)] ∧ Z.Warmed39 UZ.vm ∧ UZ.heap = h0) (fun _ _ _ _ _ => True) (fun _ UZ oZ VZ => ∃ vZ LZ, oZ = .returned vZ ∧ (QU (fun z => z.toInt = (E : Int)) h0 n0) vZ VZ.heap LZ ∧ FrameEnd UZ oZ VZ LZ ({ frames := 6, cells := 0, slots := 0, locals := 83 } : Room).cells ({ frames := 6, cells := 0, slots := 0, locals := 83 } : Room).slots) := by
  refine MetFree.of_bodySF (plainFor_of_name pn_1) hisR ?_
  intro p e s m args below meth c s₁ Bd hml0 hP hK
  obtain ⟨rfl, hZ, hh⟩ := hP
  have hx := Bd.exec
  have hby := Bd.bytes
  have hml : c.maxLocals = 3 := hml0
  have hown : s.vm.findClass "java/lang/String" = some m.cls := findClass_of_methodNamed Bd.named
  have hnm := (name_of_methodNamed Bd.named Bd.method).1
  have X0 : Stand p l e ({ frames := 6, cells := 0, slots := 0, locals := 83 } : Room) s m #[(.ref r), (.int (0 : Int32)), (.int mm)] below meth c s₁ [] 0 0 := Stand.of_body Bd
  have e0 : s₁.heap = h0 := by rw [← hh, Bd.state]; rfl
  have N0 := Fr.nil n0
  show OwnG p e below (OwnE s (QU (fun z => z.toInt = (E : Int)) h0 n0) ({ frames := 6, cells := 0, slots := 0, locals := 83 } : Room).cells ({ frames := 6, cells := 0, slots := 0, locals := 83 } : Room).slots) _
  refine own_by (S' := s₁.setTop (mkF m 0 #[.val (.ref r), .val (.int (0 : Int32)), .val (.int mm)] [])) (fun tZ kZ => castTop (ef_rmOfs m r mm) kZ) ?_
  refine own_by (S' := s₁.setTop (mkF m 1 #[.val (.ref r), .val (.int (0 : Int32)), .val (.int mm)] [(.ref r)])) (fun tZ kZ => XS.aloadN X0.here hx rfl (hb hby d34_0) rfl rfl kZ) ?_
  refine own_by (S' := s₁.setTop (mkF m 2 #[.val (.ref r), .val (.int (0 : Int32)), .val (.int mm)] [(.int (0 : Int32)), (.ref r)])) (fun tZ kZ => XS.iloadN X0.here hx rfl (hb hby d34_1) rfl kZ) ?_
  refine own_by (S' := s₁.setTop (mkF m 3 #[.val (.ref r), .val (.int (0 : Int32)), .val (.int mm)] [(.int mm), (.int (0 : Int32)), (.ref r)])) (fun tZ kZ => XS.iloadN X0.here hx rfl (hb hby d34_2) rfl kZ) ?_
  obtain ⟨_, _, ⟨T1, L1, k1, n1⟩, -, X1, ⟨Lc1, hQ1, l1, y1, z1⟩, st1⟩ := Jvm.LawKit.callS X0 hx (y := (⟨"java/lang/Character", "offsetByCodePoints", "(Ljava/lang/CharSequence;II)I"⟩ : MethodName)) hown (mvT hZ (hw_ hw 150 rfl)) (mvT hZ (hw_ hw 151 rfl)) (mvT hZ (hw_ hw 111 rfl)) (mvT hZ (hw_ hw 152 rfl)) (by decide) (backOf (W := 0) (rmOff l Z a0 hw [] r us n mm M E cz fm h0 n0 Z0 S hl W hn hus hm hO) hZ (hw_ hw 152 rfl) (hw_ hw 111 rfl) (by decide) (by decide)) (g := (mkF m 3 #[.val (.ref r), .val (.int (0 : Int32)), .val (.int mm)] [(.int mm), (.int (0 : Int32)), (.ref r)])) rfl (by rw [hml]; rfl) (argsL := [(.ref r), (.int (0 : Int32)), (.int mm)]) (rest := []) (lenOf pd_14 rfl) rfl (by show 2 * 0 + _ ≤ _; exact Nat.le_of_eq rfl) (hb hby d34_3) (fun _ _ => ⟨rfl, e0, (by decide : 0 + 0 ≤ _), (by decide : 0 + 0 ≤ _)⟩)
  dsimp only [Pt.U, Pt.locs, Pt.cells, Pt.slots] at X1 l1 y1 z1 st1 hQ1
  subst l1 y1 z1
  obtain ⟨zr, rfl, hzr, N1q, heq1⟩ := hQ1
  have N1 := Fr.app N0 N1q
  refine own_by (S' := T1.setTop (mkF m 6 #[.val (.ref r), .val (.int (0 : Int32)), .val (.int mm)] [(.int zr)])) (fun tZ kZ => st1 _ kZ) ?_
  exact own_retI X1 hx (t := .int) Bd.returns (by simp) rfl (hb hby d34_6) Bd.notSynchronized (by decide) (by decide) ⟨_, rfl, hzr, N1, heq1⟩
theorem d17_0 : decode jdk_52_method_3_code 0 = .ok (.iload_n 0, 1) := by decide +kernel
theorem d17_1 : decode jdk_52_method_3_code 1 = .ok (.ifCond .ge 11, 3) := by decide +kernel
theorem d17_4 : decode jdk_52_method_3_code 4 = .ok (.new 17, 3) := by decide +kernel
theorem d17_7 : decode jdk_52_method_3_code 7 = .ok (.dup, 1) := by decide +kernel
theorem d17_8 : decode jdk_52_method_3_code 8 = .ok (.invokespecial 19, 3) := by decide +kernel
theorem d17_11 : decode jdk_52_method_3_code 11 = .ok (.athrow, 1) := by decide +kernel
theorem d17_12 : decode jdk_52_method_3_code 12 = .ok (.iload_n 0, 1) := by decide +kernel
theorem d17_13 : decode jdk_52_method_3_code 13 = .ok (.ldc 20, 2) := by decide +kernel
theorem d17_15 : decode jdk_52_method_3_code 15 = .ok (.if_icmp .lt 40, 3) := by decide +kernel
theorem d17_18 : decode jdk_52_method_3_code 18 = .ok (.new 21, 3) := by decide +kernel
theorem d17_21 : decode jdk_52_method_3_code 21 = .ok (.dup, 1) := by decide +kernel
theorem d17_22 : decode jdk_52_method_3_code 22 = .ok (.new 23, 3) := by decide +kernel
theorem d17_25 : decode jdk_52_method_3_code 25 = .ok (.dup, 1) := by decide +kernel
theorem d17_26 : decode jdk_52_method_3_code 26 = .ok (.invokespecial 25, 3) := by decide +kernel
theorem d17_29 : decode jdk_52_method_3_code 29 = .ok (.ldc 26, 2) := by decide +kernel
theorem d17_31 : decode jdk_52_method_3_code 31 = .ok (.invokevirtual 28, 3) := by decide +kernel
theorem d17_34 : decode jdk_52_method_3_code 34 = .ok (.iload_n 0, 1) := by decide +kernel
theorem d17_35 : decode jdk_52_method_3_code 35 = .ok (.invokevirtual 32, 3) := by decide +kernel
theorem d17_38 : decode jdk_52_method_3_code 38 = .ok (.ldc 35, 2) := by decide +kernel
theorem d17_40 : decode jdk_52_method_3_code 40 = .ok (.invokevirtual 28, 3) := by decide +kernel
theorem d17_43 : decode jdk_52_method_3_code 43 = .ok (.ldc 20, 2) := by decide +kernel
theorem d17_45 : decode jdk_52_method_3_code 45 = .ok (.invokevirtual 32, 3) := by decide +kernel
theorem d17_48 : decode jdk_52_method_3_code 48 = .ok (.invokevirtual 37, 3) := by decide +kernel
theorem d17_51 : decode jdk_52_method_3_code 51 = .ok (.invokespecial 41, 3) := by decide +kernel
theorem d17_54 : decode jdk_52_method_3_code 54 = .ok (.athrow, 1) := by decide +kernel
theorem d17_55 : decode jdk_52_method_3_code 55 = .ok (.iload_n 0, 1) := by decide +kernel
theorem d17_56 : decode jdk_52_method_3_code 56 = .ok (.iconst 1, 1) := by decide +kernel
theorem d17_57 : decode jdk_52_method_3_code 57 = .ok (.ishl, 1) := by decide +kernel
theorem d17_58 : decode jdk_52_method_3_code 58 = .ok (.ireturn, 1) := by decide +kernel
theorem ef_rmNBL (m : MethodId) (n : Int32) : entryFrame m #[(.int n)] 1 = mkF m 0 #[.val (.int n)] [] := by first | (simp [entryFrame, mkF, argsToLocals, Value.category, maxLocals]; done) | rfl
set_option maxRecDepth 65536 in
set_option maxHeartbeats 40000000 in
theorem rmNBL (l : Launch) (Z : State) (a0 : Array Value) (hw : ∀ d ∈ tables_1, d.before a0 Z = true) (ws : List Jvm.Cond) (n : Int32) (N : Nat) (h0 : Heap) (n0 : Nat) (Z0 : n0 ≤ h0.size) (hn : n.toInt = N) (hN : N ≤ 4) :
    MetFree l (⟨"java/lang/StringUTF16", "newBytesLength", "(I)I"⟩ : MethodName) (head1 (Jvm.Cond.code (⟨"java/lang/StringUTF16", "newBytesLength", "(I)I"⟩ : MethodName) jdk_52_method_3_code (1 : Nat) (Option.some Jvm.ClassFile.FieldType.int) :: ws) ({ frames := 0, cells := 0, slots := 0, locals := 0 } : Room)) (fun aZ UZ => aZ = #[(.int n)] ∧ Z.Warmed39 UZ.vm ∧ UZ.heap = h0) (fun _ _ _ _ _ => True) (fun _ UZ oZ VZ => ∃ vZ LZ, oZ = .returned vZ ∧ (QU (fun z => z.toInt = ((2 * N : Nat) : Int)) h0 n0) vZ VZ.heap LZ ∧ FrameEnd UZ oZ VZ LZ ({ frames := 0, cells := 0, slots := 0, locals := 0 } : Room).cells ({ frames := 0, cells := 0, slots := 0, locals := 0 } : Room).slots) := by
  refine MetFree.of_bodySF (plainFor_of_name pn_3) hisR ?_
  intro p e s m args below meth c s₁ Bd hml0 hP hK
  obtain ⟨rfl, hZ, hh⟩ := hP
  have hx := Bd.exec
  have hby := Bd.bytes
  have hml : c.maxLocals = 1 := hml0
  have hown : s.vm.findClass "java/lang/StringUTF16" = some m.cls := findClass_of_methodNamed Bd.named
  have hnm := (name_of_methodNamed Bd.named Bd.method).1
  have X0 : Stand p l e ({ frames := 0, cells := 0, slots := 0, locals := 0 } : Room) s m #[(.int n)] below meth c s₁ [] 0 0 := Stand.of_body Bd
  have e0 : s₁.heap = h0 := by rw [← hh, Bd.state]; rfl
  have N0 := Fr.nil n0
  show OwnG p e below (OwnE s (QU (fun z => z.toInt = ((2 * N : Nat) : Int)) h0 n0) ({ frames := 0, cells := 0, slots := 0, locals := 0 } : Room).cells ({ frames := 0, cells := 0, slots := 0, locals := 0 } : Room).slots) _
  refine own_by (S' := s₁.setTop (mkF m 0 #[.val (.int n)] [])) (fun tZ kZ => castTop (ef_rmNBL m n) kZ) ?_
  refine own_by (S' := s₁.setTop (mkF m 1 #[.val (.int n)] [(.int n)])) (fun tZ kZ => XS.iloadN X0.here hx rfl (hb hby d17_0) rfl kZ) ?_
  refine own_by (S' := s₁.setTop (mkF m 12 #[.val (.int n)] [])) (fun tZ kZ => XS.ifYes X0.here hx rfl (pc0 := 1) (pc' := 12) rfl (hb hby d17_1) rfl ((if0 _ _).trans (flt (own_nneg hn)).2.1) (by decide) (by decide) kZ) ?_
  refine own_by (S' := s₁.setTop (mkF m 13 #[.val (.int n)] [(.int n)])) (fun tZ kZ => XS.iloadN X0.here hx rfl (hb hby d17_12) rfl kZ) ?_
  refine own_by (S' := s₁.setTop (mkF m 15 #[.val (.int n)] [(.int (1073741823 : Int32)), (.int n)])) (fun tZ kZ => X0.ldcInt hx hown (mvT hZ (hw_ hw 84 rfl)) (g := (mkF m 13 #[.val (.int n)] [(.int n)])) rfl (hb hby d17_13) _ kZ) ?_
  refine own_by (S' := s₁.setTop (mkF m 55 #[.val (.int n)] [])) (fun tZ kZ => XS.icmpYes X0.here hx rfl (pc0 := 15) (pc' := 55) rfl (hb hby d17_15) rfl (tlt (by rw [own_ltI]; have e : (1073741823 : Int32).toInt = 1073741823 := rfl; omega)).1 (by decide) (by decide) kZ) ?_
  refine own_by (S' := s₁.setTop (mkF m 56 #[.val (.int n)] [(.int n)])) (fun tZ kZ => XS.iloadN X0.here hx rfl (hb hby d17_55) rfl kZ) ?_
  refine own_by (S' := s₁.setTop (mkF m 57 #[.val (.int n)] [(.int (1 : Int32)), (.int n)])) (fun tZ kZ => XS.iconst X0.here hx rfl (hb hby d17_56) kZ) ?_
  refine own_by (S' := s₁.setTop (mkF m 58 #[.val (.int n)] [(.int (n <<< ((1 : Int32) &&& 31)))])) (fun tZ kZ => XS.ishl X0.here hx rfl (hb hby d17_57) rfl kZ) ?_
  exact own_retI X0 hx (t := .int) Bd.returns (by simp) rfl (hb hby d17_58) Bd.notSynchronized (by decide) (by decide) ⟨_, rfl, (own_shl1 hn (by omega)), N0, e0⟩
theorem d16_0 : decode jdk_52_method_2_code 0 = .ok (.iload_n 0, 1) := by decide +kernel
theorem d16_1 : decode jdk_52_method_2_code 1 = .ok (.invokestatic 11, 3) := by decide +kernel
theorem d16_4 : decode jdk_52_method_2_code 4 = .ok (.newarray .byte, 2) := by decide +kernel
theorem d16_6 : decode jdk_52_method_2_code 6 = .ok (.areturn, 1) := by decide +kernel
theorem ef_rmNBF (m : MethodId) (n : Int32) : entryFrame m #[(.int n)] 1 = mkF m 0 #[.val (.int n)] [] := by first | (simp [entryFrame, mkF, argsToLocals, Value.category, maxLocals]; done) | rfl
set_option maxRecDepth 65536 in
set_option maxHeartbeats 40000000 in
theorem rmNBF (l : Launch) (Z : State) (a0 : Array Value) (hw : ∀ d ∈ tables_1, d.before a0 Z = true) (ws : List Jvm.Cond) (n : Int32) (N : Nat) (h0 : Heap) (n0 : Nat) (Z0 : n0 ≤ h0.size) (hn : n.toInt = N) (hN : N ≤ 4) :
    MetFree l (⟨"java/lang/StringUTF16", "newBytesFor", "(I)[B"⟩ : MethodName) (head1 (Jvm.Cond.code (⟨"java/lang/StringUTF16", "newBytesFor", "(I)[B"⟩ : MethodName) jdk_52_method_2_code (1 : Nat) (Option.some (Jvm.ClassFile.FieldType.array Jvm.ClassFile.FieldType.byte)) :: ws) ({ frames := 1, cells := 1, slots := 8, locals := 12 } : Room)) (fun aZ UZ => aZ = #[(.int n)] ∧ Z.Warmed39 UZ.vm ∧ UZ.heap = h0) (fun _ _ _ _ _ => True) (fun _ UZ oZ VZ => ∃ vZ LZ, oZ = .returned vZ ∧ (QArr Z (List.replicate (2 * N) (.int 0)) h0 n0) vZ VZ.heap LZ ∧ FrameEnd UZ oZ VZ LZ ({ frames := 1, cells := 1, slots := 8, locals := 12 } : Room).cells ({ frames := 1, cells := 1, slots := 8, locals := 12 } : Room).slots) := by
  refine MetFree.of_bodySF (plainFor_of_name pn_3) hisR ?_
  intro p e s m args below meth c s₁ Bd hml0 hP hK
  obtain ⟨rfl, hZ, hh⟩ := hP
  have hx := Bd.exec
  have hby := Bd.bytes
  have hml : c.maxLocals = 1 := hml0
  have hown : s.vm.findClass "java/lang/StringUTF16" = some m.cls := findClass_of_methodNamed Bd.named
  have hnm := (name_of_methodNamed Bd.named Bd.method).1
  have X0 : Stand p l e ({ frames := 1, cells := 1, slots := 8, locals := 12 } : Room) s m #[(.int n)] below meth c s₁ [] 0 0 := Stand.of_body Bd
  have e0 : s₁.heap = h0 := by rw [← hh, Bd.state]; rfl
  have N0 := Fr.nil n0
  show OwnG p e below (OwnE s (QArr Z (List.replicate (2 * N) (.int 0)) h0 n0) ({ frames := 1, cells := 1, slots := 8, locals := 12 } : Room).cells ({ frames := 1, cells := 1, slots := 8, locals := 12 } : Room).slots) _
  refine own_by (S' := s₁.setTop (mkF m 0 #[.val (.int n)] [])) (fun tZ kZ => castTop (ef_rmNBF m n) kZ) ?_
  refine own_by (S' := s₁.setTop (mkF m 1 #[.val (.int n)] [(.int n)])) (fun tZ kZ => XS.iloadN X0.here hx rfl (hb hby d16_0) rfl kZ) ?_
  obtain ⟨_, _, ⟨T1, L1, k1, n1⟩, -, X1, ⟨Lc1, hQ1, l1, y1, z1⟩, st1⟩ := Jvm.LawKit.callS X0 hx (y := (⟨"java/lang/StringUTF16", "newBytesLength", "(I)I"⟩ : MethodName)) hown (mvT hZ (hw_ hw 81 rfl)) (mvT hZ (hw_ hw 82 rfl)) (mvT hZ (hw_ hw 70 rfl)) (mvT hZ (hw_ hw 83 rfl)) (by decide) (backOf (W := 0) (rmNBL l Z a0 hw [] n N h0 n0 Z0 hn hN) hZ (hw_ hw 83 rfl) (hw_ hw 70 rfl) (by decide) (by decide)) (g := (mkF m 1 #[.val (.int n)] [(.int n)])) rfl (by rw [hml]; rfl) (argsL := [(.int n)]) (rest := []) (lenOf pd_15 rfl) rfl (by show 2 * 0 + _ ≤ _; exact Nat.le_of_eq rfl) (hb hby d16_1) (fun _ _ => ⟨rfl, e0, (by decide : 0 + 0 ≤ _), (by decide : 0 + 0 ≤ _)⟩)
  dsimp only [Pt.U, Pt.locs, Pt.cells, Pt.slots] at X1 l1 y1 z1 st1 hQ1
  subst l1 y1 z1
  obtain ⟨zw, rfl, hzw, N1q, heq1⟩ := hQ1
  have N1 := Fr.app N0 N1q
  refine own_by (S' := T1.setTop (mkF m 4 #[.val (.int n)] [(.int zw)])) (fun tZ kZ => st1 _ kZ) ?_
  obtain ⟨T2, h2, k2, X2, e2, E2, A2, st2⟩ := newP X1 hx hZ (hw_ hw 26 rfl) heq1 (g := (mkF m 4 #[.val (.int n)] [(.int zw)])) rfl (hb hby d16_4) rfl (own_nneg hzw) (cap := 8) (by rw [own_tnc hzw]; omega) (by decide) (by decide) (by decide)
  obtain ⟨b2, g2⟩ : ∃ z, z = h0.size := ⟨_, rfl⟩
  rw [← g2] at A2 st2
  have g_b2 : n0 ≤ b2 := Nat.le_trans Z0 (Nat.le_of_eq g2.symm)
  have sz_b2 : h0.size ≤ b2 := Nat.le_trans (Keep.refl h0 []).1 (Nat.le_of_eq g2.symm)
  have Zs2 : n0 ≤ h2.size := Nat.le_trans Z0 E2.1
  have K2 := (Keep.refl h0 []).ext E2
  have V_b2 := OwnA.new A2
  refine own_by (S' := T2.setTop (mkF m 6 #[.val (.int n)] [(.ref b2)])) st2 ?_
  have Vr2 : OwnA Z h2 b2 k2 .byte (List.replicate (2 * N) (.int 0)) := by
    have q := V_b2
    rw [own_tnc hzw] at q
    exact q
  exact own_retA X2 hx Bd.returns rfl rfl (hb hby d16_6) Bd.notSynchronized (by decide) (by decide) (show QArr Z (List.replicate (2 * N) (.int 0)) h0 n0 _ T2.heap _ from by rw [e2]; exact ⟨b2, _, rfl, N1, K2, sz_b2, Vr2⟩)
theorem d18_0 : decode jdk_52_method_4_code 0 = .ok (.getstatic 44, 3) := by decide +kernel
theorem d18_3 : decode jdk_52_method_4_code 3 = .ok (.ifCond .ne 25, 3) := by decide +kernel
theorem d18_6 : decode jdk_52_method_4_code 6 = .ok (.iload_n 1, 1) := by decide +kernel
theorem d18_7 : decode jdk_52_method_4_code 7 = .ok (.ifCond .lt 11, 3) := by decide +kernel
theorem d18_10 : decode jdk_52_method_4_code 10 = .ok (.iload_n 1, 1) := by decide +kernel
theorem d18_11 : decode jdk_52_method_4_code 11 = .ok (.aload_n 0, 1) := by decide +kernel
theorem d18_12 : decode jdk_52_method_4_code 12 = .ok (.invokestatic 48, 3) := by decide +kernel
theorem d18_15 : decode jdk_52_method_4_code 15 = .ok (.if_icmp .lt 13, 3) := by decide +kernel
theorem d18_18 : decode jdk_52_method_4_code 18 = .ok (.new 52, 3) := by decide +kernel
theorem d18_21 : decode jdk_52_method_4_code 21 = .ok (.dup, 1) := by decide +kernel
theorem d18_22 : decode jdk_52_method_4_code 22 = .ok (.ldc 54, 2) := by decide +kernel
theorem d18_24 : decode jdk_52_method_4_code 24 = .ok (.invokespecial 56, 3) := by decide +kernel
theorem d18_27 : decode jdk_52_method_4_code 27 = .ok (.athrow, 1) := by decide +kernel
theorem d18_28 : decode jdk_52_method_4_code 28 = .ok (.iload_n 1, 1) := by decide +kernel
theorem d18_29 : decode jdk_52_method_4_code 29 = .ok (.iconst 1, 1) := by decide +kernel
theorem d18_30 : decode jdk_52_method_4_code 30 = .ok (.ishl, 1) := by decide +kernel
theorem d18_31 : decode jdk_52_method_4_code 31 = .ok (.istore_n 1, 1) := by decide +kernel
theorem d18_32 : decode jdk_52_method_4_code 32 = .ok (.aload_n 0, 1) := by decide +kernel
theorem d18_33 : decode jdk_52_method_4_code 33 = .ok (.iload_n 1, 1) := by decide +kernel
theorem d18_34 : decode jdk_52_method_4_code 34 = .ok (.iinc 1 1, 3) := by decide +kernel
theorem d18_37 : decode jdk_52_method_4_code 37 = .ok (.iload_n 2, 1) := by decide +kernel
theorem d18_38 : decode jdk_52_method_4_code 38 = .ok (.getstatic 59, 3) := by decide +kernel
theorem d18_41 : decode jdk_52_method_4_code 41 = .ok (.ishr, 1) := by decide +kernel
theorem d18_42 : decode jdk_52_method_4_code 42 = .ok (.i2b, 1) := by decide +kernel
theorem d18_43 : decode jdk_52_method_4_code 43 = .ok (.bastore, 1) := by decide +kernel
theorem d18_44 : decode jdk_52_method_4_code 44 = .ok (.aload_n 0, 1) := by decide +kernel
theorem d18_45 : decode jdk_52_method_4_code 45 = .ok (.iload_n 1, 1) := by decide +kernel
theorem d18_46 : decode jdk_52_method_4_code 46 = .ok (.iload_n 2, 1) := by decide +kernel
theorem d18_47 : decode jdk_52_method_4_code 47 = .ok (.getstatic 63, 3) := by decide +kernel
theorem d18_50 : decode jdk_52_method_4_code 50 = .ok (.ishr, 1) := by decide +kernel
theorem d18_51 : decode jdk_52_method_4_code 51 = .ok (.i2b, 1) := by decide +kernel
theorem d18_52 : decode jdk_52_method_4_code 52 = .ok (.bastore, 1) := by decide +kernel
theorem d18_53 : decode jdk_52_method_4_code 53 = .ok (.return_, 1) := by decide +kernel
theorem ef_rmPut (m : MethodId) (b : Addr) (i : Int32) (u : Int32) : entryFrame m #[(.ref b), (.int i), (.int u)] 3 = mkF m 0 #[.val (.ref b), .val (.int i), .val (.int u)] [] := by first | (simp [entryFrame, mkF, argsToLocals, Value.category, maxLocals]; done) | rfl
set_option maxRecDepth 65536 in
set_option maxHeartbeats 40000000 in
theorem rmPut (l : Launch) (Z : State) (a0 : Array Value) (hw : ∀ d ∈ tables_1, d.before a0 Z = true) (ws : List Jvm.Cond) (b : Addr) (kb : ClassId) (ws_ : List Value) (i : Int32) (k : Nat) (u : Int32) (cz : Int32) (fm : Value) (h0 : Heap) (n0 : Nat) (Z0 : n0 ≤ h0.size) (V_b : OwnA Z h0 b kb .byte ws_) (hi : i.toInt = k) (hk : 2 * k + 1 < ws_.length) (hk4 : k ≤ 4) (g_b : n0 ≤ b) (W : OwnW Z h0 cz fm) :
    MetFree l (⟨"java/lang/StringUTF16", "putChar", "([BII)V"⟩ : MethodName) (head1 (Jvm.Cond.code (⟨"java/lang/StringUTF16", "putChar", "([BII)V"⟩ : MethodName) jdk_52_method_4_code (3 : Nat) (Option.none : Option Jvm.ClassFile.FieldType) :: ws) ({ frames := 0, cells := 0, slots := 0, locals := 0 } : Room)) (fun aZ UZ => aZ = #[(.ref b), (.int i), (.int u)] ∧ Z.Warmed39 UZ.vm ∧ UZ.heap = h0) (fun _ _ _ _ _ => True) (fun _ UZ oZ VZ => ∃ vZ LZ, oZ = .returned vZ ∧ (QPut Z b kb ((ws_.set (2 * k) (.int (own_b0 u))).set (2 * k + 1) (.int (own_b1 u))) h0 n0) vZ VZ.heap LZ ∧ FrameEnd UZ oZ VZ LZ ({ frames := 0, cells := 0, slots := 0, locals := 0 } : Room).cells ({ frames := 0, cells := 0, slots := 0, locals := 0 } : Room).slots) := by
  refine MetFree.of_bodySF (plainFor_of_name pn_3) hisR ?_
  intro p e s m args below meth c s₁ Bd hml0 hP hK
  obtain ⟨rfl, hZ, hh⟩ := hP
  have hx := Bd.exec
  have hby := Bd.bytes
  have hml : c.maxLocals = 3 := hml0
  have hown : s.vm.findClass "java/lang/StringUTF16" = some m.cls := findClass_of_methodNamed Bd.named
  have hnm := (name_of_methodNamed Bd.named Bd.method).1
  have X0 : Stand p l e ({ frames := 0, cells := 0, slots := 0, locals := 0 } : Room) s m #[(.ref b), (.int i), (.int u)] below meth c s₁ [] 0 0 := Stand.of_body Bd
  have e0 : s₁.heap = h0 := by rw [← hh, Bd.state]; rfl
  have N0 := Fr.nil n0
  show OwnG p e below (OwnE s (QPut Z b kb ((ws_.set (2 * k) (.int (own_b0 u))).set (2 * k + 1) (.int (own_b1 u))) h0 n0) ({ frames := 0, cells := 0, slots := 0, locals := 0 } : Room).cells ({ frames := 0, cells := 0, slots := 0, locals := 0 } : Room).slots) _
  refine own_by (S' := s₁.setTop (mkF m 0 #[.val (.ref b), .val (.int i), .val (.int u)] [])) (fun tZ kZ => castTop (ef_rmPut m b i u) kZ) ?_
  obtain ⟨Sc, hcz, Sf, rf, Sa, Shi, Slo⟩ := id W
  obtain ⟨T1, X1, e1, st1⟩ := getS2 X0 hx hZ hown (host := "") (Or.inl (hw_ hw 88 rfl)) Via.refl e0 Sa (g := (mkF m 0 #[.val (.ref b), .val (.int i), .val (.int u)] [])) rfl (hb hby d18_0)
  refine own_by (S' := T1.setTop (mkF m 3 #[.val (.ref b), .val (.int i), .val (.int u)] [(.int (1 : Int32))])) st1 ?_
  refine own_by (S' := T1.setTop (mkF m 28 #[.val (.ref b), .val (.int i), .val (.int u)] [])) (fun tZ kZ => XS.ifYes X1.here hx rfl (pc0 := 3) (pc' := 28) rfl (hb hby d18_3) rfl ((if0 _ _).trans (feq (by decide)).2) (by decide) (by decide) kZ) ?_
  refine own_by (S' := T1.setTop (mkF m 29 #[.val (.ref b), .val (.int i), .val (.int u)] [(.int i)])) (fun tZ kZ => XS.iloadN X1.here hx rfl (hb hby d18_28) rfl kZ) ?_
  refine own_by (S' := T1.setTop (mkF m 30 #[.val (.ref b), .val (.int i), .val (.int u)] [(.int (1 : Int32)), (.int i)])) (fun tZ kZ => XS.iconst X1.here hx rfl (hb hby d18_29) kZ) ?_
  refine own_by (S' := T1.setTop (mkF m 31 #[.val (.ref b), .val (.int i), .val (.int u)] [(.int (i <<< ((1 : Int32) &&& 31)))])) (fun tZ kZ => XS.ishl X1.here hx rfl (hb hby d18_30) rfl kZ) ?_
  obtain ⟨v31, hv31⟩ : ∃ z : Int32, z = (i <<< ((1 : Int32) &&& 31)) := ⟨_, rfl⟩
  rw [← hv31]
  refine own_by (S' := T1.setTop (mkF m 32 #[.val (.ref b), .val (.int v31), .val (.int u)] [])) (fun tZ kZ => XS.istoreN X1.here hx rfl (hb hby d18_31) rfl (l' := #[.val (.ref b), .val (.int v31), .val (.int u)]) rfl kZ) ?_
  refine own_by (S' := T1.setTop (mkF m 33 #[.val (.ref b), .val (.int v31), .val (.int u)] [(.ref b)])) (fun tZ kZ => XS.aloadN X1.here hx rfl (hb hby d18_32) rfl rfl kZ) ?_
  refine own_by (S' := T1.setTop (mkF m 34 #[.val (.ref b), .val (.int v31), .val (.int u)] [(.int v31), (.ref b)])) (fun tZ kZ => XS.iloadN X1.here hx rfl (hb hby d18_33) rfl kZ) ?_
  have hv : v31.toInt = ((2 * k : Nat) : Int) := by rw [hv31]; exact own_shl1 hi (by omega)
  have hv1 : (v31 + (1 : Int32)).toInt = ((2 * k + 1 : Nat) : Int) := own_inc hv (by omega)
  refine own_by (S' := T1.setTop (mkF m 37 #[.val (.ref b), .val (.int (v31 + (1 : Int32))), .val (.int u)] [(.int v31), (.ref b)])) (fun tZ kZ => XS.iinc X1.here hx rfl (hb hby d18_34) rfl (l' := #[.val (.ref b), .val (.int (v31 + (1 : Int32))), .val (.int u)]) rfl kZ) ?_
  refine own_by (S' := T1.setTop (mkF m 38 #[.val (.ref b), .val (.int (v31 + (1 : Int32))), .val (.int u)] [(.int u), (.int v31), (.ref b)])) (fun tZ kZ => XS.iloadN X1.here hx rfl (hb hby d18_37) rfl kZ) ?_
  obtain ⟨T2, X2, e2, st2⟩ := getS2 X1 hx hZ hown (host := "") (Or.inl (hw_ hw 89 rfl)) Via.refl e1 Shi (g := (mkF m 38 #[.val (.ref b), .val (.int (v31 + (1 : Int32))), .val (.int u)] [(.int u), (.int v31), (.ref b)])) rfl (hb hby d18_38)
  refine own_by (S' := T2.setTop (mkF m 41 #[.val (.ref b), .val (.int (v31 + (1 : Int32))), .val (.int u)] [(.int (0 : Int32)), (.int u), (.int v31), (.ref b)])) st2 ?_
  refine own_by (S' := T2.setTop (mkF m 42 #[.val (.ref b), .val (.int (v31 + (1 : Int32))), .val (.int u)] [(.int (u >>> ((0 : Int32) &&& 31))), (.int v31), (.ref b)])) (fun tZ kZ => XS.ishr X2.here hx rfl (hb hby d18_41) rfl kZ) ?_
  refine own_by (S' := T2.setTop (mkF m 43 #[.val (.ref b), .val (.int (v31 + (1 : Int32))), .val (.int u)] [(.int ((u >>> ((0 : Int32) &&& 31)).toInt8.toInt32)), (.int v31), (.ref b)])) (fun tZ kZ => XS.i2b X2.here hx rfl (hb hby d18_42) rfl kZ) ?_
  obtain ⟨cc3, Ar3, hc3, hl3⟩ := id V_b
  have hin3 := OwnA.inb (j := v31) hl3 (own_nneg hv) (by rw [own_tnc hv]; omega)
  obtain ⟨T3, h3, X3, e3, W3, st3⟩ := stB X2 hx hZ e2 Ar3 (j := v31) hin3 (g := (mkF m 43 #[.val (.ref b), .val (.int (v31 + (1 : Int32))), .val (.int u)] [(.int ((u >>> ((0 : Int32) &&& 31)).toInt8.toInt32)), (.int v31), (.ref b)])) rfl rfl (hb hby d18_43)
  have N3 := Fr.snoc X3 N0 g_b
  have Slo_3 := Slo.wr W3
  have Zs3 : n0 ≤ h3.size := Nat.le_trans Z0 (Keep.of_wr W3).1
  have K3 := (Keep.refl h0 [b]).wr W3 (Or.inl (List.mem_of_getElem? (i := 0) rfl))
  have V_b_w3 := V_b.set W3
  refine own_by (S' := T3.setTop (mkF m 44 #[.val (.ref b), .val (.int (v31 + (1 : Int32))), .val (.int u)] [])) st3 ?_
  refine own_by (S' := T3.setTop (mkF m 45 #[.val (.ref b), .val (.int (v31 + (1 : Int32))), .val (.int u)] [(.ref b)])) (fun tZ kZ => XS.aloadN X3.here hx rfl (hb hby d18_44) rfl rfl kZ) ?_
  refine own_by (S' := T3.setTop (mkF m 46 #[.val (.ref b), .val (.int (v31 + (1 : Int32))), .val (.int u)] [(.int (v31 + (1 : Int32))), (.ref b)])) (fun tZ kZ => XS.iloadN X3.here hx rfl (hb hby d18_45) rfl kZ) ?_
  refine own_by (S' := T3.setTop (mkF m 47 #[.val (.ref b), .val (.int (v31 + (1 : Int32))), .val (.int u)] [(.int u), (.int (v31 + (1 : Int32))), (.ref b)])) (fun tZ kZ => XS.iloadN X3.here hx rfl (hb hby d18_46) rfl kZ) ?_
  obtain ⟨T4, X4, e4, st4⟩ := getS2 X3 hx hZ hown (host := "") (Or.inl (hw_ hw 90 rfl)) Via.refl e3 Slo_3 (g := (mkF m 47 #[.val (.ref b), .val (.int (v31 + (1 : Int32))), .val (.int u)] [(.int u), (.int (v31 + (1 : Int32))), (.ref b)])) rfl (hb hby d18_47)
  refine own_by (S' := T4.setTop (mkF m 50 #[.val (.ref b), .val (.int (v31 + (1 : Int32))), .val (.int u)] [(.int (8 : Int32)), (.int u), (.int (v31 + (1 : Int32))), (.ref b)])) st4 ?_
  refine own_by (S' := T4.setTop (mkF m 51 #[.val (.ref b), .val (.int (v31 + (1 : Int32))), .val (.int u)] [(.int (u >>> ((8 : Int32) &&& 31))), (.int (v31 + (1 : Int32))), (.ref b)])) (fun tZ kZ => XS.ishr X4.here hx rfl (hb hby d18_50) rfl kZ) ?_
  refine own_by (S' := T4.setTop (mkF m 52 #[.val (.ref b), .val (.int (v31 + (1 : Int32))), .val (.int u)] [(.int ((u >>> ((8 : Int32) &&& 31)).toInt8.toInt32)), (.int (v31 + (1 : Int32))), (.ref b)])) (fun tZ kZ => XS.i2b X4.here hx rfl (hb hby d18_51) rfl kZ) ?_
  obtain ⟨cc5, Ar5, hc5, hl5⟩ := id V_b_w3
  have hin5 := OwnA.inb (j := (v31 + (1 : Int32))) hl5 (own_nneg hv1) (by rw [own_tnc hv1, List.length_set]; omega)
  obtain ⟨T5, h5, X5, e5, W5, st5⟩ := stB X4 hx hZ e4 Ar5 (j := (v31 + (1 : Int32))) hin5 (g := (mkF m 52 #[.val (.ref b), .val (.int (v31 + (1 : Int32))), .val (.int u)] [(.int ((u >>> ((8 : Int32) &&& 31)).toInt8.toInt32)), (.int (v31 + (1 : Int32))), (.ref b)])) rfl rfl (hb hby d18_52)
  have N5 := Fr.snoc X5 N3 g_b
  have Slo_5 := Slo_3.wr W5
  have Zs5 : n0 ≤ h5.size := Nat.le_trans Zs3 (Keep.of_wr W5).1
  have K5 := K3.wr W5 (Or.inl (List.mem_of_getElem? (i := 0) rfl))
  have V_b_w5 := V_b_w3.set W5
  refine own_by (S' := T5.setTop (mkF m 53 #[.val (.ref b), .val (.int (v31 + (1 : Int32))), .val (.int u)] [])) st5 ?_
  have Vr9 : OwnA Z h5 b kb .byte ((ws_.set (2 * k) (.int (own_b0 u))).set (2 * k + 1) (.int (own_b1 u))) := by
    have q := V_b_w5
    rw [own_tnc hv, own_tnc hv1] at q
    exact q
  exact own_ret0 X5 hx Bd.returns (hb hby d18_53) Bd.notSynchronized (by decide) (by decide) (show QPut Z b kb ((ws_.set (2 * k) (.int (own_b0 u))).set (2 * k + 1) (.int (own_b1 u))) h0 n0 _ T5.heap _ from by rw [e5]; exact ⟨rfl, N5, K5, Vr9⟩)
theorem d15_0 : decode jdk_52_method_14_code 0 = .ok (.iload_n 2, 1) := by decide +kernel
theorem d15_1 : decode jdk_52_method_14_code 1 = .ok (.invokestatic 107, 3) := by decide +kernel
theorem d15_4 : decode jdk_52_method_14_code 4 = .ok (.astore_n 3, 1) := by decide +kernel
theorem d15_5 : decode jdk_52_method_14_code 5 = .ok (.iconst 0, 1) := by decide +kernel
theorem d15_6 : decode jdk_52_method_14_code 6 = .ok (.istore 4, 2) := by decide +kernel
theorem d15_8 : decode jdk_52_method_14_code 8 = .ok (.iload 4, 2) := by decide +kernel
theorem d15_10 : decode jdk_52_method_14_code 10 = .ok (.iload_n 2, 1) := by decide +kernel
theorem d15_11 : decode jdk_52_method_14_code 11 = .ok (.if_icmp .ge 21, 3) := by decide +kernel
theorem d15_14 : decode jdk_52_method_14_code 14 = .ok (.aload_n 3, 1) := by decide +kernel
theorem d15_15 : decode jdk_52_method_14_code 15 = .ok (.iload 4, 2) := by decide +kernel
theorem d15_17 : decode jdk_52_method_14_code 17 = .ok (.aload_n 0, 1) := by decide +kernel
theorem d15_18 : decode jdk_52_method_14_code 18 = .ok (.iload_n 1, 1) := by decide +kernel
theorem d15_19 : decode jdk_52_method_14_code 19 = .ok (.caload, 1) := by decide +kernel
theorem d15_20 : decode jdk_52_method_14_code 20 = .ok (.invokestatic 111, 3) := by decide +kernel
theorem d15_23 : decode jdk_52_method_14_code 23 = .ok (.iinc 1 1, 3) := by decide +kernel
theorem d15_26 : decode jdk_52_method_14_code 26 = .ok (.iinc 4 1, 3) := by decide +kernel
theorem d15_29 : decode jdk_52_method_14_code 29 = .ok (.goto (-21), 3) := by decide +kernel
theorem d15_32 : decode jdk_52_method_14_code 32 = .ok (.aload_n 3, 1) := by decide +kernel
theorem d15_33 : decode jdk_52_method_14_code 33 = .ok (.areturn, 1) := by decide +kernel
theorem ef_rmTB (m : MethodId) (src : Addr) (n : Int32) : entryFrame m #[(.ref src), (.int (0 : Int32)), (.int n)] 5 = mkF m 0 #[.val (.ref src), .val (.int (0 : Int32)), .val (.int n), .unset, .unset] [] := by first | (simp [entryFrame, mkF, argsToLocals, Value.category, maxLocals]; done) | rfl
set_option maxRecDepth 65536 in
set_option maxHeartbeats 40000000 in
theorem rmTB (l : Launch) (Z : State) (a0 : Array Value) (hw : ∀ d ∈ tables_1, d.before a0 Z = true) (ws : List Jvm.Cond) (src : Addr) (ks : ClassId) (us : List Int32) (n : Int32) (cz : Int32) (fm : Value) (h0 : Heap) (n0 : Nat) (Z0 : n0 ≤ h0.size) (V_src : OwnA Z h0 src ks .char (cV us)) (hn : n.toInt = us.length) (hl : us.length ≤ 4) (hus : ∀ q ∈ us, CU q) (W : OwnW Z h0 cz fm) :
    MetFree l (⟨"java/lang/StringUTF16", "toBytes", "([CII)[B"⟩ : MethodName) (head1 (Jvm.Cond.code (⟨"java/lang/StringUTF16", "toBytes", "([CII)[B"⟩ : MethodName) jdk_52_method_14_code (5 : Nat) (Option.some (Jvm.ClassFile.FieldType.array Jvm.ClassFile.FieldType.byte)) :: ws) ({ frames := 2, cells := 1, slots := 8, locals := 24 } : Room)) (fun aZ UZ => aZ = #[(.ref src), (.int (0 : Int32)), (.int n)] ∧ Z.Warmed39 UZ.vm ∧ UZ.heap = h0) (fun _ _ _ _ _ => True) (fun _ UZ oZ VZ => ∃ vZ LZ, oZ = .returned vZ ∧ (QArr Z (bU us) h0 n0) vZ VZ.heap LZ ∧ FrameEnd UZ oZ VZ LZ ({ frames := 2, cells := 1, slots := 8, locals := 24 } : Room).cells ({ frames := 2, cells := 1, slots := 8, locals := 24 } : Room).slots) := by
  refine MetFree.of_bodySF (plainFor_of_name pn_3) hisR ?_
  intro p e s m args below meth c s₁ Bd hml0 hP hK
  obtain ⟨rfl, hZ, hh⟩ := hP
  have hx := Bd.exec
  have hby := Bd.bytes
  have hml : c.maxLocals = 5 := hml0
  have hown : s.vm.findClass "java/lang/StringUTF16" = some m.cls := findClass_of_methodNamed Bd.named
  have hnm := (name_of_methodNamed Bd.named Bd.method).1
  have X0 : Stand p l e ({ frames := 2, cells := 1, slots := 8, locals := 24 } : Room) s m #[(.ref src), (.int (0 : Int32)), (.int n)] below meth c s₁ [] 0 0 := Stand.of_body Bd
  have e0 : s₁.heap = h0 := by rw [← hh, Bd.state]; rfl
  have N0 := Fr.nil n0
  show OwnG p e below (OwnE s (QArr Z (bU us) h0 n0) ({ frames := 2, cells := 1, slots := 8, locals := 24 } : Room).cells ({ frames := 2, cells := 1, slots := 8, locals := 24 } : Room).slots) _
  refine own_by (S' := s₁.setTop (mkF m 0 #[.val (.ref src), .val (.int (0 : Int32)), .val (.int n), .unset, .unset] [])) (fun tZ kZ => castTop (ef_rmTB m src n) kZ) ?_
  refine own_by (S' := s₁.setTop (mkF m 1 #[.val (.ref src), .val (.int (0 : Int32)), .val (.int n), .unset, .unset] [(.int n)])) (fun tZ kZ => XS.iloadN X0.here hx rfl (hb hby d15_0) rfl kZ) ?_
  obtain ⟨_, _, ⟨T1, L1, k1, n1⟩, -, X1, ⟨Lc1, hQ1, l1, y1, z1⟩, st1⟩ := Jvm.LawKit.callS X0 hx (y := (⟨"java/lang/StringUTF16", "newBytesFor", "(I)[B"⟩ : MethodName)) hown (mvT hZ (hw_ hw 78 rfl)) (mvT hZ (hw_ hw 79 rfl)) (mvT hZ (hw_ hw 70 rfl)) (mvT hZ (hw_ hw 80 rfl)) (by decide) (backOf (W := 0) (rmNBF l Z a0 hw [] n us.length h0 n0 Z0 hn hl) hZ (hw_ hw 80 rfl) (hw_ hw 70 rfl) (by decide) (by decide)) (g := (mkF m 1 #[.val (.ref src), .val (.int (0 : Int32)), .val (.int n), .unset, .unset] [(.int n)])) rfl (by rw [hml]; rfl) (argsL := [(.int n)]) (rest := []) (lenOf pd_16 rfl) rfl (by show 2 * 0 + _ ≤ _; exact Nat.le_of_eq rfl) (hb hby d15_1) (fun _ _ => ⟨rfl, e0, (by decide : 0 + 1 ≤ _), (by decide : 0 + 8 ≤ _)⟩)
  dsimp only [Pt.U, Pt.locs, Pt.cells, Pt.slots] at X1 l1 y1 z1 st1 hQ1
  subst l1 y1 z1
  obtain ⟨bb, kb, rfl, N1q, Kc1, sz_bb, V_bb⟩ := hQ1
  have N1 := Fr.app N0 N1q
  have Zs1 := Nat.le_trans Z0 Kc1.1
  have Ec1 := own_ext0 Kc1
  have K1 := (Keep.refl h0 []).ext Ec1
  refine own_by (S' := T1.setTop (mkF m 4 #[.val (.ref src), .val (.int (0 : Int32)), .val (.int n), .unset, .unset] [(.ref bb)])) (fun tZ kZ => st1 _ kZ) ?_
  have g_bb : n0 ≤ bb := Nat.le_trans Z0 sz_bb
  refine own_by (S' := T1.setTop (mkF m 5 #[.val (.ref src), .val (.int (0 : Int32)), .val (.int n), .val (.ref bb), .unset] [])) (fun tZ kZ => XS.astoreN X1.here hx rfl (hb hby d15_4) rfl rfl (l' := #[.val (.ref src), .val (.int (0 : Int32)), .val (.int n), .val (.ref bb), .unset]) rfl kZ) ?_
  refine own_by (S' := T1.setTop (mkF m 6 #[.val (.ref src), .val (.int (0 : Int32)), .val (.int n), .val (.ref bb), .unset] [(.int (0 : Int32))])) (fun tZ kZ => XS.iconst X1.here hx rfl (hb hby d15_5) kZ) ?_
  refine own_by (S' := T1.setTop (mkF m 8 #[.val (.ref src), .val (.int (0 : Int32)), .val (.int n), .val (.ref bb), .val (.int (0 : Int32))] [])) (fun tZ kZ => XS.istore X1.here hx rfl (hb hby d15_6) rfl (l' := #[.val (.ref src), .val (.int (0 : Int32)), .val (.int n), .val (.ref bb), .val (.int (0 : Int32))]) rfl kZ) ?_
  have J8 : ∀ (f : Nat) (Tj2 : State) (Lj2 : List Loc) (hj2 : Heap) (j : Nat) (vi : Int32) (rs : List Value) (Xj2 : Stand p l e ({ frames := 2, cells := 1, slots := 8, locals := 24 } : Room) s m #[(.ref src), (.int (0 : Int32)), (.int n)] below meth c Tj2 Lj2 1 8) (ej2 : Tj2.heap = hj2) (Nj2 : Fr n0 Lj2) (Kj2 : Keep h0 hj2 []) (hf : us.length - j = f) (hvi : vi.toInt = j) (hj : j ≤ us.length) (V_j : OwnA Z hj2 bb kb .byte (bU (us.take j) ++ rs)) (hrs : rs.length = 2 * (us.length - j)), OwnG p e below (OwnE s (QArr Z (bU us) h0 n0) ({ frames := 2, cells := 1, slots := 8, locals := 24 } : Room).cells ({ frames := 2, cells := 1, slots := 8, locals := 24 } : Room).slots) (Tj2.setTop (mkF m 8 #[.val (.ref src), .val (.int vi), .val (.int n), .val (.ref bb), .val (.int vi)] [])) := by
    intro f
    induction f using Nat.strongRecOn with
    | ind f ih =>
      intro Tj2 Lj2 hj2 j vi rs Xj2 ej2 Nj2 Kj2 hf hvi hj V_j hrs
      refine own_by (S' := Tj2.setTop (mkF m 10 #[.val (.ref src), .val (.int vi), .val (.int n), .val (.ref bb), .val (.int vi)] [(.int vi)])) (fun tZ kZ => XS.iload Xj2.here hx rfl (hb hby d15_8) rfl kZ) ?_
      refine own_by (S' := Tj2.setTop (mkF m 11 #[.val (.ref src), .val (.int vi), .val (.int n), .val (.ref bb), .val (.int vi)] [(.int n), (.int vi)])) (fun tZ kZ => XS.iloadN Xj2.here hx rfl (hb hby d15_10) rfl kZ) ?_
      by_cases dg1 : vi < n
      · refine own_by (S' := Tj2.setTop (mkF m 14 #[.val (.ref src), .val (.int vi), .val (.int n), .val (.ref bb), .val (.int vi)] [])) (fun tZ kZ => XS.icmpNo Xj2.here hx rfl (hb hby d15_11) rfl (tlt dg1).2.1 kZ) ?_
        have hjn := (own_lt hvi hn).mp dg1
        obtain ⟨u, hu, hum⟩ := own_getq hjn
        refine own_by (S' := Tj2.setTop (mkF m 15 #[.val (.ref src), .val (.int vi), .val (.int n), .val (.ref bb), .val (.int vi)] [(.ref bb)])) (fun tZ kZ => XS.aloadN Xj2.here hx rfl (hb hby d15_14) rfl rfl kZ) ?_
        refine own_by (S' := Tj2.setTop (mkF m 17 #[.val (.ref src), .val (.int vi), .val (.int n), .val (.ref bb), .val (.int vi)] [(.int vi), (.ref bb)])) (fun tZ kZ => XS.iload Xj2.here hx rfl (hb hby d15_15) rfl kZ) ?_
        refine own_by (S' := Tj2.setTop (mkF m 18 #[.val (.ref src), .val (.int vi), .val (.int n), .val (.ref bb), .val (.int vi)] [(.ref src), (.int vi), (.ref bb)])) (fun tZ kZ => XS.aloadN Xj2.here hx rfl (hb hby d15_17) rfl rfl kZ) ?_
        refine own_by (S' := Tj2.setTop (mkF m 19 #[.val (.ref src), .val (.int vi), .val (.int n), .val (.ref bb), .val (.int vi)] [(.int vi), (.ref src), (.int vi), (.ref bb)])) (fun tZ kZ => XS.iloadN Xj2.here hx rfl (hb hby d15_18) rfl kZ) ?_
        have ExKj2 := own_ext0 Kj2
        obtain ⟨cc3, Ar3, hc3, hl3⟩ := id (V_src.ext ExKj2)
        refine own_by (S' := Tj2.setTop (mkF m 20 #[.val (.ref src), .val (.int vi), .val (.int n), .val (.ref bb), .val (.int vi)] [(.int u), (.int vi), (.ref bb)])) (fun tZ kZ => Xj2.caload hx (j := vi) (v := (.int u)) (by rw [ej2]; exact Ar3.1) (State.isArrayOf_alike hZ.alike Ar3.2.1) Ar3.2.2 (OwnA.inb (j := vi) hl3 (own_nneg hvi) (by rw [own_tnc hvi, cV_len]; exact hjn)) (OwnA.at (j := vi) hl3 (by rw [own_tnc hvi]; exact cV_at hu)) (g := (mkF m 19 #[.val (.ref src), .val (.int vi), .val (.int n), .val (.ref bb), .val (.int vi)] [(.int vi), (.ref src), (.int vi), (.ref bb)])) rfl rfl (hb hby d15_19) _ kZ) ?_
        obtain ⟨_, _, ⟨T4, L4, k4, n4⟩, -, X4, ⟨Lc4, hQ4, l4, y4, z4⟩, st4⟩ := Jvm.LawKit.callS Xj2 hx (y := (⟨"java/lang/StringUTF16", "putChar", "([BII)V"⟩ : MethodName)) hown (mvT hZ (hw_ hw 85 rfl)) (mvT hZ (hw_ hw 86 rfl)) (mvT hZ (hw_ hw 70 rfl)) (mvT hZ (hw_ hw 87 rfl)) (by decide) (backOf (W := 0) (rmPut l Z a0 hw [] bb kb _ vi j u cz fm hj2 n0 (Nat.le_trans Z0 Kj2.1) V_j hvi (by rw [List.length_append, bU_len, List.length_take, hrs]; omega) (by omega) g_bb (W.ext ExKj2)) hZ (hw_ hw 87 rfl) (hw_ hw 70 rfl) (by decide) (by decide)) (g := (mkF m 20 #[.val (.ref src), .val (.int vi), .val (.int n), .val (.ref bb), .val (.int vi)] [(.int u), (.int vi), (.ref bb)])) rfl (by rw [hml]; rfl) (argsL := [(.ref bb), (.int vi), (.int u)]) (rest := []) (lenOf pd_17 rfl) rfl (by show 2 * 0 + _ ≤ _; exact Nat.le_of_eq rfl) (hb hby d15_20) (fun _ _ => ⟨rfl, ej2, (by decide : 1 + 0 ≤ _), (by decide : 8 + 0 ≤ _)⟩)
        dsimp only [Pt.U, Pt.locs, Pt.cells, Pt.slots] at X4 l4 y4 z4 st4 hQ4
        subst l4 y4 z4
        obtain ⟨rfl, N4q, Kc4, Vp4⟩ := hQ4
        have N4 := Fr.app Nj2 N4q
        have Zs4 := Nat.le_trans (Nat.le_trans Z0 Kj2.1) Kc4.1
        have K4 := Kj2.trans Kc4 (fun x hx => by
            simp only [List.mem_cons, List.not_mem_nil, or_false] at hx
            rcases hx with rfl
            · exact Or.inr sz_bb)
        refine own_by (S' := T4.setTop (mkF m 23 #[.val (.ref src), .val (.int vi), .val (.int n), .val (.ref bb), .val (.int vi)] [])) (fun tZ kZ => st4 _ kZ) ?_
        refine own_by (S' := T4.setTop (mkF m 26 #[.val (.ref src), .val (.int (vi + (1 : Int32))), .val (.int n), .val (.ref bb), .val (.int vi)] [])) (fun tZ kZ => XS.iinc X4.here hx rfl (hb hby d15_23) rfl (l' := #[.val (.ref src), .val (.int (vi + (1 : Int32))), .val (.int n), .val (.ref bb), .val (.int vi)]) rfl kZ) ?_
        refine own_by (S' := T4.setTop (mkF m 29 #[.val (.ref src), .val (.int (vi + (1 : Int32))), .val (.int n), .val (.ref bb), .val (.int (vi + (1 : Int32)))] [])) (fun tZ kZ => XS.iinc X4.here hx rfl (hb hby d15_26) rfl (l' := #[.val (.ref src), .val (.int (vi + (1 : Int32))), .val (.int n), .val (.ref bb), .val (.int (vi + (1 : Int32)))]) rfl kZ) ?_
        refine own_by (S' := T4.setTop (mkF m 8 #[.val (.ref src), .val (.int (vi + (1 : Int32))), .val (.int n), .val (.ref bb), .val (.int (vi + (1 : Int32)))] [])) (fun tZ kZ => XS.goto X4.here hx rfl (pc0 := 29) (pc' := 8) rfl (hb hby d15_29) (by decide) (by decide) kZ) ?_
        obtain ⟨rs', hr1, hr2⟩ := own_fillU hu hrs hjn
        rw [hr2] at Vp4
        exact ih (us.length - (j + 1)) (by omega) _ _ _ (j + 1) _ rs' X4 rfl N4 K4 rfl (own_inc hvi (by omega)) (by omega) Vp4 hr1
      · refine own_by (S' := Tj2.setTop (mkF m 32 #[.val (.ref src), .val (.int vi), .val (.int n), .val (.ref bb), .val (.int vi)] [])) (fun tZ kZ => XS.icmpYes Xj2.here hx rfl (pc0 := 11) (pc' := 32) rfl (hb hby d15_11) rfl (flt dg1).2.1 (by decide) (by decide) kZ) ?_
        have hjn : j = us.length := by rw [own_lt hvi hn] at dg1; omega
        have hr0 : rs = [] := List.length_eq_zero_iff.mp (by omega)
        rw [hr0, List.append_nil, hjn, List.take_length] at V_j
        refine own_by (S' := Tj2.setTop (mkF m 33 #[.val (.ref src), .val (.int vi), .val (.int n), .val (.ref bb), .val (.int vi)] [(.ref bb)])) (fun tZ kZ => XS.aloadN Xj2.here hx rfl (hb hby d15_32) rfl rfl kZ) ?_
        exact own_retA Xj2 hx Bd.returns rfl rfl (hb hby d15_33) Bd.notSynchronized (by decide) (by decide) (show QArr Z (bU us) h0 n0 _ Tj2.heap _ from by rw [ej2]; exact ⟨bb, kb, rfl, Nj2, Kj2, sz_bb, V_j⟩)
  exact J8 us.length _ _ _ 0 0 (List.replicate (2 * us.length) (.int 0)) X1 rfl N1 K1 (Nat.sub_zero _) rfl (Nat.zero_le _) V_bb (by rw [List.length_replicate]; omega)
theorem d14_0 : decode jdk_52_method_21_code 0 = .ok (.iconst 0, 1) := by decide +kernel
theorem d14_1 : decode jdk_52_method_21_code 1 = .ok (.istore 5, 2) := by decide +kernel
theorem d14_3 : decode jdk_52_method_21_code 3 = .ok (.iload 5, 2) := by decide +kernel
theorem d14_5 : decode jdk_52_method_21_code 5 = .ok (.iload 4, 2) := by decide +kernel
theorem d14_7 : decode jdk_52_method_21_code 7 = .ok (.if_icmp .ge 37, 3) := by decide +kernel
theorem d14_10 : decode jdk_52_method_21_code 10 = .ok (.aload_n 0, 1) := by decide +kernel
theorem d14_11 : decode jdk_52_method_21_code 11 = .ok (.iload_n 1, 1) := by decide +kernel
theorem d14_12 : decode jdk_52_method_21_code 12 = .ok (.caload, 1) := by decide +kernel
theorem d14_13 : decode jdk_52_method_21_code 13 = .ok (.istore 6, 2) := by decide +kernel
theorem d14_15 : decode jdk_52_method_21_code 15 = .ok (.iload 6, 2) := by decide +kernel
theorem d14_17 : decode jdk_52_method_21_code 17 = .ok (.sipush 255, 3) := by decide +kernel
theorem d14_20 : decode jdk_52_method_21_code 20 = .ok (.if_icmp .le 6, 3) := by decide +kernel
theorem d14_23 : decode jdk_52_method_21_code 23 = .ok (.iload 5, 2) := by decide +kernel
theorem d14_25 : decode jdk_52_method_21_code 25 = .ok (.ireturn, 1) := by decide +kernel
theorem d14_26 : decode jdk_52_method_21_code 26 = .ok (.aload_n 2, 1) := by decide +kernel
theorem d14_27 : decode jdk_52_method_21_code 27 = .ok (.iload_n 3, 1) := by decide +kernel
theorem d14_28 : decode jdk_52_method_21_code 28 = .ok (.iload 6, 2) := by decide +kernel
theorem d14_30 : decode jdk_52_method_21_code 30 = .ok (.i2b, 1) := by decide +kernel
theorem d14_31 : decode jdk_52_method_21_code 31 = .ok (.bastore, 1) := by decide +kernel
theorem d14_32 : decode jdk_52_method_21_code 32 = .ok (.iinc 1 1, 3) := by decide +kernel
theorem d14_35 : decode jdk_52_method_21_code 35 = .ok (.iinc 3 1, 3) := by decide +kernel
theorem d14_38 : decode jdk_52_method_21_code 38 = .ok (.iinc 5 1, 3) := by decide +kernel
theorem d14_41 : decode jdk_52_method_21_code 41 = .ok (.goto (-38), 3) := by decide +kernel
theorem d14_44 : decode jdk_52_method_21_code 44 = .ok (.iload 4, 2) := by decide +kernel
theorem d14_46 : decode jdk_52_method_21_code 46 = .ok (.ireturn, 1) := by decide +kernel
theorem ef_rmC5C (m : MethodId) (src : Addr) (d : Addr) (n : Int32) : entryFrame m #[(.ref src), (.int (0 : Int32)), (.ref d), (.int (0 : Int32)), (.int n)] 7 = mkF m 0 #[.val (.ref src), .val (.int (0 : Int32)), .val (.ref d), .val (.int (0 : Int32)), .val (.int n), .unset, .unset] [] := by first | (simp [entryFrame, mkF, argsToLocals, Value.category, maxLocals]; done) | rfl
set_option maxRecDepth 65536 in
set_option maxHeartbeats 40000000 in
theorem rmC5C (l : Launch) (Z : State) (a0 : Array Value) (hw : ∀ d ∈ tables_1, d.before a0 Z = true) (ws : List Jvm.Cond) (src d : Addr) (ks kd : ClassId) (us : List Int32) (n : Int32) (ws_ : List Value) (h0 : Heap) (n0 : Nat) (Z0 : n0 ≤ h0.size) (V_src : OwnA Z h0 src ks .char (cV us)) (hn : n.toInt = us.length) (hl : us.length ≤ 4) (hus : ∀ q ∈ us, CU q) (V_d : OwnA Z h0 d kd .byte ws_) (hlw : ws_.length = us.length) (n_sd : src ≠ d) (g_d : n0 ≤ d) :
    MetFree l (⟨"java/lang/StringUTF16", "compress", "([CI[BII)I"⟩ : MethodName) (head1 (Jvm.Cond.code (⟨"java/lang/StringUTF16", "compress", "([CI[BII)I"⟩ : MethodName) jdk_52_method_21_code (7 : Nat) (Option.some Jvm.ClassFile.FieldType.int) :: ws) ({ frames := 0, cells := 0, slots := 0, locals := 0 } : Room)) (fun aZ UZ => aZ = #[(.ref src), (.int (0 : Int32)), (.ref d), (.int (0 : Int32)), (.int n)] ∧ Z.Warmed39 UZ.vm ∧ UZ.heap = h0) (fun _ _ _ _ _ => True) (fun _ UZ oZ VZ => ∃ vZ LZ, oZ = .returned vZ ∧ (QC5 Z d kd us us.length h0 n0) vZ VZ.heap LZ ∧ FrameEnd UZ oZ VZ LZ ({ frames := 0, cells := 0, slots := 0, locals := 0 } : Room).cells ({ frames := 0, cells := 0, slots := 0, locals := 0 } : Room).slots) := by
  refine MetFree.of_bodySF (plainFor_of_name pn_3) hisR ?_
  intro p e s m args below meth c s₁ Bd hml0 hP hK
  obtain ⟨rfl, hZ, hh⟩ := hP
  have hx := Bd.exec
  have hby := Bd.bytes
  have hml : c.maxLocals = 7 := hml0
  have hown : s.vm.findClass "java/lang/StringUTF16" = some m.cls := findClass_of_methodNamed Bd.named
  have hnm := (name_of_methodNamed Bd.named Bd.method).1
  have X0 : Stand p l e ({ frames := 0, cells := 0, slots := 0, locals := 0 } : Room) s m #[(.ref src), (.int (0 : Int32)), (.ref d), (.int (0 : Int32)), (.int n)] below meth c s₁ [] 0 0 := Stand.of_body Bd
  have e0 : s₁.heap = h0 := by rw [← hh, Bd.state]; rfl
  have N0 := Fr.nil n0
  show OwnG p e below (OwnE s (QC5 Z d kd us us.length h0 n0) ({ frames := 0, cells := 0, slots := 0, locals := 0 } : Room).cells ({ frames := 0, cells := 0, slots := 0, locals := 0 } : Room).slots) _
  refine own_by (S' := s₁.setTop (mkF m 0 #[.val (.ref src), .val (.int (0 : Int32)), .val (.ref d), .val (.int (0 : Int32)), .val (.int n), .unset, .unset] [])) (fun tZ kZ => castTop (ef_rmC5C m src d n) kZ) ?_
  refine own_by (S' := s₁.setTop (mkF m 1 #[.val (.ref src), .val (.int (0 : Int32)), .val (.ref d), .val (.int (0 : Int32)), .val (.int n), .unset, .unset] [(.int (0 : Int32))])) (fun tZ kZ => XS.iconst X0.here hx rfl (hb hby d14_0) kZ) ?_
  refine own_by (S' := s₁.setTop (mkF m 3 #[.val (.ref src), .val (.int (0 : Int32)), .val (.ref d), .val (.int (0 : Int32)), .val (.int n), .val (.int (0 : Int32)), .unset] [])) (fun tZ kZ => XS.istore X0.here hx rfl (hb hby d14_1) rfl (l' := #[.val (.ref src), .val (.int (0 : Int32)), .val (.ref d), .val (.int (0 : Int32)), .val (.int n), .val (.int (0 : Int32)), .unset]) rfl kZ) ?_
  have J3 : ∀ (f : Nat) (Tj1 : State) (Lj1 : List Loc) (hj1 : Heap) (j : Nat) (vi : Int32) (s6 : Slot) (rs : List Value) (Xj1 : Stand p l e ({ frames := 0, cells := 0, slots := 0, locals := 0 } : Room) s m #[(.ref src), (.int (0 : Int32)), (.ref d), (.int (0 : Int32)), (.int n)] below meth c Tj1 Lj1 0 0) (ej1 : Tj1.heap = hj1) (Nj1 : Fr n0 Lj1) (Kj1 : Keep h0 hj1 [d]) (hf : us.length - j = f) (hvi : vi.toInt = j) (hj : j ≤ us.length) (V_dj : OwnA Z hj1 d kd .byte (bL (us.take j) ++ rs)) (hrs : rs.length = us.length - j) (hal : ∀ q ∈ us.take j, q.toInt ≤ 255) (hs6 : One s6), OwnG p e below (OwnE s (QC5 Z d kd us us.length h0 n0) ({ frames := 0, cells := 0, slots := 0, locals := 0 } : Room).cells ({ frames := 0, cells := 0, slots := 0, locals := 0 } : Room).slots) (Tj1.setTop (mkF m 3 #[.val (.ref src), .val (.int vi), .val (.ref d), .val (.int vi), .val (.int n), .val (.int vi), s6] [])) := by
    intro f
    induction f using Nat.strongRecOn with
    | ind f ih =>
      intro Tj1 Lj1 hj1 j vi s6 rs Xj1 ej1 Nj1 Kj1 hf hvi hj V_dj hrs hal hs6
      have V_sj := V_src.keep Kj1 (fun q => n_sd (List.mem_singleton.mp q))
      refine own_by (S' := Tj1.setTop (mkF m 5 #[.val (.ref src), .val (.int vi), .val (.ref d), .val (.int vi), .val (.int n), .val (.int vi), s6] [(.int vi)])) (fun tZ kZ => XS.iload Xj1.here hx rfl (hb hby d14_3) rfl kZ) ?_
      refine own_by (S' := Tj1.setTop (mkF m 7 #[.val (.ref src), .val (.int vi), .val (.ref d), .val (.int vi), .val (.int n), .val (.int vi), s6] [(.int n), (.int vi)])) (fun tZ kZ => XS.iload Xj1.here hx rfl (hb hby d14_5) rfl kZ) ?_
      by_cases dg1 : vi < n
      · refine own_by (S' := Tj1.setTop (mkF m 10 #[.val (.ref src), .val (.int vi), .val (.ref d), .val (.int vi), .val (.int n), .val (.int vi), s6] [])) (fun tZ kZ => XS.icmpNo Xj1.here hx rfl (hb hby d14_7) rfl (tlt dg1).2.1 kZ) ?_
        have hjn := (own_lt hvi hn).mp dg1
        obtain ⟨u, hu, hum⟩ := own_getq (us := us) (k := j) (by omega)
        refine own_by (S' := Tj1.setTop (mkF m 11 #[.val (.ref src), .val (.int vi), .val (.ref d), .val (.int vi), .val (.int n), .val (.int vi), s6] [(.ref src)])) (fun tZ kZ => XS.aloadN Xj1.here hx rfl (hb hby d14_10) rfl rfl kZ) ?_
        refine own_by (S' := Tj1.setTop (mkF m 12 #[.val (.ref src), .val (.int vi), .val (.ref d), .val (.int vi), .val (.int n), .val (.int vi), s6] [(.int vi), (.ref src)])) (fun tZ kZ => XS.iloadN Xj1.here hx rfl (hb hby d14_11) rfl kZ) ?_
        obtain ⟨cc2, Ar2, hc2, hl2⟩ := id V_sj
        refine own_by (S' := Tj1.setTop (mkF m 13 #[.val (.ref src), .val (.int vi), .val (.ref d), .val (.int vi), .val (.int n), .val (.int vi), s6] [(.int u)])) (fun tZ kZ => Xj1.caload hx (j := vi) (v := (.int u)) (by rw [ej1]; exact Ar2.1) (State.isArrayOf_alike hZ.alike Ar2.2.1) Ar2.2.2 (OwnA.inb (j := vi) hl2 (own_nneg hvi) (by rw [own_tnc hvi, cV_len]; exact hjn)) (OwnA.at (j := vi) hl2 (by rw [own_tnc hvi]; exact cV_at hu)) (g := (mkF m 12 #[.val (.ref src), .val (.int vi), .val (.ref d), .val (.int vi), .val (.int n), .val (.int vi), s6] [(.int vi), (.ref src)])) rfl rfl (hb hby d14_12) _ kZ) ?_
        refine own_by (S' := Tj1.setTop (mkF m 15 #[.val (.ref src), .val (.int vi), .val (.ref d), .val (.int vi), .val (.int n), .val (.int vi), .val (.int u)] [])) (fun tZ kZ => XS.istore Xj1.here hx rfl (hb hby d14_13) rfl (l' := #[.val (.ref src), .val (.int vi), .val (.ref d), .val (.int vi), .val (.int n), .val (.int vi), .val (.int u)]) (own_os6 hs6) kZ) ?_
        refine own_by (S' := Tj1.setTop (mkF m 17 #[.val (.ref src), .val (.int vi), .val (.ref d), .val (.int vi), .val (.int n), .val (.int vi), .val (.int u)] [(.int u)])) (fun tZ kZ => XS.iload Xj1.here hx rfl (hb hby d14_15) rfl kZ) ?_
        refine own_by (S' := Tj1.setTop (mkF m 20 #[.val (.ref src), .val (.int vi), .val (.ref d), .val (.int vi), .val (.int n), .val (.int vi), .val (.int u)] [(.int (255 : Int32)), (.int u)])) (fun tZ kZ => XS.sipush Xj1.here hx rfl (hb hby d14_17) kZ) ?_
        by_cases dg2 : (255 : Int32) < u
        · refine own_by (S' := Tj1.setTop (mkF m 23 #[.val (.ref src), .val (.int vi), .val (.ref d), .val (.int vi), .val (.int n), .val (.int vi), .val (.int u)] [])) (fun tZ kZ => XS.icmpNo Xj1.here hx rfl (hb hby d14_20) rfl (tlt dg2).2.2.2 kZ) ?_
          refine own_by (S' := Tj1.setTop (mkF m 25 #[.val (.ref src), .val (.int vi), .val (.ref d), .val (.int vi), .val (.int n), .val (.int vi), .val (.int u)] [(.int vi)])) (fun tZ kZ => XS.iload Xj1.here hx rfl (hb hby d14_23) rfl kZ) ?_
          exact own_retI Xj1 hx (t := .int) Bd.returns (by simp) rfl (hb hby d14_25) Bd.notSynchronized (by decide) (by decide) (show QC5 Z d kd us us.length h0 n0 _ Tj1.heap _ from by rw [ej1]; exact ⟨_, j, rfl, Nj1, Kj1, hvi, _, V_dj, Or.inr ⟨hjn, u, hu, own_big.mpr dg2⟩⟩)
        · refine own_by (S' := Tj1.setTop (mkF m 26 #[.val (.ref src), .val (.int vi), .val (.ref d), .val (.int vi), .val (.int n), .val (.int vi), .val (.int u)] [])) (fun tZ kZ => XS.icmpYes Xj1.here hx rfl (pc0 := 20) (pc' := 26) rfl (hb hby d14_20) rfl (flt dg2).2.2.2 (by decide) (by decide) kZ) ?_
          refine own_by (S' := Tj1.setTop (mkF m 27 #[.val (.ref src), .val (.int vi), .val (.ref d), .val (.int vi), .val (.int n), .val (.int vi), .val (.int u)] [(.ref d)])) (fun tZ kZ => XS.aloadN Xj1.here hx rfl (hb hby d14_26) rfl rfl kZ) ?_
          refine own_by (S' := Tj1.setTop (mkF m 28 #[.val (.ref src), .val (.int vi), .val (.ref d), .val (.int vi), .val (.int n), .val (.int vi), .val (.int u)] [(.int vi), (.ref d)])) (fun tZ kZ => XS.iloadN Xj1.here hx rfl (hb hby d14_27) rfl kZ) ?_
          refine own_by (S' := Tj1.setTop (mkF m 30 #[.val (.ref src), .val (.int vi), .val (.ref d), .val (.int vi), .val (.int n), .val (.int vi), .val (.int u)] [(.int u), (.int vi), (.ref d)])) (fun tZ kZ => XS.iload Xj1.here hx rfl (hb hby d14_28) rfl kZ) ?_
          refine own_by (S' := Tj1.setTop (mkF m 31 #[.val (.ref src), .val (.int vi), .val (.ref d), .val (.int vi), .val (.int n), .val (.int vi), .val (.int u)] [(.int (u.toInt8.toInt32)), (.int vi), (.ref d)])) (fun tZ kZ => XS.i2b Xj1.here hx rfl (hb hby d14_30) rfl kZ) ?_
          obtain ⟨cc3, Ar3, hc3, hl3⟩ := id V_dj
          have hin3 := OwnA.inb (j := vi) hl3 (own_nneg hvi) (by rw [own_tnc hvi, List.length_append, bL_len, List.length_take, hrs]; omega)
          obtain ⟨T3, h3, X3, e3, W3, st3⟩ := stB Xj1 hx hZ ej1 Ar3 (j := vi) hin3 (g := (mkF m 31 #[.val (.ref src), .val (.int vi), .val (.ref d), .val (.int vi), .val (.int n), .val (.int vi), .val (.int u)] [(.int (u.toInt8.toInt32)), (.int vi), (.ref d)])) rfl rfl (hb hby d14_31)
          have N3 := Fr.snoc X3 Nj1 g_d
          have V_src_3 := V_sj.other W3 n_sd
          have Zs3 : n0 ≤ h3.size := Nat.le_trans (Nat.le_trans Z0 Kj1.1) (Keep.of_wr W3).1
          have K3 := Kj1.wr W3 (Or.inl (List.mem_of_getElem? (i := 0) rfl))
          have V_d_w3 := V_dj.set W3
          refine own_by (S' := T3.setTop (mkF m 32 #[.val (.ref src), .val (.int vi), .val (.ref d), .val (.int vi), .val (.int n), .val (.int vi), .val (.int u)] [])) st3 ?_
          obtain ⟨rs', hr1, hr2⟩ := own_fillL (E := us.length) hu hrs hjn
          have V_d2 : OwnA Z h3 d kd .byte (bL (us.take (j + 1)) ++ rs') := by
            rw [← hr2]
            have q := V_d_w3
            rw [own_tnc hvi] at q
            exact q
          refine own_by (S' := T3.setTop (mkF m 35 #[.val (.ref src), .val (.int (vi + (1 : Int32))), .val (.ref d), .val (.int vi), .val (.int n), .val (.int vi), .val (.int u)] [])) (fun tZ kZ => XS.iinc X3.here hx rfl (hb hby d14_32) rfl (l' := #[.val (.ref src), .val (.int (vi + (1 : Int32))), .val (.ref d), .val (.int vi), .val (.int n), .val (.int vi), .val (.int u)]) rfl kZ) ?_
          refine own_by (S' := T3.setTop (mkF m 38 #[.val (.ref src), .val (.int (vi + (1 : Int32))), .val (.ref d), .val (.int (vi + (1 : Int32))), .val (.int n), .val (.int vi), .val (.int u)] [])) (fun tZ kZ => XS.iinc X3.here hx rfl (hb hby d14_35) rfl (l' := #[.val (.ref src), .val (.int (vi + (1 : Int32))), .val (.ref d), .val (.int (vi + (1 : Int32))), .val (.int n), .val (.int vi), .val (.int u)]) rfl kZ) ?_
          refine own_by (S' := T3.setTop (mkF m 41 #[.val (.ref src), .val (.int (vi + (1 : Int32))), .val (.ref d), .val (.int (vi + (1 : Int32))), .val (.int n), .val (.int (vi + (1 : Int32))), .val (.int u)] [])) (fun tZ kZ => XS.iinc X3.here hx rfl (hb hby d14_38) rfl (l' := #[.val (.ref src), .val (.int (vi + (1 : Int32))), .val (.ref d), .val (.int (vi + (1 : Int32))), .val (.int n), .val (.int (vi + (1 : Int32))), .val (.int u)]) rfl kZ) ?_
          refine own_by (S' := T3.setTop (mkF m 3 #[.val (.ref src), .val (.int (vi + (1 : Int32))), .val (.ref d), .val (.int (vi + (1 : Int32))), .val (.int n), .val (.int (vi + (1 : Int32))), .val (.int u)] [])) (fun tZ kZ => XS.goto X3.here hx rfl (pc0 := 41) (pc' := 3) rfl (hb hby d14_41) (by decide) (by decide) kZ) ?_
          exact ih (us.length - (j + 1)) (by omega) _ _ _ (j + 1) _ _ rs' X3 e3 N3 K3 rfl (own_inc hvi (by omega)) (by omega) V_d2 hr1 (own_all hu hal dg2) (One.val rfl)
      · refine own_by (S' := Tj1.setTop (mkF m 44 #[.val (.ref src), .val (.int vi), .val (.ref d), .val (.int vi), .val (.int n), .val (.int vi), s6] [])) (fun tZ kZ => XS.icmpYes Xj1.here hx rfl (pc0 := 7) (pc' := 44) rfl (hb hby d14_7) rfl (flt dg1).2.1 (by decide) (by decide) kZ) ?_
        have hjE : j = us.length := by rw [own_lt hvi hn] at dg1; omega
        have hr0 : rs = [] := List.length_eq_zero_iff.mp (by omega)
        refine own_by (S' := Tj1.setTop (mkF m 46 #[.val (.ref src), .val (.int vi), .val (.ref d), .val (.int vi), .val (.int n), .val (.int vi), s6] [(.int n)])) (fun tZ kZ => XS.iload Xj1.here hx rfl (hb hby d14_44) rfl kZ) ?_
        exact own_retI Xj1 hx (t := .int) Bd.returns (by simp) rfl (hb hby d14_46) Bd.notSynchronized (by decide) (by decide) (show QC5 Z d kd us us.length h0 n0 _ Tj1.heap _ from by rw [ej1]; exact ⟨_, us.length, rfl, Nj1, Kj1, hn, _, V_dj, Or.inl ⟨rfl, by rw [hr0, List.append_nil, hjE], by rw [hjE] at hal; exact hal⟩⟩)
  exact J3 us.length _ _ _ 0 0 .unset ws_ X0 e0 N0 (Keep.refl h0 [d]) (Nat.sub_zero _) rfl (Nat.zero_le _) V_d hlw (fun q hq => absurd hq (by simp)) One.u
theorem d42_0 : decode jdk_52_method_94_code 0 = .ok (.iload_n 0, 1) := by decide +kernel
theorem d42_1 : decode jdk_52_method_94_code 1 = .ok (.iload_n 1, 1) := by decide +kernel
theorem d42_2 : decode jdk_52_method_94_code 2 = .ok (.aload_n 2, 1) := by decide +kernel
theorem d42_3 : decode jdk_52_method_94_code 3 = .ok (.invokestatic 48, 3) := by decide +kernel
theorem d42_6 : decode jdk_52_method_94_code 6 = .ok (.invokestatic 419, 3) := by decide +kernel
theorem d42_9 : decode jdk_52_method_94_code 9 = .ok (.pop, 1) := by decide +kernel
theorem d42_10 : decode jdk_52_method_94_code 10 = .ok (.return_, 1) := by decide +kernel
theorem ef_rmUBO (m : MethodId) (n : Int32) (b : Addr) : entryFrame m #[(.int (0 : Int32)), (.int n), (.ref b)] 3 = mkF m 0 #[.val (.int (0 : Int32)), .val (.int n), .val (.ref b)] [] := by first | (simp [entryFrame, mkF, argsToLocals, Value.category, maxLocals]; done) | rfl
set_option maxRecDepth 65536 in
set_option maxHeartbeats 40000000 in
theorem rmUBO (l : Launch) (Z : State) (a0 : Array Value) (hw : ∀ d ∈ tables_1, d.before a0 Z = true) (ws : List Jvm.Cond) (b : Addr) (kb : ClassId) (us : List Int32) (n z : Int32) (cz : Int32) (fm : Value) (h0 : Heap) (n0 : Nat) (Z0 : n0 ≤ h0.size) (V_b : OwnA Z h0 b kb .byte (bU us)) (hl : us.length ≤ 4) (hz : z.toInt = us.length) (h1 : ¬ ((z ||| 0) ||| n) < 0) (h2 : ¬ (z - 0) < n) (W : OwnW Z h0 cz fm) :
    MetFree l (⟨"java/lang/StringUTF16", "checkBoundsOffCount", "(II[B)V"⟩ : MethodName) (head1 (Jvm.Cond.code (⟨"java/lang/StringUTF16", "checkBoundsOffCount", "(II[B)V"⟩ : MethodName) jdk_52_method_94_code (3 : Nat) (Option.none : Option Jvm.ClassFile.FieldType) :: ws) ({ frames := 2, cells := 0, slots := 0, locals := 29 } : Room)) (fun aZ UZ => aZ = #[(.int (0 : Int32)), (.int n), (.ref b)] ∧ Z.Warmed39 UZ.vm ∧ UZ.heap = h0) (fun _ _ _ _ _ => True) (fun _ UZ oZ VZ => ∃ vZ LZ, oZ = .returned vZ ∧ (QSame none h0 n0) vZ VZ.heap LZ ∧ FrameEnd UZ oZ VZ LZ ({ frames := 2, cells := 0, slots := 0, locals := 29 } : Room).cells ({ frames := 2, cells := 0, slots := 0, locals := 29 } : Room).slots) := by
  refine MetFree.of_bodySF (plainFor_of_name pn_3) hisR ?_
  intro p e s m args below meth c s₁ Bd hml0 hP hK
  obtain ⟨rfl, hZ, hh⟩ := hP
  have hx := Bd.exec
  have hby := Bd.bytes
  have hml : c.maxLocals = 3 := hml0
  have hown : s.vm.findClass "java/lang/StringUTF16" = some m.cls := findClass_of_methodNamed Bd.named
  have hnm := (name_of_methodNamed Bd.named Bd.method).1
  have X0 : Stand p l e ({ frames := 2, cells := 0, slots := 0, locals := 29 } : Room) s m #[(.int (0 : Int32)), (.int n), (.ref b)] below meth c s₁ [] 0 0 := Stand.of_body Bd
  have e0 : s₁.heap = h0 := by rw [← hh, Bd.state]; rfl
  have N0 := Fr.nil n0
  show OwnG p e below (OwnE s (QSame none h0 n0) ({ frames := 2, cells := 0, slots := 0, locals := 29 } : Room).cells ({ frames := 2, cells := 0, slots := 0, locals := 29 } : Room).slots) _
  refine own_by (S' := s₁.setTop (mkF m 0 #[.val (.int (0 : Int32)), .val (.int n), .val (.ref b)] [])) (fun tZ kZ => castTop (ef_rmUBO m n b) kZ) ?_
  refine own_by (S' := s₁.setTop (mkF m 1 #[.val (.int (0 : Int32)), .val (.int n), .val (.ref b)] [(.int (0 : Int32))])) (fun tZ kZ => XS.iloadN X0.here hx rfl (hb hby d42_0) rfl kZ) ?_
  refine own_by (S' := s₁.setTop (mkF m 2 #[.val (.int (0 : Int32)), .val (.int n), .val (.ref b)] [(.int n), (.int (0 : Int32))])) (fun tZ kZ => XS.iloadN X0.here hx rfl (hb hby d42_1) rfl kZ) ?_
  refine own_by (S' := s₁.setTop (mkF m 3 #[.val (.int (0 : Int32)), .val (.int n), .val (.ref b)] [(.ref b), (.int n), (.int (0 : Int32))])) (fun tZ kZ => XS.aloadN X0.here hx rfl (hb hby d42_2) rfl rfl kZ) ?_
  obtain ⟨_, _, ⟨T1, L1, k1, n1⟩, -, X1, ⟨Lc1, hQ1, l1, y1, z1⟩, st1⟩ := Jvm.LawKit.callS X0 hx (y := (⟨"java/lang/StringUTF16", "length", "([B)I"⟩ : MethodName)) hown (mvT hZ (hw_ hw 125 rfl)) (mvT hZ (hw_ hw 126 rfl)) (mvT hZ (hw_ hw 70 rfl)) (mvT hZ (hw_ hw 127 rfl)) (by decide) (backOf (W := 2) (rmULen l Z a0 hw [] b kb us z h0 n0 Z0 V_b hl hz) hZ (hw_ hw 127 rfl) (hw_ hw 70 rfl) (by decide) (by decide)) (g := (mkF m 3 #[.val (.int (0 : Int32)), .val (.int n), .val (.ref b)] [(.ref b), (.int n), (.int (0 : Int32))])) rfl (by rw [hml]; rfl) (argsL := [(.ref b)]) (rest := [(.int n), (.int (0 : Int32))]) (lenOf pd_3 rfl) rfl (by show 2 * 0 + _ ≤ _; exact Nat.le_of_eq rfl) (hb hby d42_3) (fun _ _ => ⟨rfl, e0, (by decide : 0 + 0 ≤ _), (by decide : 0 + 0 ≤ _)⟩)
  dsimp only [Pt.U, Pt.locs, Pt.cells, Pt.slots] at X1 l1 y1 z1 st1 hQ1
  subst l1 y1 z1
  obtain ⟨rfl, N1q, heq1⟩ := hQ1
  have N1 := Fr.app N0 N1q
  refine own_by (S' := T1.setTop (mkF m 6 #[.val (.int (0 : Int32)), .val (.int n), .val (.ref b)] [(.int z), (.int n), (.int (0 : Int32))])) (fun tZ kZ => st1 _ kZ) ?_
  obtain ⟨_, _, ⟨T2, L2, k2, n2⟩, -, X2, ⟨Lc2, hQ2, l2, y2, z2⟩, st2⟩ := Jvm.LawKit.callS X1 hx (y := (⟨"java/lang/String", "checkBoundsOffCount", "(III)I"⟩ : MethodName)) hown (mvT hZ (hw_ hw 196 rfl)) (mvT hZ (hw_ hw 197 rfl)) (mvT hZ (hw_ hw 14 rfl)) (mvT hZ (hw_ hw 198 rfl)) (by decide) (backOf (W := 0) (rmCBO l Z a0 hw [] (0 : Int32) n z cz fm h0 n0 Z0 h1 h2 W) hZ (hw_ hw 198 rfl) (hw_ hw 14 rfl) (by decide) (by decide)) (g := (mkF m 6 #[.val (.int (0 : Int32)), .val (.int n), .val (.ref b)] [(.int z), (.int n), (.int (0 : Int32))])) rfl (by rw [hml]; rfl) (argsL := [(.int (0 : Int32)), (.int n), (.int z)]) (rest := []) (lenOf pd_11 rfl) rfl (by show 2 * 0 + _ ≤ _; exact Nat.le_of_eq rfl) (hb hby d42_6) (fun _ _ => ⟨rfl, heq1, (by decide : 0 + 0 ≤ _), (by decide : 0 + 0 ≤ _)⟩)
  dsimp only [Pt.U, Pt.locs, Pt.cells, Pt.slots] at X2 l2 y2 z2 st2 hQ2
  subst l2 y2 z2
  obtain ⟨rfl, N2q, heq2⟩ := hQ2
  have N2 := Fr.app N1 N2q
  refine own_by (S' := T2.setTop (mkF m 9 #[.val (.int (0 : Int32)), .val (.int n), .val (.ref b)] [(.int (0 : Int32))])) (fun tZ kZ => st2 _ kZ) ?_
  refine own_by (S' := T2.setTop (mkF m 10 #[.val (.int (0 : Int32)), .val (.int n), .val (.ref b)] [])) (fun tZ kZ => XS.pop X2.here hx rfl (hb hby d42_9) rfl rfl kZ) ?_
  exact own_ret0 X2 hx Bd.returns (hb hby d42_10) Bd.notSynchronized (by decide) (by decide) ⟨rfl, N2, heq2⟩
theorem d41_0 : decode jdk_52_method_22_code 0 = .ok (.iload_n 1, 1) := by decide +kernel
theorem d41_1 : decode jdk_52_method_22_code 1 = .ok (.iload 4, 2) := by decide +kernel
theorem d41_3 : decode jdk_52_method_22_code 3 = .ok (.aload_n 0, 1) := by decide +kernel
theorem d41_4 : decode jdk_52_method_22_code 4 = .ok (.invokestatic 173, 3) := by decide +kernel
theorem d41_7 : decode jdk_52_method_22_code 7 = .ok (.iconst 0, 1) := by decide +kernel
theorem d41_8 : decode jdk_52_method_22_code 8 = .ok (.istore 5, 2) := by decide +kernel
theorem d41_10 : decode jdk_52_method_22_code 10 = .ok (.iload 5, 2) := by decide +kernel
theorem d41_12 : decode jdk_52_method_22_code 12 = .ok (.iload 4, 2) := by decide +kernel
theorem d41_14 : decode jdk_52_method_22_code 14 = .ok (.if_icmp .ge 39, 3) := by decide +kernel
theorem d41_17 : decode jdk_52_method_22_code 17 = .ok (.aload_n 0, 1) := by decide +kernel
theorem d41_18 : decode jdk_52_method_22_code 18 = .ok (.iload_n 1, 1) := by decide +kernel
theorem d41_19 : decode jdk_52_method_22_code 19 = .ok (.invokestatic 71, 3) := by decide +kernel
theorem d41_22 : decode jdk_52_method_22_code 22 = .ok (.istore 6, 2) := by decide +kernel
theorem d41_24 : decode jdk_52_method_22_code 24 = .ok (.iload 6, 2) := by decide +kernel
theorem d41_26 : decode jdk_52_method_22_code 26 = .ok (.sipush 255, 3) := by decide +kernel
theorem d41_29 : decode jdk_52_method_22_code 29 = .ok (.if_icmp .le 6, 3) := by decide +kernel
theorem d41_32 : decode jdk_52_method_22_code 32 = .ok (.iload 5, 2) := by decide +kernel
theorem d41_34 : decode jdk_52_method_22_code 34 = .ok (.ireturn, 1) := by decide +kernel
theorem d41_35 : decode jdk_52_method_22_code 35 = .ok (.aload_n 2, 1) := by decide +kernel
theorem d41_36 : decode jdk_52_method_22_code 36 = .ok (.iload_n 3, 1) := by decide +kernel
theorem d41_37 : decode jdk_52_method_22_code 37 = .ok (.iload 6, 2) := by decide +kernel
theorem d41_39 : decode jdk_52_method_22_code 39 = .ok (.i2b, 1) := by decide +kernel
theorem d41_40 : decode jdk_52_method_22_code 40 = .ok (.bastore, 1) := by decide +kernel
theorem d41_41 : decode jdk_52_method_22_code 41 = .ok (.iinc 1 1, 3) := by decide +kernel
theorem d41_44 : decode jdk_52_method_22_code 44 = .ok (.iinc 3 1, 3) := by decide +kernel
theorem d41_47 : decode jdk_52_method_22_code 47 = .ok (.iinc 5 1, 3) := by decide +kernel
theorem d41_50 : decode jdk_52_method_22_code 50 = .ok (.goto (-40), 3) := by decide +kernel
theorem d41_53 : decode jdk_52_method_22_code 53 = .ok (.iload 4, 2) := by decide +kernel
theorem d41_55 : decode jdk_52_method_22_code 55 = .ok (.ireturn, 1) := by decide +kernel
theorem ef_rmC5B (m : MethodId) (src : Addr) (d : Addr) (n : Int32) : entryFrame m #[(.ref src), (.int (0 : Int32)), (.ref d), (.int (0 : Int32)), (.int n)] 7 = mkF m 0 #[.val (.ref src), .val (.int (0 : Int32)), .val (.ref d), .val (.int (0 : Int32)), .val (.int n), .unset, .unset] [] := by first | (simp [entryFrame, mkF, argsToLocals, Value.category, maxLocals]; done) | rfl
set_option maxRecDepth 65536 in
set_option maxHeartbeats 40000000 in
theorem rmC5B (l : Launch) (Z : State) (a0 : Array Value) (hw : ∀ d ∈ tables_1, d.before a0 Z = true) (ws : List Jvm.Cond) (src d : Addr) (ks kd : ClassId) (us : List Int32) (E : Nat) (z : Int32) (n : Int32) (ws_ : List Value) (cz : Int32) (fm : Value) (h0 : Heap) (n0 : Nat) (Z0 : n0 ≤ h0.size) (V_src : OwnA Z h0 src ks .byte (bU us)) (hz : z.toInt = us.length) (hn : n.toInt = E) (hE : E ≤ us.length) (hl : us.length ≤ 4) (hus : ∀ q ∈ us, CU q) (V_d : OwnA Z h0 d kd .byte ws_) (hlw : ws_.length = E) (n_sd : src ≠ d) (g_d : n0 ≤ d) (W : OwnW Z h0 cz fm) :
    MetFree l (⟨"java/lang/StringUTF16", "compress", "([BI[BII)I"⟩ : MethodName) (head1 (Jvm.Cond.code (⟨"java/lang/StringUTF16", "compress", "([BI[BII)I"⟩ : MethodName) jdk_52_method_22_code (7 : Nat) (Option.some Jvm.ClassFile.FieldType.int) :: ws) ({ frames := 3, cells := 0, slots := 0, locals := 43 } : Room)) (fun aZ UZ => aZ = #[(.ref src), (.int (0 : Int32)), (.ref d), (.int (0 : Int32)), (.int n)] ∧ Z.Warmed39 UZ.vm ∧ UZ.heap = h0) (fun _ _ _ _ _ => True) (fun _ UZ oZ VZ => ∃ vZ LZ, oZ = .returned vZ ∧ (QC5 Z d kd us E h0 n0) vZ VZ.heap LZ ∧ FrameEnd UZ oZ VZ LZ ({ frames := 3, cells := 0, slots := 0, locals := 43 } : Room).cells ({ frames := 3, cells := 0, slots := 0, locals := 43 } : Room).slots) := by
  refine MetFree.of_bodySF (plainFor_of_name pn_3) hisR ?_
  intro p e s m args below meth c s₁ Bd hml0 hP hK
  obtain ⟨rfl, hZ, hh⟩ := hP
  have hx := Bd.exec
  have hby := Bd.bytes
  have hml : c.maxLocals = 7 := hml0
  have hown : s.vm.findClass "java/lang/StringUTF16" = some m.cls := findClass_of_methodNamed Bd.named
  have hnm := (name_of_methodNamed Bd.named Bd.method).1
  have X0 : Stand p l e ({ frames := 3, cells := 0, slots := 0, locals := 43 } : Room) s m #[(.ref src), (.int (0 : Int32)), (.ref d), (.int (0 : Int32)), (.int n)] below meth c s₁ [] 0 0 := Stand.of_body Bd
  have e0 : s₁.heap = h0 := by rw [← hh, Bd.state]; rfl
  have N0 := Fr.nil n0
  show OwnG p e below (OwnE s (QC5 Z d kd us E h0 n0) ({ frames := 3, cells := 0, slots := 0, locals := 43 } : Room).cells ({ frames := 3, cells := 0, slots := 0, locals := 43 } : Room).slots) _
  refine own_by (S' := s₁.setTop (mkF m 0 #[.val (.ref src), .val (.int (0 : Int32)), .val (.ref d), .val (.int (0 : Int32)), .val (.int n), .unset, .unset] [])) (fun tZ kZ => castTop (ef_rmC5B m src d n) kZ) ?_
  refine own_by (S' := s₁.setTop (mkF m 1 #[.val (.ref src), .val (.int (0 : Int32)), .val (.ref d), .val (.int (0 : Int32)), .val (.int n), .unset, .unset] [(.int (0 : Int32))])) (fun tZ kZ => XS.iloadN X0.here hx rfl (hb hby d41_0) rfl kZ) ?_
  refine own_by (S' := s₁.setTop (mkF m 3 #[.val (.ref src), .val (.int (0 : Int32)), .val (.ref d), .val (.int (0 : Int32)), .val (.int n), .unset, .unset] [(.int n), (.int (0 : Int32))])) (fun tZ kZ => XS.iload X0.here hx rfl (hb hby d41_1) rfl kZ) ?_
  refine own_by (S' := s₁.setTop (mkF m 4 #[.val (.ref src), .val (.int (0 : Int32)), .val (.ref d), .val (.int (0 : Int32)), .val (.int n), .unset, .unset] [(.ref src), (.int n), (.int (0 : Int32))])) (fun tZ kZ => XS.aloadN X0.here hx rfl (hb hby d41_3) rfl rfl kZ) ?_
  obtain ⟨_, _, ⟨T1, L1, k1, n1⟩, -, X1, ⟨Lc1, hQ1, l1, y1, z1⟩, st1⟩ := Jvm.LawKit.callS X0 hx (y := (⟨"java/lang/StringUTF16", "checkBoundsOffCount", "(II[B)V"⟩ : MethodName)) hown (mvT hZ (hw_ hw 193 rfl)) (mvT hZ (hw_ hw 194 rfl)) (mvT hZ (hw_ hw 70 rfl)) (mvT hZ (hw_ hw 195 rfl)) (by decide) (backOf (W := 0) (rmUBO l Z a0 hw [] src ks us n z cz fm h0 n0 Z0 V_src hl hz (own_pfs hz hn hE).1 (own_pfs hz hn hE).2 W) hZ (hw_ hw 195 rfl) (hw_ hw 70 rfl) (by decide) (by decide)) (g := (mkF m 4 #[.val (.ref src), .val (.int (0 : Int32)), .val (.ref d), .val (.int (0 : Int32)), .val (.int n), .unset, .unset] [(.ref src), (.int n), (.int (0 : Int32))])) rfl (by rw [hml]; rfl) (argsL := [(.int (0 : Int32)), (.int n), (.ref src)]) (rest := []) (lenOf pd_18 rfl) rfl (by show 2 * 0 + _ ≤ _; exact Nat.le_of_eq rfl) (hb hby d41_4) (fun _ _ => ⟨rfl, e0, (by decide : 0 + 0 ≤ _), (by decide : 0 + 0 ≤ _)⟩)
  dsimp only [Pt.U, Pt.locs, Pt.cells, Pt.slots] at X1 l1 y1 z1 st1 hQ1
  subst l1 y1 z1
  obtain ⟨rfl, N1q, heq1⟩ := hQ1
  have N1 := Fr.app N0 N1q
  refine own_by (S' := T1.setTop (mkF m 7 #[.val (.ref src), .val (.int (0 : Int32)), .val (.ref d), .val (.int (0 : Int32)), .val (.int n), .unset, .unset] [])) (fun tZ kZ => st1 _ kZ) ?_
  refine own_by (S' := T1.setTop (mkF m 8 #[.val (.ref src), .val (.int (0 : Int32)), .val (.ref d), .val (.int (0 : Int32)), .val (.int n), .unset, .unset] [(.int (0 : Int32))])) (fun tZ kZ => XS.iconst X1.here hx rfl (hb hby d41_7) kZ) ?_
  refine own_by (S' := T1.setTop (mkF m 10 #[.val (.ref src), .val (.int (0 : Int32)), .val (.ref d), .val (.int (0 : Int32)), .val (.int n), .val (.int (0 : Int32)), .unset] [])) (fun tZ kZ => XS.istore X1.here hx rfl (hb hby d41_8) rfl (l' := #[.val (.ref src), .val (.int (0 : Int32)), .val (.ref d), .val (.int (0 : Int32)), .val (.int n), .val (.int (0 : Int32)), .unset]) rfl kZ) ?_
  have J3 : ∀ (f : Nat) (Tj2 : State) (Lj2 : List Loc) (hj2 : Heap) (j : Nat) (vi : Int32) (s6 : Slot) (rs : List Value) (Xj2 : Stand p l e ({ frames := 3, cells := 0, slots := 0, locals := 43 } : Room) s m #[(.ref src), (.int (0 : Int32)), (.ref d), (.int (0 : Int32)), (.int n)] below meth c Tj2 Lj2 0 0) (ej2 : Tj2.heap = hj2) (Nj2 : Fr n0 Lj2) (Kj2 : Keep h0 hj2 [d]) (hf : E - j = f) (hvi : vi.toInt = j) (hj : j ≤ E) (V_dj : OwnA Z hj2 d kd .byte (bL (us.take j) ++ rs)) (hrs : rs.length = E - j) (hal : ∀ q ∈ us.take j, q.toInt ≤ 255) (hs6 : One s6), OwnG p e below (OwnE s (QC5 Z d kd us E h0 n0) ({ frames := 3, cells := 0, slots := 0, locals := 43 } : Room).cells ({ frames := 3, cells := 0, slots := 0, locals := 43 } : Room).slots) (Tj2.setTop (mkF m 10 #[.val (.ref src), .val (.int vi), .val (.ref d), .val (.int vi), .val (.int n), .val (.int vi), s6] [])) := by
    intro f
    induction f using Nat.strongRecOn with
    | ind f ih =>
      intro Tj2 Lj2 hj2 j vi s6 rs Xj2 ej2 Nj2 Kj2 hf hvi hj V_dj hrs hal hs6
      have V_sj := V_src.keep Kj2 (fun q => n_sd (List.mem_singleton.mp q))
      have Wj := W.keep Kj2 V_d
      refine own_by (S' := Tj2.setTop (mkF m 12 #[.val (.ref src), .val (.int vi), .val (.ref d), .val (.int vi), .val (.int n), .val (.int vi), s6] [(.int vi)])) (fun tZ kZ => XS.iload Xj2.here hx rfl (hb hby d41_10) rfl kZ) ?_
      refine own_by (S' := Tj2.setTop (mkF m 14 #[.val (.ref src), .val (.int vi), .val (.ref d), .val (.int vi), .val (.int n), .val (.int vi), s6] [(.int n), (.int vi)])) (fun tZ kZ => XS.iload Xj2.here hx rfl (hb hby d41_12) rfl kZ) ?_
      by_cases dg1 : vi < n
      · refine own_by (S' := Tj2.setTop (mkF m 17 #[.val (.ref src), .val (.int vi), .val (.ref d), .val (.int vi), .val (.int n), .val (.int vi), s6] [])) (fun tZ kZ => XS.icmpNo Xj2.here hx rfl (hb hby d41_14) rfl (tlt dg1).2.1 kZ) ?_
        have hjn := (own_lt hvi hn).mp dg1
        obtain ⟨u, hu, hum⟩ := own_getq (us := us) (k := j) (by omega)
        refine own_by (S' := Tj2.setTop (mkF m 18 #[.val (.ref src), .val (.int vi), .val (.ref d), .val (.int vi), .val (.int n), .val (.int vi), s6] [(.ref src)])) (fun tZ kZ => XS.aloadN Xj2.here hx rfl (hb hby d41_17) rfl rfl kZ) ?_
        refine own_by (S' := Tj2.setTop (mkF m 19 #[.val (.ref src), .val (.int vi), .val (.ref d), .val (.int vi), .val (.int n), .val (.int vi), s6] [(.int vi), (.ref src)])) (fun tZ kZ => XS.iloadN Xj2.here hx rfl (hb hby d41_18) rfl kZ) ?_
        obtain ⟨_, _, ⟨T3, L3, k3, n3⟩, -, X3, ⟨Lc3, hQ3, l3, y3, z3⟩, st3⟩ := Jvm.LawKit.callS Xj2 hx (y := (⟨"java/lang/StringUTF16", "getChar", "([BI)C"⟩ : MethodName)) hown (mvT hZ (hw_ hw 91 rfl)) (mvT hZ (hw_ hw 92 rfl)) (mvT hZ (hw_ hw 70 rfl)) (mvT hZ (hw_ hw 93 rfl)) (by decide) (backOf (W := 0) (rmGet l Z a0 hw [] src ks us vi j u cz fm hj2 n0 (Nat.le_trans Z0 Kj2.1) V_sj hl hvi hu (hus _ hum) Wj) hZ (hw_ hw 93 rfl) (hw_ hw 70 rfl) (by decide) (by decide)) (g := (mkF m 19 #[.val (.ref src), .val (.int vi), .val (.ref d), .val (.int vi), .val (.int n), .val (.int vi), s6] [(.int vi), (.ref src)])) rfl (by rw [hml]; rfl) (argsL := [(.ref src), (.int vi)]) (rest := []) (lenOf pd_6 rfl) rfl (by show 2 * 0 + _ ≤ _; exact Nat.le_of_eq rfl) (hb hby d41_19) (fun _ _ => ⟨rfl, ej2, (by decide : 0 + 0 ≤ _), (by decide : 0 + 0 ≤ _)⟩)
        dsimp only [Pt.U, Pt.locs, Pt.cells, Pt.slots] at X3 l3 y3 z3 st3 hQ3
        subst l3 y3 z3
        obtain ⟨rfl, N3q, heq3⟩ := hQ3
        have N3 := Fr.app Nj2 N3q
        refine own_by (S' := T3.setTop (mkF m 22 #[.val (.ref src), .val (.int vi), .val (.ref d), .val (.int vi), .val (.int n), .val (.int vi), s6] [(.int u)])) (fun tZ kZ => st3 _ kZ) ?_
        refine own_by (S' := T3.setTop (mkF m 24 #[.val (.ref src), .val (.int vi), .val (.ref d), .val (.int vi), .val (.int n), .val (.int vi), .val (.int u)] [])) (fun tZ kZ => XS.istore X3.here hx rfl (hb hby d41_22) rfl (l' := #[.val (.ref src), .val (.int vi), .val (.ref d), .val (.int vi), .val (.int n), .val (.int vi), .val (.int u)]) (own_os6 hs6) kZ) ?_
        refine own_by (S' := T3.setTop (mkF m 26 #[.val (.ref src), .val (.int vi), .val (.ref d), .val (.int vi), .val (.int n), .val (.int vi), .val (.int u)] [(.int u)])) (fun tZ kZ => XS.iload X3.here hx rfl (hb hby d41_24) rfl kZ) ?_
        refine own_by (S' := T3.setTop (mkF m 29 #[.val (.ref src), .val (.int vi), .val (.ref d), .val (.int vi), .val (.int n), .val (.int vi), .val (.int u)] [(.int (255 : Int32)), (.int u)])) (fun tZ kZ => XS.sipush X3.here hx rfl (hb hby d41_26) kZ) ?_
        by_cases dg2 : (255 : Int32) < u
        · refine own_by (S' := T3.setTop (mkF m 32 #[.val (.ref src), .val (.int vi), .val (.ref d), .val (.int vi), .val (.int n), .val (.int vi), .val (.int u)] [])) (fun tZ kZ => XS.icmpNo X3.here hx rfl (hb hby d41_29) rfl (tlt dg2).2.2.2 kZ) ?_
          refine own_by (S' := T3.setTop (mkF m 34 #[.val (.ref src), .val (.int vi), .val (.ref d), .val (.int vi), .val (.int n), .val (.int vi), .val (.int u)] [(.int vi)])) (fun tZ kZ => XS.iload X3.here hx rfl (hb hby d41_32) rfl kZ) ?_
          exact own_retI X3 hx (t := .int) Bd.returns (by simp) rfl (hb hby d41_34) Bd.notSynchronized (by decide) (by decide) (show QC5 Z d kd us E h0 n0 _ T3.heap _ from by rw [heq3]; exact ⟨_, j, rfl, N3, Kj2, hvi, _, V_dj, Or.inr ⟨hjn, u, hu, own_big.mpr dg2⟩⟩)
        · refine own_by (S' := T3.setTop (mkF m 35 #[.val (.ref src), .val (.int vi), .val (.ref d), .val (.int vi), .val (.int n), .val (.int vi), .val (.int u)] [])) (fun tZ kZ => XS.icmpYes X3.here hx rfl (pc0 := 29) (pc' := 35) rfl (hb hby d41_29) rfl (flt dg2).2.2.2 (by decide) (by decide) kZ) ?_
          refine own_by (S' := T3.setTop (mkF m 36 #[.val (.ref src), .val (.int vi), .val (.ref d), .val (.int vi), .val (.int n), .val (.int vi), .val (.int u)] [(.ref d)])) (fun tZ kZ => XS.aloadN X3.here hx rfl (hb hby d41_35) rfl rfl kZ) ?_
          refine own_by (S' := T3.setTop (mkF m 37 #[.val (.ref src), .val (.int vi), .val (.ref d), .val (.int vi), .val (.int n), .val (.int vi), .val (.int u)] [(.int vi), (.ref d)])) (fun tZ kZ => XS.iloadN X3.here hx rfl (hb hby d41_36) rfl kZ) ?_
          refine own_by (S' := T3.setTop (mkF m 39 #[.val (.ref src), .val (.int vi), .val (.ref d), .val (.int vi), .val (.int n), .val (.int vi), .val (.int u)] [(.int u), (.int vi), (.ref d)])) (fun tZ kZ => XS.iload X3.here hx rfl (hb hby d41_37) rfl kZ) ?_
          refine own_by (S' := T3.setTop (mkF m 40 #[.val (.ref src), .val (.int vi), .val (.ref d), .val (.int vi), .val (.int n), .val (.int vi), .val (.int u)] [(.int (u.toInt8.toInt32)), (.int vi), (.ref d)])) (fun tZ kZ => XS.i2b X3.here hx rfl (hb hby d41_39) rfl kZ) ?_
          obtain ⟨cc4, Ar4, hc4, hl4⟩ := id V_dj
          have hin4 := OwnA.inb (j := vi) hl4 (own_nneg hvi) (by rw [own_tnc hvi, List.length_append, bL_len, List.length_take, hrs]; omega)
          obtain ⟨T4, h4, X4, e4, W4, st4⟩ := stB X3 hx hZ heq3 Ar4 (j := vi) hin4 (g := (mkF m 40 #[.val (.ref src), .val (.int vi), .val (.ref d), .val (.int vi), .val (.int n), .val (.int vi), .val (.int u)] [(.int (u.toInt8.toInt32)), (.int vi), (.ref d)])) rfl rfl (hb hby d41_40)
          have N4 := Fr.snoc X4 N3 g_d
          have V_src_4 := V_sj.other W4 n_sd
          have Zs4 : n0 ≤ h4.size := Nat.le_trans (Nat.le_trans Z0 Kj2.1) (Keep.of_wr W4).1
          have K4 := Kj2.wr W4 (Or.inl (List.mem_of_getElem? (i := 0) rfl))
          have V_d_w4 := V_dj.set W4
          refine own_by (S' := T4.setTop (mkF m 41 #[.val (.ref src), .val (.int vi), .val (.ref d), .val (.int vi), .val (.int n), .val (.int vi), .val (.int u)] [])) st4 ?_
          obtain ⟨rs', hr1, hr2⟩ := own_fillL (E := E) hu hrs hjn
          have V_d2 : OwnA Z h4 d kd .byte (bL (us.take (j + 1)) ++ rs') := by
            rw [← hr2]
            have q := V_d_w4
            rw [own_tnc hvi] at q
            exact q
          refine own_by (S' := T4.setTop (mkF m 44 #[.val (.ref src), .val (.int (vi + (1 : Int32))), .val (.ref d), .val (.int vi), .val (.int n), .val (.int vi), .val (.int u)] [])) (fun tZ kZ => XS.iinc X4.here hx rfl (hb hby d41_41) rfl (l' := #[.val (.ref src), .val (.int (vi + (1 : Int32))), .val (.ref d), .val (.int vi), .val (.int n), .val (.int vi), .val (.int u)]) rfl kZ) ?_
          refine own_by (S' := T4.setTop (mkF m 47 #[.val (.ref src), .val (.int (vi + (1 : Int32))), .val (.ref d), .val (.int (vi + (1 : Int32))), .val (.int n), .val (.int vi), .val (.int u)] [])) (fun tZ kZ => XS.iinc X4.here hx rfl (hb hby d41_44) rfl (l' := #[.val (.ref src), .val (.int (vi + (1 : Int32))), .val (.ref d), .val (.int (vi + (1 : Int32))), .val (.int n), .val (.int vi), .val (.int u)]) rfl kZ) ?_
          refine own_by (S' := T4.setTop (mkF m 50 #[.val (.ref src), .val (.int (vi + (1 : Int32))), .val (.ref d), .val (.int (vi + (1 : Int32))), .val (.int n), .val (.int (vi + (1 : Int32))), .val (.int u)] [])) (fun tZ kZ => XS.iinc X4.here hx rfl (hb hby d41_47) rfl (l' := #[.val (.ref src), .val (.int (vi + (1 : Int32))), .val (.ref d), .val (.int (vi + (1 : Int32))), .val (.int n), .val (.int (vi + (1 : Int32))), .val (.int u)]) rfl kZ) ?_
          refine own_by (S' := T4.setTop (mkF m 10 #[.val (.ref src), .val (.int (vi + (1 : Int32))), .val (.ref d), .val (.int (vi + (1 : Int32))), .val (.int n), .val (.int (vi + (1 : Int32))), .val (.int u)] [])) (fun tZ kZ => XS.goto X4.here hx rfl (pc0 := 50) (pc' := 10) rfl (hb hby d41_50) (by decide) (by decide) kZ) ?_
          exact ih (E - (j + 1)) (by omega) _ _ _ (j + 1) _ _ rs' X4 e4 N4 K4 rfl (own_inc hvi (by omega)) (by omega) V_d2 hr1 (own_all hu hal dg2) (One.val rfl)
      · refine own_by (S' := Tj2.setTop (mkF m 53 #[.val (.ref src), .val (.int vi), .val (.ref d), .val (.int vi), .val (.int n), .val (.int vi), s6] [])) (fun tZ kZ => XS.icmpYes Xj2.here hx rfl (pc0 := 14) (pc' := 53) rfl (hb hby d41_14) rfl (flt dg1).2.1 (by decide) (by decide) kZ) ?_
        have hjE : j = E := by rw [own_lt hvi hn] at dg1; omega
        have hr0 : rs = [] := List.length_eq_zero_iff.mp (by omega)
        refine own_by (S' := Tj2.setTop (mkF m 55 #[.val (.ref src), .val (.int vi), .val (.ref d), .val (.int vi), .val (.int n), .val (.int vi), s6] [(.int n)])) (fun tZ kZ => XS.iload Xj2.here hx rfl (hb hby d41_53) rfl kZ) ?_
        exact own_retI Xj2 hx (t := .int) Bd.returns (by simp) rfl (hb hby d41_55) Bd.notSynchronized (by decide) (by decide) (show QC5 Z d kd us E h0 n0 _ Tj2.heap _ from by rw [ej2]; exact ⟨_, E, rfl, Nj2, Kj2, hn, _, V_dj, Or.inl ⟨rfl, by rw [hr0, List.append_nil, hjE], by rw [hjE] at hal; exact hal⟩⟩)
  exact J3 E _ _ _ 0 0 .unset ws_ X1 heq1 N1 (Keep.refl h0 [d]) (Nat.sub_zero _) rfl (Nat.zero_le _) V_d hlw (fun q hq => absurd hq (by simp)) One.u
theorem d48_0 : decode jdk_29_method_69_code 0 = .ok (.iload_n 0, 1) := by decide +kernel
theorem d48_1 : decode jdk_29_method_69_code 1 = .ok (.iload_n 1, 1) := by decide +kernel
theorem d48_2 : decode jdk_29_method_69_code 2 = .ok (.if_icmp .gt 7, 3) := by decide +kernel
theorem d48_5 : decode jdk_29_method_69_code 5 = .ok (.iload_n 0, 1) := by decide +kernel
theorem d48_6 : decode jdk_29_method_69_code 6 = .ok (.goto 4, 3) := by decide +kernel
theorem d48_9 : decode jdk_29_method_69_code 9 = .ok (.iload_n 1, 1) := by decide +kernel
theorem d48_10 : decode jdk_29_method_69_code 10 = .ok (.ireturn, 1) := by decide +kernel
theorem ef_rmMn (m : MethodId) (a : Int32) (b : Int32) : entryFrame m #[(.int a), (.int b)] 2 = mkF m 0 #[.val (.int a), .val (.int b)] [] := by first | (simp [entryFrame, mkF, argsToLocals, Value.category, maxLocals]; done) | rfl
set_option maxRecDepth 65536 in
set_option maxHeartbeats 40000000 in
theorem rmMn (l : Launch) (Z : State) (a0 : Array Value) (hw : ∀ d ∈ tables_1, d.before a0 Z = true) (ws : List Jvm.Cond) (a b : Int32) (h0 : Heap) (n0 : Nat) (Z0 : n0 ≤ h0.size) :
    MetFree l (⟨"java/lang/Math", "min", "(II)I"⟩ : MethodName) (head1 (Jvm.Cond.code (⟨"java/lang/Math", "min", "(II)I"⟩ : MethodName) jdk_29_method_69_code (2 : Nat) (Option.some Jvm.ClassFile.FieldType.int) :: ws) ({ frames := 0, cells := 0, slots := 0, locals := 0 } : Room)) (fun aZ UZ => aZ = #[(.int a), (.int b)] ∧ Z.Warmed39 UZ.vm ∧ UZ.heap = h0) (fun _ _ _ _ _ => True) (fun _ UZ oZ VZ => ∃ vZ LZ, oZ = .returned vZ ∧ (QSame (some (.int (if b < a then b else a))) h0 n0) vZ VZ.heap LZ ∧ FrameEnd UZ oZ VZ LZ ({ frames := 0, cells := 0, slots := 0, locals := 0 } : Room).cells ({ frames := 0, cells := 0, slots := 0, locals := 0 } : Room).slots) := by
  refine MetFree.of_bodySF (Jvm.Free.JP.mathPlain rfl (by decide +kernel)) hisR ?_
  intro p e s m args below meth c s₁ Bd hml0 hP hK
  obtain ⟨rfl, hZ, hh⟩ := hP
  have hx := Bd.exec
  have hby := Bd.bytes
  have hml : c.maxLocals = 2 := hml0
  have hown : s.vm.findClass "java/lang/Math" = some m.cls := findClass_of_methodNamed Bd.named
  have hnm := (name_of_methodNamed Bd.named Bd.method).1
  have X0 : Stand p l e ({ frames := 0, cells := 0, slots := 0, locals := 0 } : Room) s m #[(.int a), (.int b)] below meth c s₁ [] 0 0 := Stand.of_body Bd
  have e0 : s₁.heap = h0 := by rw [← hh, Bd.state]; rfl
  have N0 := Fr.nil n0
  show OwnG p e below (OwnE s (QSame (some (.int (if b < a then b else a))) h0 n0) ({ frames := 0, cells := 0, slots := 0, locals := 0 } : Room).cells ({ frames := 0, cells := 0, slots := 0, locals := 0 } : Room).slots) _
  refine own_by (S' := s₁.setTop (mkF m 0 #[.val (.int a), .val (.int b)] [])) (fun tZ kZ => castTop (ef_rmMn m a b) kZ) ?_
  refine own_by (S' := s₁.setTop (mkF m 1 #[.val (.int a), .val (.int b)] [(.int a)])) (fun tZ kZ => XS.iloadN X0.here hx rfl (hb hby d48_0) rfl kZ) ?_
  refine own_by (S' := s₁.setTop (mkF m 2 #[.val (.int a), .val (.int b)] [(.int b), (.int a)])) (fun tZ kZ => XS.iloadN X0.here hx rfl (hb hby d48_1) rfl kZ) ?_
  by_cases hc : b < a
  · refine own_by (S' := s₁.setTop (mkF m 9 #[.val (.int a), .val (.int b)] [])) (fun tZ kZ => XS.icmpYes X0.here hx rfl (pc0 := 2) (pc' := 9) rfl (hb hby d48_2) rfl (tlt hc).2.2.1 (by decide) (by decide) kZ) ?_
    refine own_by (S' := s₁.setTop (mkF m 10 #[.val (.int a), .val (.int b)] [(.int b)])) (fun tZ kZ => XS.iloadN X0.here hx rfl (hb hby d48_9) rfl kZ) ?_
    exact own_retI X0 hx (t := .int) Bd.returns (by simp) rfl (hb hby d48_10) Bd.notSynchronized (by decide) (by decide) ⟨by rw [if_pos hc], N0, e0⟩
  · refine own_by (S' := s₁.setTop (mkF m 5 #[.val (.int a), .val (.int b)] [])) (fun tZ kZ => XS.icmpNo X0.here hx rfl (hb hby d48_2) rfl (flt hc).2.2.1 kZ) ?_
    refine own_by (S' := s₁.setTop (mkF m 6 #[.val (.int a), .val (.int b)] [(.int a)])) (fun tZ kZ => XS.iloadN X0.here hx rfl (hb hby d48_5) rfl kZ) ?_
    refine own_by (S' := s₁.setTop (mkF m 10 #[.val (.int a), .val (.int b)] [(.int a)])) (fun tZ kZ => XS.goto X0.here hx rfl (pc0 := 6) (pc' := 10) rfl (hb hby d48_6) (by decide) (by decide) kZ) ?_
    exact own_retI X0 hx (t := .int) Bd.returns (by simp) rfl (hb hby d48_10) Bd.notSynchronized (by decide) (by decide) ⟨by rw [if_neg hc], N0, e0⟩
theorem d47_0 : decode jdk_65_method_131_code 0 = .ok (.iload_n 1, 1) := by decide +kernel
theorem d47_1 : decode jdk_65_method_131_code 1 = .ok (.iload_n 0, 1) := by decide +kernel
theorem d47_2 : decode jdk_65_method_131_code 2 = .ok (.if_icmp .ge 35, 3) := by decide +kernel
theorem d47_5 : decode jdk_65_method_131_code 5 = .ok (.new 43, 3) := by decide +kernel
theorem d47_8 : decode jdk_65_method_131_code 8 = .ok (.dup, 1) := by decide +kernel
theorem d47_9 : decode jdk_65_method_131_code 9 = .ok (.new 45, 3) := by decide +kernel
theorem d47_12 : decode jdk_65_method_131_code 12 = .ok (.dup, 1) := by decide +kernel
theorem d47_13 : decode jdk_65_method_131_code 13 = .ok (.invokespecial 47, 3) := by decide +kernel
theorem d47_16 : decode jdk_65_method_131_code 16 = .ok (.iload_n 0, 1) := by decide +kernel
theorem d47_17 : decode jdk_65_method_131_code 17 = .ok (.invokevirtual 54, 3) := by decide +kernel
theorem d47_20 : decode jdk_65_method_131_code 20 = .ok (.ldc_w 337, 3) := by decide +kernel
theorem d47_23 : decode jdk_65_method_131_code 23 = .ok (.invokevirtual 50, 3) := by decide +kernel
theorem d47_26 : decode jdk_65_method_131_code 26 = .ok (.iload_n 1, 1) := by decide +kernel
theorem d47_27 : decode jdk_65_method_131_code 27 = .ok (.invokevirtual 54, 3) := by decide +kernel
theorem d47_30 : decode jdk_65_method_131_code 30 = .ok (.invokevirtual 61, 3) := by decide +kernel
theorem d47_33 : decode jdk_65_method_131_code 33 = .ok (.invokespecial 65, 3) := by decide +kernel
theorem d47_36 : decode jdk_65_method_131_code 36 = .ok (.athrow, 1) := by decide +kernel
theorem d47_37 : decode jdk_65_method_131_code 37 = .ok (.return_, 1) := by decide +kernel
theorem pn_7 : plainName "java/util/Arrays" = true := by first | (simp [plainName, overriddenIn]; done) | decide +kernel
theorem ef_rmCl (m : MethodId) (n : Int32) : entryFrame m #[(.int (0 : Int32)), (.int n)] 2 = mkF m 0 #[.val (.int (0 : Int32)), .val (.int n)] [] := by first | (simp [entryFrame, mkF, argsToLocals, Value.category, maxLocals]; done) | rfl
set_option maxRecDepth 65536 in
set_option maxHeartbeats 40000000 in
theorem rmCl (l : Launch) (Z : State) (a0 : Array Value) (hw : ∀ d ∈ tables_1, d.before a0 Z = true) (ws : List Jvm.Cond) (n : Int32) (h0 : Heap) (n0 : Nat) (Z0 : n0 ≤ h0.size) (hn : ¬ n < 0) :
    MetFree l (⟨"java/util/Arrays", "checkLength", "(II)V"⟩ : MethodName) (head1 (Jvm.Cond.code (⟨"java/util/Arrays", "checkLength", "(II)V"⟩ : MethodName) jdk_65_method_131_code (2 : Nat) (Option.none : Option Jvm.ClassFile.FieldType) :: ws) ({ frames := 0, cells := 0, slots := 0, locals := 0 } : Room)) (fun aZ UZ => aZ = #[(.int (0 : Int32)), (.int n)] ∧ Z.Warmed39 UZ.vm ∧ UZ.heap = h0) (fun _ _ _ _ _ => True) (fun _ UZ oZ VZ => ∃ vZ LZ, oZ = .returned vZ ∧ (QSame none h0 n0) vZ VZ.heap LZ ∧ FrameEnd UZ oZ VZ LZ ({ frames := 0, cells := 0, slots := 0, locals := 0 } : Room).cells ({ frames := 0, cells := 0, slots := 0, locals := 0 } : Room).slots) := by
  refine MetFree.of_bodySF (plainFor_of_name pn_7) hisR ?_
  intro p e s m args below meth c s₁ Bd hml0 hP hK
  obtain ⟨rfl, hZ, hh⟩ := hP
  have hx := Bd.exec
  have hby := Bd.bytes
  have hml : c.maxLocals = 2 := hml0
  have hown : s.vm.findClass "java/util/Arrays" = some m.cls := findClass_of_methodNamed Bd.named
  have hnm := (name_of_methodNamed Bd.named Bd.method).1
  have X0 : Stand p l e ({ frames := 0, cells := 0, slots := 0, locals := 0 } : Room) s m #[(.int (0 : Int32)), (.int n)] below meth c s₁ [] 0 0 := Stand.of_body Bd
  have e0 : s₁.heap = h0 := by rw [← hh, Bd.state]; rfl
  have N0 := Fr.nil n0
  show OwnG p e below (OwnE s (QSame none h0 n0) ({ frames := 0, cells := 0, slots := 0, locals := 0 } : Room).cells ({ frames := 0, cells := 0, slots := 0, locals := 0 } : Room).slots) _
  refine own_by (S' := s₁.setTop (mkF m 0 #[.val (.int (0 : Int32)), .val (.int n)] [])) (fun tZ kZ => castTop (ef_rmCl m n) kZ) ?_
  refine own_by (S' := s₁.setTop (mkF m 1 #[.val (.int (0 : Int32)), .val (.int n)] [(.int n)])) (fun tZ kZ => XS.iloadN X0.here hx rfl (hb hby d47_0) rfl kZ) ?_
  refine own_by (S' := s₁.setTop (mkF m 2 #[.val (.int (0 : Int32)), .val (.int n)] [(.int (0 : Int32)), (.int n)])) (fun tZ kZ => XS.iloadN X0.here hx rfl (hb hby d47_1) rfl kZ) ?_
  refine own_by (S' := s₁.setTop (mkF m 37 #[.val (.int (0 : Int32)), .val (.int n)] [])) (fun tZ kZ => XS.icmpYes X0.here hx rfl (pc0 := 2) (pc' := 37) rfl (hb hby d47_2) rfl (flt hn).2.1 (by decide) (by decide) kZ) ?_
  exact own_ret0 X0 hx Bd.returns (hb hby d47_37) Bd.notSynchronized (by decide) (by decide) ⟨rfl, N0, e0⟩
theorem d46_0 : decode jdk_65_method_133_code 0 = .ok (.iload_n 1, 1) := by decide +kernel
theorem d46_1 : decode jdk_65_method_133_code 1 = .ok (.iload_n 2, 1) := by decide +kernel
theorem d46_2 : decode jdk_65_method_133_code 2 = .ok (.invokestatic 343, 3) := by decide +kernel
theorem d46_5 : decode jdk_65_method_133_code 5 = .ok (.iload_n 2, 1) := by decide +kernel
theorem d46_6 : decode jdk_65_method_133_code 6 = .ok (.iload_n 1, 1) := by decide +kernel
theorem d46_7 : decode jdk_65_method_133_code 7 = .ok (.isub, 1) := by decide +kernel
theorem d46_8 : decode jdk_65_method_133_code 8 = .ok (.istore_n 3, 1) := by decide +kernel
theorem d46_9 : decode jdk_65_method_133_code 9 = .ok (.iload_n 3, 1) := by decide +kernel
theorem d46_10 : decode jdk_65_method_133_code 10 = .ok (.newarray .byte, 2) := by decide +kernel
theorem d46_12 : decode jdk_65_method_133_code 12 = .ok (.astore 4, 2) := by decide +kernel
theorem d46_14 : decode jdk_65_method_133_code 14 = .ok (.aload_n 0, 1) := by decide +kernel
theorem d46_15 : decode jdk_65_method_133_code 15 = .ok (.iload_n 1, 1) := by decide +kernel
theorem d46_16 : decode jdk_65_method_133_code 16 = .ok (.aload 4, 2) := by decide +kernel
theorem d46_18 : decode jdk_65_method_133_code 18 = .ok (.iconst 0, 1) := by decide +kernel
theorem d46_19 : decode jdk_65_method_133_code 19 = .ok (.aload_n 0, 1) := by decide +kernel
theorem d46_20 : decode jdk_65_method_133_code 20 = .ok (.arraylength, 1) := by decide +kernel
theorem d46_21 : decode jdk_65_method_133_code 21 = .ok (.iload_n 1, 1) := by decide +kernel
theorem d46_22 : decode jdk_65_method_133_code 22 = .ok (.isub, 1) := by decide +kernel
theorem d46_23 : decode jdk_65_method_133_code 23 = .ok (.iload_n 3, 1) := by decide +kernel
theorem d46_24 : decode jdk_65_method_133_code 24 = .ok (.invokestatic 304, 3) := by decide +kernel
theorem d46_27 : decode jdk_65_method_133_code 27 = .ok (.invokestatic 150, 3) := by decide +kernel
theorem d46_30 : decode jdk_65_method_133_code 30 = .ok (.aload 4, 2) := by decide +kernel
theorem d46_32 : decode jdk_65_method_133_code 32 = .ok (.areturn, 1) := by decide +kernel
theorem ef_rmCb (m : MethodId) (v : Addr) (n : Int32) : entryFrame m #[(.ref v), (.int (0 : Int32)), (.int n)] 5 = mkF m 0 #[.val (.ref v), .val (.int (0 : Int32)), .val (.int n), .unset, .unset] [] := by first | (simp [entryFrame, mkF, argsToLocals, Value.category, maxLocals]; done) | rfl
set_option maxRecDepth 65536 in
set_option maxHeartbeats 40000000 in
theorem rmCb (l : Launch) (Z : State) (a0 : Array Value) (hw : ∀ d ∈ tables_1, d.before a0 Z = true) (ws : List Jvm.Cond) (v : Addr) (kv : ClassId) (vs : List Value) (n zl : Int32) (d : Nat) (h0 : Heap) (n0 : Nat) (Z0 : n0 ≤ h0.size) (V_v : OwnA Z h0 v kv .byte vs) (hfv : ∀ q ∈ vs, fits .byte q = true) (hnd : n.toInt = d) (hzl : zl.toInt = vs.length) (hd : d < vs.length) (hl8 : vs.length ≤ 8) :
    MetFree l (⟨"java/util/Arrays", "copyOfRangeByte", "([BII)[B"⟩ : MethodName) (head1 (Jvm.Cond.code (⟨"java/util/Arrays", "copyOfRangeByte", "([BII)[B"⟩ : MethodName) jdk_65_method_133_code (5 : Nat) (Option.some (Jvm.ClassFile.FieldType.array Jvm.ClassFile.FieldType.byte)) :: ws) ({ frames := 1, cells := 1, slots := 8, locals := 40 } : Room)) (fun aZ UZ => aZ = #[(.ref v), (.int (0 : Int32)), (.int n)] ∧ Z.Warmed39 UZ.vm ∧ UZ.heap = h0) (fun _ _ _ _ _ => True) (fun _ UZ oZ VZ => ∃ vZ LZ, oZ = .returned vZ ∧ (QArr Z (vs.take d) h0 n0) vZ VZ.heap LZ ∧ FrameEnd UZ oZ VZ LZ ({ frames := 1, cells := 1, slots := 8, locals := 40 } : Room).cells ({ frames := 1, cells := 1, slots := 8, locals := 40 } : Room).slots) := by
  refine MetFree.of_bodySF (plainFor_of_name pn_7) hisR ?_
  intro p e s m args below meth c s₁ Bd hml0 hP hK
  obtain ⟨rfl, hZ, hh⟩ := hP
  have hx := Bd.exec
  have hby := Bd.bytes
  have hml : c.maxLocals = 5 := hml0
  have hown : s.vm.findClass "java/util/Arrays" = some m.cls := findClass_of_methodNamed Bd.named
  have hnm := (name_of_methodNamed Bd.named Bd.method).1
  have X0 : Stand p l e ({ frames := 1, cells := 1, slots := 8, locals := 40 } : Room) s m #[(.ref v), (.int (0 : Int32)), (.int n)] below meth c s₁ [] 0 0 := Stand.of_body Bd
  have e0 : s₁.heap = h0 := by rw [← hh, Bd.state]; rfl
  have N0 := Fr.nil n0
  show OwnG p e below (OwnE s (QArr Z (vs.take d) h0 n0) ({ frames := 1, cells := 1, slots := 8, locals := 40 } : Room).cells ({ frames := 1, cells := 1, slots := 8, locals := 40 } : Room).slots) _
  refine own_by (S' := s₁.setTop (mkF m 0 #[.val (.ref v), .val (.int (0 : Int32)), .val (.int n), .unset, .unset] [])) (fun tZ kZ => castTop (ef_rmCb m v n) kZ) ?_
  refine own_by (S' := s₁.setTop (mkF m 1 #[.val (.ref v), .val (.int (0 : Int32)), .val (.int n), .unset, .unset] [(.int (0 : Int32))])) (fun tZ kZ => XS.iloadN X0.here hx rfl (hb hby d46_0) rfl kZ) ?_
  refine own_by (S' := s₁.setTop (mkF m 2 #[.val (.ref v), .val (.int (0 : Int32)), .val (.int n), .unset, .unset] [(.int n), (.int (0 : Int32))])) (fun tZ kZ => XS.iloadN X0.here hx rfl (hb hby d46_1) rfl kZ) ?_
  obtain ⟨_, _, ⟨T1, L1, k1, n1⟩, -, X1, ⟨Lc1, hQ1, l1, y1, z1⟩, st1⟩ := Jvm.LawKit.callS X0 hx (y := (⟨"java/util/Arrays", "checkLength", "(II)V"⟩ : MethodName)) hown (mvT hZ (hw_ hw 209 rfl)) (mvT hZ (hw_ hw 210 rfl)) (mvT hZ (hw_ hw 204 rfl)) (mvT hZ (hw_ hw 211 rfl)) (by decide) (backOf (W := 0) (rmCl l Z a0 hw [] n h0 n0 Z0 (own_nneg hnd)) hZ (hw_ hw 211 rfl) (hw_ hw 204 rfl) (by decide) (by decide)) (g := (mkF m 2 #[.val (.ref v), .val (.int (0 : Int32)), .val (.int n), .unset, .unset] [(.int n), (.int (0 : Int32))])) rfl (by rw [hml]; rfl) (argsL := [(.int (0 : Int32)), (.int n)]) (rest := []) (lenOf pd_4 rfl) rfl (by show 2 * 0 + _ ≤ _; exact Nat.le_of_eq rfl) (hb hby d46_2) (fun _ _ => ⟨rfl, e0, (by decide : 0 + 0 ≤ _), (by decide : 0 + 0 ≤ _)⟩)
  dsimp only [Pt.U, Pt.locs, Pt.cells, Pt.slots] at X1 l1 y1 z1 st1 hQ1
  subst l1 y1 z1
  obtain ⟨rfl, N1q, heq1⟩ := hQ1
  have N1 := Fr.app N0 N1q
  refine own_by (S' := T1.setTop (mkF m 5 #[.val (.ref v), .val (.int (0 : Int32)), .val (.int n), .unset, .unset] [])) (fun tZ kZ => st1 _ kZ) ?_
  refine own_by (S' := T1.setTop (mkF m 6 #[.val (.ref v), .val (.int (0 : Int32)), .val (.int n), .unset, .unset] [(.int n)])) (fun tZ kZ => XS.iloadN X1.here hx rfl (hb hby d46_5) rfl kZ) ?_
  refine own_by (S' := T1.setTop (mkF m 7 #[.val (.ref v), .val (.int (0 : Int32)), .val (.int n), .unset, .unset] [(.int (0 : Int32)), (.int n)])) (fun tZ kZ => XS.iloadN X1.here hx rfl (hb hby d46_6) rfl kZ) ?_
  refine own_by (S' := T1.setTop (mkF m 8 #[.val (.ref v), .val (.int (0 : Int32)), .val (.int n), .unset, .unset] [(.int (n - (0 : Int32)))])) (fun tZ kZ => XS.isub X1.here hx rfl (hb hby d46_7) rfl kZ) ?_
  rw [own_sub0]
  refine own_by (S' := T1.setTop (mkF m 9 #[.val (.ref v), .val (.int (0 : Int32)), .val (.int n), .val (.int n), .unset] [])) (fun tZ kZ => XS.istoreN X1.here hx rfl (hb hby d46_8) rfl (l' := #[.val (.ref v), .val (.int (0 : Int32)), .val (.int n), .val (.int n), .unset]) rfl kZ) ?_
  refine own_by (S' := T1.setTop (mkF m 10 #[.val (.ref v), .val (.int (0 : Int32)), .val (.int n), .val (.int n), .unset] [(.int n)])) (fun tZ kZ => XS.iloadN X1.here hx rfl (hb hby d46_9) rfl kZ) ?_
  obtain ⟨T2, h2, k2, X2, e2, E2, A2, st2⟩ := newP X1 hx hZ (hw_ hw 26 rfl) heq1 (g := (mkF m 10 #[.val (.ref v), .val (.int (0 : Int32)), .val (.int n), .val (.int n), .unset] [(.int n)])) rfl (hb hby d46_10) rfl (own_nneg hnd) (cap := 8) (by rw [own_tnc hnd]; omega) (by decide) (by decide) (by decide)
  obtain ⟨b2, g2⟩ : ∃ z, z = h0.size := ⟨_, rfl⟩
  rw [← g2] at A2 st2
  have g_b2 : n0 ≤ b2 := Nat.le_trans Z0 (Nat.le_of_eq g2.symm)
  have sz_b2 : h0.size ≤ b2 := Nat.le_trans (Keep.refl h0 []).1 (Nat.le_of_eq g2.symm)
  have Zs2 : n0 ≤ h2.size := Nat.le_trans Z0 E2.1
  have K2 := (Keep.refl h0 []).ext E2
  have V_b2 := OwnA.new A2
  refine own_by (S' := T2.setTop (mkF m 12 #[.val (.ref v), .val (.int (0 : Int32)), .val (.int n), .val (.int n), .unset] [(.ref b2)])) st2 ?_
  refine own_by (S' := T2.setTop (mkF m 14 #[.val (.ref v), .val (.int (0 : Int32)), .val (.int n), .val (.int n), .val (.ref b2)] [])) (fun tZ kZ => XS.astore X2.here hx rfl (hb hby d46_12) rfl rfl (l' := #[.val (.ref v), .val (.int (0 : Int32)), .val (.int n), .val (.int n), .val (.ref b2)]) rfl kZ) ?_
  refine own_by (S' := T2.setTop (mkF m 15 #[.val (.ref v), .val (.int (0 : Int32)), .val (.int n), .val (.int n), .val (.ref b2)] [(.ref v)])) (fun tZ kZ => XS.aloadN X2.here hx rfl (hb hby d46_14) rfl rfl kZ) ?_
  refine own_by (S' := T2.setTop (mkF m 16 #[.val (.ref v), .val (.int (0 : Int32)), .val (.int n), .val (.int n), .val (.ref b2)] [(.int (0 : Int32)), (.ref v)])) (fun tZ kZ => XS.iloadN X2.here hx rfl (hb hby d46_15) rfl kZ) ?_
  refine own_by (S' := T2.setTop (mkF m 18 #[.val (.ref v), .val (.int (0 : Int32)), .val (.int n), .val (.int n), .val (.ref b2)] [(.ref b2), (.int (0 : Int32)), (.ref v)])) (fun tZ kZ => XS.aload X2.here hx rfl (hb hby d46_16) rfl rfl kZ) ?_
  refine own_by (S' := T2.setTop (mkF m 19 #[.val (.ref v), .val (.int (0 : Int32)), .val (.int n), .val (.int n), .val (.ref b2)] [(.int (0 : Int32)), (.ref b2), (.int (0 : Int32)), (.ref v)])) (fun tZ kZ => XS.iconst X2.here hx rfl (hb hby d46_18) kZ) ?_
  refine own_by (S' := T2.setTop (mkF m 20 #[.val (.ref v), .val (.int (0 : Int32)), .val (.int n), .val (.int n), .val (.ref b2)] [(.ref v), (.int (0 : Int32)), (.ref b2), (.int (0 : Int32)), (.ref v)])) (fun tZ kZ => XS.aloadN X2.here hx rfl (hb hby d46_19) rfl rfl kZ) ?_
  have ExK2 := own_ext0 K2
  obtain ⟨cc3, Ar3, hc3, hl3⟩ := id (V_v.ext ExK2)
  refine own_by (S' := T2.setTop (mkF m 21 #[.val (.ref v), .val (.int (0 : Int32)), .val (.int n), .val (.int n), .val (.ref b2)] [(.int zl), (.int (0 : Int32)), (.ref b2), (.int (0 : Int32)), (.ref v)])) (fun tZ kZ => X2.arraylength hx (by rw [e2]; exact Ar3.1) (State.isArrayOf_alike hZ.alike Ar3.2.1) (g := (mkF m 20 #[.val (.ref v), .val (.int (0 : Int32)), .val (.int n), .val (.int n), .val (.ref b2)] [(.ref v), (.int (0 : Int32)), (.ref b2), (.int (0 : Int32)), (.ref v)])) rfl rfl (hb hby d46_20) _ (by rw [len_of (OwnA.size (z := zl) hl3 (own_tnc hzl).symm) (own_nneg hzl)]; exact kZ)) ?_
  refine own_by (S' := T2.setTop (mkF m 22 #[.val (.ref v), .val (.int (0 : Int32)), .val (.int n), .val (.int n), .val (.ref b2)] [(.int (0 : Int32)), (.int zl), (.int (0 : Int32)), (.ref b2), (.int (0 : Int32)), (.ref v)])) (fun tZ kZ => XS.iloadN X2.here hx rfl (hb hby d46_21) rfl kZ) ?_
  refine own_by (S' := T2.setTop (mkF m 23 #[.val (.ref v), .val (.int (0 : Int32)), .val (.int n), .val (.int n), .val (.ref b2)] [(.int (zl - (0 : Int32))), (.int (0 : Int32)), (.ref b2), (.int (0 : Int32)), (.ref v)])) (fun tZ kZ => XS.isub X2.here hx rfl (hb hby d46_22) rfl kZ) ?_
  rw [own_sub0 zl]
  refine own_by (S' := T2.setTop (mkF m 24 #[.val (.ref v), .val (.int (0 : Int32)), .val (.int n), .val (.int n), .val (.ref b2)] [(.int n), (.int zl), (.int (0 : Int32)), (.ref b2), (.int (0 : Int32)), (.ref v)])) (fun tZ kZ => XS.iloadN X2.here hx rfl (hb hby d46_23) rfl kZ) ?_
  obtain ⟨_, _, ⟨T4, L4, k4, n4⟩, -, X4, ⟨Lc4, hQ4, l4, y4, z4⟩, st4⟩ := Jvm.LawKit.callS X2 hx (y := (⟨"java/lang/Math", "min", "(II)I"⟩ : MethodName)) hown (mvT hZ (hw_ hw 212 rfl)) (mvT hZ (hw_ hw 213 rfl)) (mvT hZ (hw_ hw 214 rfl)) (mvT hZ (hw_ hw 215 rfl)) (by decide) (backOf (W := 4) (rmMn l Z a0 hw [] zl n h2 n0 Zs2) hZ (hw_ hw 215 rfl) (hw_ hw 214 rfl) (by decide) (by decide)) (g := (mkF m 24 #[.val (.ref v), .val (.int (0 : Int32)), .val (.int n), .val (.int n), .val (.ref b2)] [(.int n), (.int zl), (.int (0 : Int32)), (.ref b2), (.int (0 : Int32)), (.ref v)])) rfl (by rw [hml]; rfl) (argsL := [(.int zl), (.int n)]) (rest := [(.int (0 : Int32)), (.ref b2), (.int (0 : Int32)), (.ref v)]) (lenOf pd_19 rfl) rfl (by show 2 * 0 + _ ≤ _; exact Nat.le_of_eq rfl) (hb hby d46_24) (fun _ _ => ⟨rfl, e2, (by decide : 1 + 0 ≤ _), (by decide : 8 + 0 ≤ _)⟩)
  dsimp only [Pt.U, Pt.locs, Pt.cells, Pt.slots] at X4 l4 y4 z4 st4 hQ4
  subst l4 y4 z4
  obtain ⟨rfl, N4q, heq4⟩ := hQ4
  have N4 := Fr.app N1 N4q
  refine own_by (S' := T4.setTop (mkF m 27 #[.val (.ref v), .val (.int (0 : Int32)), .val (.int n), .val (.int n), .val (.ref b2)] [(.int (if n < zl then n else zl)), (.int (0 : Int32)), (.ref b2), (.int (0 : Int32)), (.ref v)])) (fun tZ kZ => st4 _ kZ) ?_
  rw [if_pos ((own_lt hnd hzl).mpr hd)]
  have V_b2' : OwnA Z h2 b2 k2 .byte (List.replicate d (.int 0)) := by
    have q := V_b2
    rw [own_tnc hnd] at q
    exact q
  obtain ⟨T5, h5, X5, e5, Kw5, V5, st5⟩ := own_acopy X4 hx hZ hown (hw_ hw 216 rfl) (hw_ hw 219 rfl) (hw_ hw 217 rfl) (hw_ hw 218 rfl) heq4 (V_v.ext ExK2) V_b2' rfl hfv (o := 0) (q := 0) (n := d) rfl rfl (own_ofn hnd) (by omega) (by rw [List.length_replicate]; omega) (by omega) (by rw [List.length_replicate]; omega) (g := (mkF m 27 #[.val (.ref v), .val (.int (0 : Int32)), .val (.int n), .val (.int n), .val (.ref b2)] [(.int n), (.int (0 : Int32)), (.ref b2), (.int (0 : Int32)), (.ref v)])) rfl (by rw [hml]; rfl) (rest := []) rfl (hb hby d46_27) (W := 0) (by show 2 * 0 + _ ≤ _; exact Nat.le_of_eq rfl) (by decide) (by decide)
  have N5 := Fr.app N4 (own_frcopy (b := b2) (q := 0) (n := d) g_b2)
  have Zs5 := Nat.le_trans Zs2 Kw5.1
  have K5 := K2.trans Kw5 (fun x hx => by
      obtain rfl := List.mem_singleton.mp hx
      exact Or.inr sz_b2)
  have V_b2_c5 := V5
  refine own_by (S' := T5.setTop (mkF m 30 #[.val (.ref v), .val (.int (0 : Int32)), .val (.int n), .val (.int n), .val (.ref b2)] [])) st5 ?_
  refine own_by (S' := T5.setTop (mkF m 32 #[.val (.ref v), .val (.int (0 : Int32)), .val (.int n), .val (.int n), .val (.ref b2)] [(.ref b2)])) (fun tZ kZ => XS.aload X5.here hx rfl (hb hby d46_30) rfl rfl kZ) ?_
  exact own_retA X5 hx Bd.returns rfl rfl (hb hby d46_32) Bd.notSynchronized (by decide) (by decide) (show QArr Z (vs.take d) h0 n0 _ T5.heap _ from by rw [e5]; exact ⟨b2, _, rfl, N5, K5, sz_b2, by have q := V_b2_c5; rw [own_cpy] at q; exact q⟩)
theorem d45_0 : decode jdk_65_method_132_code 0 = .ok (.iload_n 1, 1) := by decide +kernel
theorem d45_1 : decode jdk_65_method_132_code 1 = .ok (.ifCond .ne 9, 3) := by decide +kernel
theorem d45_4 : decode jdk_65_method_132_code 4 = .ok (.iload_n 2, 1) := by decide +kernel
theorem d45_5 : decode jdk_65_method_132_code 5 = .ok (.aload_n 0, 1) := by decide +kernel
theorem d45_6 : decode jdk_65_method_132_code 6 = .ok (.arraylength, 1) := by decide +kernel
theorem d45_7 : decode jdk_65_method_132_code 7 = .ok (.if_icmp .eq 10, 3) := by decide +kernel
theorem d45_10 : decode jdk_65_method_132_code 10 = .ok (.aload_n 0, 1) := by decide +kernel
theorem d45_11 : decode jdk_65_method_132_code 11 = .ok (.iload_n 1, 1) := by decide +kernel
theorem d45_12 : decode jdk_65_method_132_code 12 = .ok (.iload_n 2, 1) := by decide +kernel
theorem d45_13 : decode jdk_65_method_132_code 13 = .ok (.invokestatic 339, 3) := by decide +kernel
theorem d45_16 : decode jdk_65_method_132_code 16 = .ok (.areturn, 1) := by decide +kernel
theorem d45_17 : decode jdk_65_method_132_code 17 = .ok (.aload_n 0, 1) := by decide +kernel
theorem d45_18 : decode jdk_65_method_132_code 18 = .ok (.invokevirtual 310, 3) := by decide +kernel
theorem d45_21 : decode jdk_65_method_132_code 21 = .ok (.checkcast 311, 3) := by decide +kernel
theorem d45_24 : decode jdk_65_method_132_code 24 = .ok (.areturn, 1) := by decide +kernel
theorem ef_rmCr (m : MethodId) (v : Addr) (n : Int32) : entryFrame m #[(.ref v), (.int (0 : Int32)), (.int n)] 3 = mkF m 0 #[.val (.ref v), .val (.int (0 : Int32)), .val (.int n)] [] := by first | (simp [entryFrame, mkF, argsToLocals, Value.category, maxLocals]; done) | rfl
set_option maxRecDepth 65536 in
set_option maxHeartbeats 40000000 in
theorem rmCr (l : Launch) (Z : State) (a0 : Array Value) (hw : ∀ d ∈ tables_1, d.before a0 Z = true) (ws : List Jvm.Cond) (v : Addr) (kv : ClassId) (vs : List Value) (n zl : Int32) (d : Nat) (h0 : Heap) (n0 : Nat) (Z0 : n0 ≤ h0.size) (V_v : OwnA Z h0 v kv .byte vs) (hfv : ∀ q ∈ vs, fits .byte q = true) (hnd : n.toInt = d) (hzl : zl.toInt = vs.length) (hd : d < vs.length) (hl8 : vs.length ≤ 8) :
    MetFree l (⟨"java/util/Arrays", "copyOfRange", "([BII)[B"⟩ : MethodName) (head1 (Jvm.Cond.code (⟨"java/util/Arrays", "copyOfRange", "([BII)[B"⟩ : MethodName) jdk_65_method_132_code (3 : Nat) (Option.some (Jvm.ClassFile.FieldType.array Jvm.ClassFile.FieldType.byte)) :: ws) ({ frames := 2, cells := 1, slots := 8, locals := 56 } : Room)) (fun aZ UZ => aZ = #[(.ref v), (.int (0 : Int32)), (.int n)] ∧ Z.Warmed39 UZ.vm ∧ UZ.heap = h0) (fun _ _ _ _ _ => True) (fun _ UZ oZ VZ => ∃ vZ LZ, oZ = .returned vZ ∧ (QArr Z (vs.take d) h0 n0) vZ VZ.heap LZ ∧ FrameEnd UZ oZ VZ LZ ({ frames := 2, cells := 1, slots := 8, locals := 56 } : Room).cells ({ frames := 2, cells := 1, slots := 8, locals := 56 } : Room).slots) := by
  refine MetFree.of_bodySF (plainFor_of_name pn_7) hisR ?_
  intro p e s m args below meth c s₁ Bd hml0 hP hK
  obtain ⟨rfl, hZ, hh⟩ := hP
  have hx := Bd.exec
  have hby := Bd.bytes
  have hml : c.maxLocals = 3 := hml0
  have hown : s.vm.findClass "java/util/Arrays" = some m.cls := findClass_of_methodNamed Bd.named
  have hnm := (name_of_methodNamed Bd.named Bd.method).1
  have X0 : Stand p l e ({ frames := 2, cells := 1, slots := 8, locals := 56 } : Room) s m #[(.ref v), (.int (0 : Int32)), (.int n)] below meth c s₁ [] 0 0 := Stand.of_body Bd
  have e0 : s₁.heap = h0 := by rw [← hh, Bd.state]; rfl
  have N0 := Fr.nil n0
  show OwnG p e below (OwnE s (QArr Z (vs.take d) h0 n0) ({ frames := 2, cells := 1, slots := 8, locals := 56 } : Room).cells ({ frames := 2, cells := 1, slots := 8, locals := 56 } : Room).slots) _
  refine own_by (S' := s₁.setTop (mkF m 0 #[.val (.ref v), .val (.int (0 : Int32)), .val (.int n)] [])) (fun tZ kZ => castTop (ef_rmCr m v n) kZ) ?_
  refine own_by (S' := s₁.setTop (mkF m 1 #[.val (.ref v), .val (.int (0 : Int32)), .val (.int n)] [(.int (0 : Int32))])) (fun tZ kZ => XS.iloadN X0.here hx rfl (hb hby d45_0) rfl kZ) ?_
  refine own_by (S' := s₁.setTop (mkF m 4 #[.val (.ref v), .val (.int (0 : Int32)), .val (.int n)] [])) (fun tZ kZ => XS.ifNo X0.here hx rfl (hb hby d45_1) rfl ((if0 _ _).trans (teq rfl).2) kZ) ?_
  refine own_by (S' := s₁.setTop (mkF m 5 #[.val (.ref v), .val (.int (0 : Int32)), .val (.int n)] [(.int n)])) (fun tZ kZ => XS.iloadN X0.here hx rfl (hb hby d45_4) rfl kZ) ?_
  refine own_by (S' := s₁.setTop (mkF m 6 #[.val (.ref v), .val (.int (0 : Int32)), .val (.int n)] [(.ref v), (.int n)])) (fun tZ kZ => XS.aloadN X0.here hx rfl (hb hby d45_5) rfl rfl kZ) ?_
  obtain ⟨cc1, Ar1, hc1, hl1⟩ := id V_v
  refine own_by (S' := s₁.setTop (mkF m 7 #[.val (.ref v), .val (.int (0 : Int32)), .val (.int n)] [(.int zl), (.int n)])) (fun tZ kZ => X0.arraylength hx (by rw [e0]; exact Ar1.1) (State.isArrayOf_alike hZ.alike Ar1.2.1) (g := (mkF m 6 #[.val (.ref v), .val (.int (0 : Int32)), .val (.int n)] [(.ref v), (.int n)])) rfl rfl (hb hby d45_6) _ (by rw [len_of (OwnA.size (z := zl) hl1 (own_tnc hzl).symm) (own_nneg hzl)]; exact kZ)) ?_
  refine own_by (S' := s₁.setTop (mkF m 10 #[.val (.ref v), .val (.int (0 : Int32)), .val (.int n)] [])) (fun tZ kZ => XS.icmpNo X0.here hx rfl (hb hby d45_7) rfl (feq (own_neq hnd hzl (by omega))).1 kZ) ?_
  refine own_by (S' := s₁.setTop (mkF m 11 #[.val (.ref v), .val (.int (0 : Int32)), .val (.int n)] [(.ref v)])) (fun tZ kZ => XS.aloadN X0.here hx rfl (hb hby d45_10) rfl rfl kZ) ?_
  refine own_by (S' := s₁.setTop (mkF m 12 #[.val (.ref v), .val (.int (0 : Int32)), .val (.int n)] [(.int (0 : Int32)), (.ref v)])) (fun tZ kZ => XS.iloadN X0.here hx rfl (hb hby d45_11) rfl kZ) ?_
  refine own_by (S' := s₁.setTop (mkF m 13 #[.val (.ref v), .val (.int (0 : Int32)), .val (.int n)] [(.int n), (.int (0 : Int32)), (.ref v)])) (fun tZ kZ => XS.iloadN X0.here hx rfl (hb hby d45_12) rfl kZ) ?_
  obtain ⟨_, _, ⟨T2, L2, k2, n2⟩, -, X2, ⟨Lc2, hQ2, l2, y2, z2⟩, st2⟩ := Jvm.LawKit.callS X0 hx (y := (⟨"java/util/Arrays", "copyOfRangeByte", "([BII)[B"⟩ : MethodName)) hown (mvT hZ (hw_ hw 206 rfl)) (mvT hZ (hw_ hw 207 rfl)) (mvT hZ (hw_ hw 204 rfl)) (mvT hZ (hw_ hw 208 rfl)) (by decide) (backOf (W := 0) (rmCb l Z a0 hw [] v kv vs n zl d h0 n0 Z0 V_v hfv hnd hzl hd hl8) hZ (hw_ hw 208 rfl) (hw_ hw 204 rfl) (by decide) (by decide)) (g := (mkF m 13 #[.val (.ref v), .val (.int (0 : Int32)), .val (.int n)] [(.int n), (.int (0 : Int32)), (.ref v)])) rfl (by rw [hml]; rfl) (argsL := [(.ref v), (.int (0 : Int32)), (.int n)]) (rest := []) (lenOf pd_20 rfl) rfl (by show 2 * 0 + _ ≤ _; exact Nat.le_of_eq rfl) (hb hby d45_13) (fun _ _ => ⟨rfl, e0, (by decide : 0 + 1 ≤ _), (by decide : 0 + 8 ≤ _)⟩)
  dsimp only [Pt.U, Pt.locs, Pt.cells, Pt.slots] at X2 l2 y2 z2 st2 hQ2
  subst l2 y2 z2
  obtain ⟨bb, kb, rfl, N2q, Kc2, sb2, Vb2⟩ := hQ2
  have N2 := Fr.app N0 N2q
  have Zs2 := Nat.le_trans Z0 Kc2.1
  have Ec2 := own_ext0 Kc2
  have K2 := (Keep.refl h0 []).ext Ec2
  refine own_by (S' := T2.setTop (mkF m 16 #[.val (.ref v), .val (.int (0 : Int32)), .val (.int n)] [(.ref bb)])) (fun tZ kZ => st2 _ kZ) ?_
  exact own_retA X2 hx Bd.returns rfl rfl (hb hby d45_16) Bd.notSynchronized (by decide) (by decide) ⟨bb, kb, rfl, N2, K2, sb2, Vb2⟩
theorem d13_0 : decode jdk_52_method_16_code 0 = .ok (.iload_n 2, 1) := by decide +kernel
theorem d13_1 : decode jdk_52_method_16_code 1 = .ok (.newarray .byte, 2) := by decide +kernel
theorem d13_3 : decode jdk_52_method_16_code 3 = .ok (.astore_n 3, 1) := by decide +kernel
theorem d13_4 : decode jdk_52_method_16_code 4 = .ok (.aload_n 0, 1) := by decide +kernel
theorem d13_5 : decode jdk_52_method_16_code 5 = .ok (.iload_n 1, 1) := by decide +kernel
theorem d13_6 : decode jdk_52_method_16_code 6 = .ok (.aload_n 3, 1) := by decide +kernel
theorem d13_7 : decode jdk_52_method_16_code 7 = .ok (.iconst 0, 1) := by decide +kernel
theorem d13_8 : decode jdk_52_method_16_code 8 = .ok (.iload_n 2, 1) := by decide +kernel
theorem d13_9 : decode jdk_52_method_16_code 9 = .ok (.invokestatic 115, 3) := by decide +kernel
theorem d13_12 : decode jdk_52_method_16_code 12 = .ok (.istore 4, 2) := by decide +kernel
theorem d13_14 : decode jdk_52_method_16_code 14 = .ok (.iload 4, 2) := by decide +kernel
theorem d13_16 : decode jdk_52_method_16_code 16 = .ok (.iload_n 2, 1) := by decide +kernel
theorem d13_17 : decode jdk_52_method_16_code 17 = .ok (.if_icmp .eq 40, 3) := by decide +kernel
theorem d13_20 : decode jdk_52_method_16_code 20 = .ok (.aload_n 0, 1) := by decide +kernel
theorem d13_21 : decode jdk_52_method_16_code 21 = .ok (.iload_n 1, 1) := by decide +kernel
theorem d13_22 : decode jdk_52_method_16_code 22 = .ok (.iload_n 2, 1) := by decide +kernel
theorem d13_23 : decode jdk_52_method_16_code 23 = .ok (.invokestatic 119, 3) := by decide +kernel
theorem d13_26 : decode jdk_52_method_16_code 26 = .ok (.astore 5, 2) := by decide +kernel
theorem d13_28 : decode jdk_52_method_16_code 28 = .ok (.aload 5, 2) := by decide +kernel
theorem d13_30 : decode jdk_52_method_16_code 30 = .ok (.iload 4, 2) := by decide +kernel
theorem d13_32 : decode jdk_52_method_16_code 32 = .ok (.invokestatic 71, 3) := by decide +kernel
theorem d13_35 : decode jdk_52_method_16_code 35 = .ok (.sipush 255, 3) := by decide +kernel
theorem d13_38 : decode jdk_52_method_16_code 38 = .ok (.if_icmp .gt 16, 3) := by decide +kernel
theorem d13_41 : decode jdk_52_method_16_code 41 = .ok (.aload 5, 2) := by decide +kernel
theorem d13_43 : decode jdk_52_method_16_code 43 = .ok (.iconst 0, 1) := by decide +kernel
theorem d13_44 : decode jdk_52_method_16_code 44 = .ok (.aload_n 3, 1) := by decide +kernel
theorem d13_45 : decode jdk_52_method_16_code 45 = .ok (.iconst 0, 1) := by decide +kernel
theorem d13_46 : decode jdk_52_method_16_code 46 = .ok (.iload_n 2, 1) := by decide +kernel
theorem d13_47 : decode jdk_52_method_16_code 47 = .ok (.invokestatic 123, 3) := by decide +kernel
theorem d13_50 : decode jdk_52_method_16_code 50 = .ok (.iload_n 2, 1) := by decide +kernel
theorem d13_51 : decode jdk_52_method_16_code 51 = .ok (.if_icmp .eq 6, 3) := by decide +kernel
theorem d13_54 : decode jdk_52_method_16_code 54 = .ok (.aload 5, 2) := by decide +kernel
theorem d13_56 : decode jdk_52_method_16_code 56 = .ok (.areturn, 1) := by decide +kernel
theorem d13_57 : decode jdk_52_method_16_code 57 = .ok (.aload_n 3, 1) := by decide +kernel
theorem d13_58 : decode jdk_52_method_16_code 58 = .ok (.areturn, 1) := by decide +kernel
theorem ef_rmC3C (m : MethodId) (src : Addr) (n : Int32) : entryFrame m #[(.ref src), (.int (0 : Int32)), (.int n)] 6 = mkF m 0 #[.val (.ref src), .val (.int (0 : Int32)), .val (.int n), .unset, .unset, .unset] [] := by first | (simp [entryFrame, mkF, argsToLocals, Value.category, maxLocals]; done) | rfl
set_option maxRecDepth 65536 in
set_option maxHeartbeats 40000000 in
theorem rmC3C (l : Launch) (Z : State) (a0 : Array Value) (hw : ∀ d ∈ tables_1, d.before a0 Z = true) (ws : List Jvm.Cond) (src : Addr) (ks : ClassId) (us : List Int32) (n : Int32) (cz : Int32) (fm : Value) (h0 : Heap) (n0 : Nat) (Z0 : n0 ≤ h0.size) (V_src : OwnA Z h0 src ks .char (cV us)) (hn : n.toInt = us.length) (hl : us.length ≤ 4) (hus : ∀ q ∈ us, CU q) (W : OwnW Z h0 cz fm) :
    MetFree l (⟨"java/lang/StringUTF16", "compress", "([CII)[B"⟩ : MethodName) (head1 (Jvm.Cond.code (⟨"java/lang/StringUTF16", "compress", "([CII)[B"⟩ : MethodName) jdk_52_method_16_code (6 : Nat) (Option.some (Jvm.ClassFile.FieldType.array Jvm.ClassFile.FieldType.byte)) :: ws) ({ frames := 3, cells := 2, slots := 12, locals := 40 } : Room)) (fun aZ UZ => aZ = #[(.ref src), (.int (0 : Int32)), (.int n)] ∧ Z.Warmed39 UZ.vm ∧ UZ.heap = h0) (fun _ _ _ _ _ => True) (fun _ UZ oZ VZ => ∃ vZ LZ, oZ = .returned vZ ∧ (QCmp Z us h0 n0) vZ VZ.heap LZ ∧ FrameEnd UZ oZ VZ LZ ({ frames := 3, cells := 2, slots := 12, locals := 40 } : Room).cells ({ frames := 3, cells := 2, slots := 12, locals := 40 } : Room).slots) := by
  refine MetFree.of_bodySF (plainFor_of_name pn_3) hisR ?_
  intro p e s m args below meth c s₁ Bd hml0 hP hK
  obtain ⟨rfl, hZ, hh⟩ := hP
  have hx := Bd.exec
  have hby := Bd.bytes
  have hml : c.maxLocals = 6 := hml0
  have hown : s.vm.findClass "java/lang/StringUTF16" = some m.cls := findClass_of_methodNamed Bd.named
  have hnm := (name_of_methodNamed Bd.named Bd.method).1
  have X0 : Stand p l e ({ frames := 3, cells := 2, slots := 12, locals := 40 } : Room) s m #[(.ref src), (.int (0 : Int32)), (.int n)] below meth c s₁ [] 0 0 := Stand.of_body Bd
  have e0 : s₁.heap = h0 := by rw [← hh, Bd.state]; rfl
  have N0 := Fr.nil n0
  show OwnG p e below (OwnE s (QCmp Z us h0 n0) ({ frames := 3, cells := 2, slots := 12, locals := 40 } : Room).cells ({ frames := 3, cells := 2, slots := 12, locals := 40 } : Room).slots) _
  refine own_by (S' := s₁.setTop (mkF m 0 #[.val (.ref src), .val (.int (0 : Int32)), .val (.int n), .unset, .unset, .unset] [])) (fun tZ kZ => castTop (ef_rmC3C m src n) kZ) ?_
  refine own_by (S' := s₁.setTop (mkF m 1 #[.val (.ref src), .val (.int (0 : Int32)), .val (.int n), .unset, .unset, .unset] [(.int n)])) (fun tZ kZ => XS.iloadN X0.here hx rfl (hb hby d13_0) rfl kZ) ?_
  obtain ⟨T1, h1, k1, X1, e1, E1, A1, st1⟩ := newP X0 hx hZ (hw_ hw 26 rfl) e0 (g := (mkF m 1 #[.val (.ref src), .val (.int (0 : Int32)), .val (.int n), .unset, .unset, .unset] [(.int n)])) rfl (hb hby d13_1) rfl (own_nneg hn) (cap := 4) (by rw [own_tnc hn]; omega) (by decide) (by decide) (by decide)
  obtain ⟨b1, g1⟩ : ∃ z, z = h0.size := ⟨_, rfl⟩
  rw [← g1] at A1 st1
  have g_b1 : n0 ≤ b1 := Nat.le_trans Z0 (Nat.le_of_eq g1.symm)
  have sz_b1 : h0.size ≤ b1 := Nat.le_trans (Keep.refl h0 []).1 (Nat.le_of_eq g1.symm)
  have Zs1 : n0 ≤ h1.size := Nat.le_trans Z0 E1.1
  have K1 := (Keep.refl h0 []).ext E1
  have V_b1 := OwnA.new A1
  refine own_by (S' := T1.setTop (mkF m 3 #[.val (.ref src), .val (.int (0 : Int32)), .val (.int n), .unset, .unset, .unset] [(.ref b1)])) st1 ?_
  refine own_by (S' := T1.setTop (mkF m 4 #[.val (.ref src), .val (.int (0 : Int32)), .val (.int n), .val (.ref b1), .unset, .unset] [])) (fun tZ kZ => XS.astoreN X1.here hx rfl (hb hby d13_3) rfl rfl (l' := #[.val (.ref src), .val (.int (0 : Int32)), .val (.int n), .val (.ref b1), .unset, .unset]) rfl kZ) ?_
  refine own_by (S' := T1.setTop (mkF m 5 #[.val (.ref src), .val (.int (0 : Int32)), .val (.int n), .val (.ref b1), .unset, .unset] [(.ref src)])) (fun tZ kZ => XS.aloadN X1.here hx rfl (hb hby d13_4) rfl rfl kZ) ?_
  refine own_by (S' := T1.setTop (mkF m 6 #[.val (.ref src), .val (.int (0 : Int32)), .val (.int n), .val (.ref b1), .unset, .unset] [(.int (0 : Int32)), (.ref src)])) (fun tZ kZ => XS.iloadN X1.here hx rfl (hb hby d13_5) rfl kZ) ?_
  refine own_by (S' := T1.setTop (mkF m 7 #[.val (.ref src), .val (.int (0 : Int32)), .val (.int n), .val (.ref b1), .unset, .unset] [(.ref b1), (.int (0 : Int32)), (.ref src)])) (fun tZ kZ => XS.aloadN X1.here hx rfl (hb hby d13_6) rfl rfl kZ) ?_
  refine own_by (S' := T1.setTop (mkF m 8 #[.val (.ref src), .val (.int (0 : Int32)), .val (.int n), .val (.ref b1), .unset, .unset] [(.int (0 : Int32)), (.ref b1), (.int (0 : Int32)), (.ref src)])) (fun tZ kZ => XS.iconst X1.here hx rfl (hb hby d13_7) kZ) ?_
  refine own_by (S' := T1.setTop (mkF m 9 #[.val (.ref src), .val (.int (0 : Int32)), .val (.int n), .val (.ref b1), .unset, .unset] [(.int n), (.int (0 : Int32)), (.ref b1), (.int (0 : Int32)), (.ref src)])) (fun tZ kZ => XS.iloadN X1.here hx rfl (hb hby d13_8) rfl kZ) ?_
  have n_sb1 : src ≠ b1 := Nat.ne_of_lt (Nat.lt_of_lt_of_le V_src.lt sz_b1)
  have ExK1 := own_ext0 K1
  obtain ⟨_, _, ⟨T2, L2, k2, n2⟩, -, X2, ⟨Lc2, hQ2, l2, y2, z2⟩, st2⟩ := Jvm.LawKit.callS X1 hx (y := (⟨"java/lang/StringUTF16", "compress", "([CI[BII)I"⟩ : MethodName)) hown (mvT hZ (hw_ hw 72 rfl)) (mvT hZ (hw_ hw 73 rfl)) (mvT hZ (hw_ hw 70 rfl)) (mvT hZ (hw_ hw 74 rfl)) (by decide) (backOf (W := 0) (rmC5C l Z a0 hw [] src b1 ks k1 us n _ h1 n0 Zs1 (V_src.ext ExK1) hn hl hus V_b1 (by rw [List.length_replicate, own_tnc hn]) n_sb1 g_b1) hZ (hw_ hw 74 rfl) (hw_ hw 70 rfl) (by decide) (by decide)) (g := (mkF m 9 #[.val (.ref src), .val (.int (0 : Int32)), .val (.int n), .val (.ref b1), .unset, .unset] [(.int n), (.int (0 : Int32)), (.ref b1), (.int (0 : Int32)), (.ref src)])) rfl (by rw [hml]; rfl) (argsL := [(.ref src), (.int (0 : Int32)), (.ref b1), (.int (0 : Int32)), (.int n)]) (rest := []) (lenOf pd_21 rfl) rfl (by show 2 * 0 + _ ≤ _; exact Nat.le_of_eq rfl) (hb hby d13_9) (fun _ _ => ⟨rfl, e1, (by decide : 1 + 0 ≤ _), (by decide : 4 + 0 ≤ _)⟩)
  dsimp only [Pt.U, Pt.locs, Pt.cells, Pt.slots] at X2 l2 y2 z2 st2 hQ2
  subst l2 y2 z2
  obtain ⟨z, j, rfl, N2q, Kc2, hzj, wz, V_z, hcase⟩ := hQ2
  have N2 := Fr.app N0 N2q
  have Zs2 := Nat.le_trans Zs1 Kc2.1
  have K2 := K1.trans Kc2 (fun x hx => by
      simp only [List.mem_cons, List.not_mem_nil, or_false] at hx
      rcases hx with rfl
      · exact Or.inr sz_b1)
  refine own_by (S' := T2.setTop (mkF m 12 #[.val (.ref src), .val (.int (0 : Int32)), .val (.int n), .val (.ref b1), .unset, .unset] [(.int z)])) (fun tZ kZ => st2 _ kZ) ?_
  refine own_by (S' := T2.setTop (mkF m 14 #[.val (.ref src), .val (.int (0 : Int32)), .val (.int n), .val (.ref b1), .val (.int z), .unset] [])) (fun tZ kZ => XS.istore X2.here hx rfl (hb hby d13_12) rfl (l' := #[.val (.ref src), .val (.int (0 : Int32)), .val (.int n), .val (.ref b1), .val (.int z), .unset]) rfl kZ) ?_
  refine own_by (S' := T2.setTop (mkF m 16 #[.val (.ref src), .val (.int (0 : Int32)), .val (.int n), .val (.ref b1), .val (.int z), .unset] [(.int z)])) (fun tZ kZ => XS.iload X2.here hx rfl (hb hby d13_14) rfl kZ) ?_
  refine own_by (S' := T2.setTop (mkF m 17 #[.val (.ref src), .val (.int (0 : Int32)), .val (.int n), .val (.ref b1), .val (.int z), .unset] [(.int n), (.int z)])) (fun tZ kZ => XS.iloadN X2.here hx rfl (hb hby d13_16) rfl kZ) ?_
  by_cases dg1 : z = n
  · refine own_by (S' := T2.setTop (mkF m 57 #[.val (.ref src), .val (.int (0 : Int32)), .val (.int n), .val (.ref b1), .val (.int z), .unset] [])) (fun tZ kZ => XS.icmpYes X2.here hx rfl (pc0 := 17) (pc' := 57) rfl (hb hby d13_17) rfl (teq dg1).1 (by decide) (by decide) kZ) ?_
    have hjn : j = us.length := by rw [dg1] at hzj; omega
    obtain ⟨hw2, hal⟩ : wz = bL us ∧ ∀ q ∈ us, q.toInt ≤ 255 := by
      rcases hcase with ⟨-, q1, q2⟩ | ⟨q, -⟩
      · rw [List.take_length] at q1 q2; exact ⟨q1, q2⟩
      · omega
    rw [hw2] at V_z
    refine own_by (S' := T2.setTop (mkF m 58 #[.val (.ref src), .val (.int (0 : Int32)), .val (.int n), .val (.ref b1), .val (.int z), .unset] [(.ref b1)])) (fun tZ kZ => XS.aloadN X2.here hx rfl (hb hby d13_57) rfl rfl kZ) ?_
    exact own_retA X2 hx Bd.returns rfl rfl (hb hby d13_58) Bd.notSynchronized (by decide) (by decide) ⟨b1, _, rfl, N2, K2, sz_b1, Or.inl ⟨V_z, hal⟩⟩
  · refine own_by (S' := T2.setTop (mkF m 20 #[.val (.ref src), .val (.int (0 : Int32)), .val (.int n), .val (.ref b1), .val (.int z), .unset] [])) (fun tZ kZ => XS.icmpNo X2.here hx rfl (hb hby d13_17) rfl (feq dg1).1 kZ) ?_
    obtain ⟨hjl, u, hu, hbig⟩ : j < us.length ∧ ∃ u, us[j]? = some u ∧ 255 < u.toInt := by
      rcases hcase with ⟨q, -⟩ | q
      · exact absurd (own_eq hzj (by rw [q]; exact hn)) dg1
      · exact q
    have hum := List.mem_of_getElem? hu
    refine own_by (S' := T2.setTop (mkF m 21 #[.val (.ref src), .val (.int (0 : Int32)), .val (.int n), .val (.ref b1), .val (.int z), .unset] [(.ref src)])) (fun tZ kZ => XS.aloadN X2.here hx rfl (hb hby d13_20) rfl rfl kZ) ?_
    refine own_by (S' := T2.setTop (mkF m 22 #[.val (.ref src), .val (.int (0 : Int32)), .val (.int n), .val (.ref b1), .val (.int z), .unset] [(.int (0 : Int32)), (.ref src)])) (fun tZ kZ => XS.iloadN X2.here hx rfl (hb hby d13_21) rfl kZ) ?_
    refine own_by (S' := T2.setTop (mkF m 23 #[.val (.ref src), .val (.int (0 : Int32)), .val (.int n), .val (.ref b1), .val (.int z), .unset] [(.int n), (.int (0 : Int32)), (.ref src)])) (fun tZ kZ => XS.iloadN X2.here hx rfl (hb hby d13_22) rfl kZ) ?_
    have ExK2 := own_ext0 K2
    obtain ⟨_, _, ⟨T3, L3, k3, n3⟩, -, X3, ⟨Lc3, hQ3, l3, y3, z3⟩, st3⟩ := Jvm.LawKit.callS X2 hx (y := (⟨"java/lang/StringUTF16", "toBytes", "([CII)[B"⟩ : MethodName)) hown (mvT hZ (hw_ hw 75 rfl)) (mvT hZ (hw_ hw 76 rfl)) (mvT hZ (hw_ hw 70 rfl)) (mvT hZ (hw_ hw 77 rfl)) (by decide) (backOf (W := 0) (rmTB l Z a0 hw [] src ks us n cz fm T2.heap n0 Zs2 (V_src.ext ExK2) hn hl hus (W.ext ExK2)) hZ (hw_ hw 77 rfl) (hw_ hw 70 rfl) (by decide) (by decide)) (g := (mkF m 23 #[.val (.ref src), .val (.int (0 : Int32)), .val (.int n), .val (.ref b1), .val (.int z), .unset] [(.int n), (.int (0 : Int32)), (.ref src)])) rfl (by rw [hml]; rfl) (argsL := [(.ref src), (.int (0 : Int32)), (.int n)]) (rest := []) (lenOf pd_22 rfl) rfl (by show 2 * 0 + _ ≤ _; exact Nat.le_of_eq rfl) (hb hby d13_23) (fun _ _ => ⟨rfl, rfl, (by decide : 1 + 1 ≤ _), (by decide : 4 + 8 ≤ _)⟩)
    dsimp only [Pt.U, Pt.locs, Pt.cells, Pt.slots] at X3 l3 y3 z3 st3 hQ3
    subst l3 y3 z3
    obtain ⟨bq, kq, rfl, N3q, Kc3, szq, Vq⟩ := hQ3
    have N3 := Fr.app N2 N3q
    have Zs3 := Nat.le_trans Zs2 Kc3.1
    have Ec3 := own_ext0 Kc3
    have K3 := K2.ext Ec3
    refine own_by (S' := T3.setTop (mkF m 26 #[.val (.ref src), .val (.int (0 : Int32)), .val (.int n), .val (.ref b1), .val (.int z), .unset] [(.ref bq)])) (fun tZ kZ => st3 _ kZ) ?_
    refine own_by (S' := T3.setTop (mkF m 28 #[.val (.ref src), .val (.int (0 : Int32)), .val (.int n), .val (.ref b1), .val (.int z), .val (.ref bq)] [])) (fun tZ kZ => XS.astore X3.here hx rfl (hb hby d13_26) rfl rfl (l' := #[.val (.ref src), .val (.int (0 : Int32)), .val (.int n), .val (.ref b1), .val (.int z), .val (.ref bq)]) rfl kZ) ?_
    refine own_by (S' := T3.setTop (mkF m 30 #[.val (.ref src), .val (.int (0 : Int32)), .val (.int n), .val (.ref b1), .val (.int z), .val (.ref bq)] [(.ref bq)])) (fun tZ kZ => XS.aload X3.here hx rfl (hb hby d13_28) rfl rfl kZ) ?_
    refine own_by (S' := T3.setTop (mkF m 32 #[.val (.ref src), .val (.int (0 : Int32)), .val (.int n), .val (.ref b1), .val (.int z), .val (.ref bq)] [(.int z), (.ref bq)])) (fun tZ kZ => XS.iload X3.here hx rfl (hb hby d13_30) rfl kZ) ?_
    have ExK3 := own_ext0 K3
    obtain ⟨_, _, ⟨T4, L4, k4, n4⟩, -, X4, ⟨Lc4, hQ4, l4, y4, z4⟩, st4⟩ := Jvm.LawKit.callS X3 hx (y := (⟨"java/lang/StringUTF16", "getChar", "([BI)C"⟩ : MethodName)) hown (mvT hZ (hw_ hw 91 rfl)) (mvT hZ (hw_ hw 92 rfl)) (mvT hZ (hw_ hw 70 rfl)) (mvT hZ (hw_ hw 93 rfl)) (by decide) (backOf (W := 0) (rmGet l Z a0 hw [] bq kq us z j u cz fm T3.heap n0 Zs3 Vq hl hzj hu (hus _ hum) (W.ext ExK3)) hZ (hw_ hw 93 rfl) (hw_ hw 70 rfl) (by decide) (by decide)) (g := (mkF m 32 #[.val (.ref src), .val (.int (0 : Int32)), .val (.int n), .val (.ref b1), .val (.int z), .val (.ref bq)] [(.int z), (.ref bq)])) rfl (by rw [hml]; rfl) (argsL := [(.ref bq), (.int z)]) (rest := []) (lenOf pd_6 rfl) rfl (by show 2 * 0 + _ ≤ _; exact Nat.le_of_eq rfl) (hb hby d13_32) (fun _ _ => ⟨rfl, rfl, (by decide : 2 + 0 ≤ _), (by decide : 12 + 0 ≤ _)⟩)
    dsimp only [Pt.U, Pt.locs, Pt.cells, Pt.slots] at X4 l4 y4 z4 st4 hQ4
    subst l4 y4 z4
    obtain ⟨rfl, N4q, heq4⟩ := hQ4
    have N4 := Fr.app N3 N4q
    refine own_by (S' := T4.setTop (mkF m 35 #[.val (.ref src), .val (.int (0 : Int32)), .val (.int n), .val (.ref b1), .val (.int z), .val (.ref bq)] [(.int u)])) (fun tZ kZ => st4 _ kZ) ?_
    refine own_by (S' := T4.setTop (mkF m 38 #[.val (.ref src), .val (.int (0 : Int32)), .val (.int n), .val (.ref b1), .val (.int z), .val (.ref bq)] [(.int (255 : Int32)), (.int u)])) (fun tZ kZ => XS.sipush X4.here hx rfl (hb hby d13_35) kZ) ?_
    refine own_by (S' := T4.setTop (mkF m 54 #[.val (.ref src), .val (.int (0 : Int32)), .val (.int n), .val (.ref b1), .val (.int z), .val (.ref bq)] [])) (fun tZ kZ => XS.icmpYes X4.here hx rfl (pc0 := 38) (pc' := 54) rfl (hb hby d13_38) rfl (tlt (own_big.mp hbig)).2.2.1 (by decide) (by decide) kZ) ?_
    refine own_by (S' := T4.setTop (mkF m 56 #[.val (.ref src), .val (.int (0 : Int32)), .val (.int n), .val (.ref b1), .val (.int z), .val (.ref bq)] [(.ref bq)])) (fun tZ kZ => XS.aload X4.here hx rfl (hb hby d13_54) rfl rfl kZ) ?_
    exact own_retA X4 hx Bd.returns rfl rfl (hb hby d13_56) Bd.notSynchronized (by decide) (by decide) (show QCmp Z us h0 n0 _ T4.heap _ from by rw [heq4]; exact ⟨bq, kq, rfl, N4, K3, Nat.le_trans K2.1 szq, Or.inr Vq⟩)
theorem d40_0 : decode jdk_52_method_17_code 0 = .ok (.iload_n 2, 1) := by decide +kernel
theorem d40_1 : decode jdk_52_method_17_code 1 = .ok (.newarray .byte, 2) := by decide +kernel
theorem d40_3 : decode jdk_52_method_17_code 3 = .ok (.astore_n 3, 1) := by decide +kernel
theorem d40_4 : decode jdk_52_method_17_code 4 = .ok (.aload_n 0, 1) := by decide +kernel
theorem d40_5 : decode jdk_52_method_17_code 5 = .ok (.iload_n 1, 1) := by decide +kernel
theorem d40_6 : decode jdk_52_method_17_code 6 = .ok (.aload_n 3, 1) := by decide +kernel
theorem d40_7 : decode jdk_52_method_17_code 7 = .ok (.iconst 0, 1) := by decide +kernel
theorem d40_8 : decode jdk_52_method_17_code 8 = .ok (.iload_n 2, 1) := by decide +kernel
theorem d40_9 : decode jdk_52_method_17_code 9 = .ok (.invokestatic 123, 3) := by decide +kernel
theorem d40_12 : decode jdk_52_method_17_code 12 = .ok (.istore 4, 2) := by decide +kernel
theorem d40_14 : decode jdk_52_method_17_code 14 = .ok (.iload 4, 2) := by decide +kernel
theorem d40_16 : decode jdk_52_method_17_code 16 = .ok (.iload_n 2, 1) := by decide +kernel
theorem d40_17 : decode jdk_52_method_17_code 17 = .ok (.if_icmp .eq 47, 3) := by decide +kernel
theorem d40_20 : decode jdk_52_method_17_code 20 = .ok (.aload_n 0, 1) := by decide +kernel
theorem d40_21 : decode jdk_52_method_17_code 21 = .ok (.iload_n 1, 1) := by decide +kernel
theorem d40_22 : decode jdk_52_method_17_code 22 = .ok (.iconst 1, 1) := by decide +kernel
theorem d40_23 : decode jdk_52_method_17_code 23 = .ok (.ishl, 1) := by decide +kernel
theorem d40_24 : decode jdk_52_method_17_code 24 = .ok (.iload_n 1, 1) := by decide +kernel
theorem d40_25 : decode jdk_52_method_17_code 25 = .ok (.iload_n 2, 1) := by decide +kernel
theorem d40_26 : decode jdk_52_method_17_code 26 = .ok (.iadd, 1) := by decide +kernel
theorem d40_27 : decode jdk_52_method_17_code 27 = .ok (.invokestatic 11, 3) := by decide +kernel
theorem d40_30 : decode jdk_52_method_17_code 30 = .ok (.invokestatic 126, 3) := by decide +kernel
theorem d40_33 : decode jdk_52_method_17_code 33 = .ok (.astore 5, 2) := by decide +kernel
theorem d40_35 : decode jdk_52_method_17_code 35 = .ok (.aload 5, 2) := by decide +kernel
theorem d40_37 : decode jdk_52_method_17_code 37 = .ok (.iload 4, 2) := by decide +kernel
theorem d40_39 : decode jdk_52_method_17_code 39 = .ok (.invokestatic 71, 3) := by decide +kernel
theorem d40_42 : decode jdk_52_method_17_code 42 = .ok (.sipush 255, 3) := by decide +kernel
theorem d40_45 : decode jdk_52_method_17_code 45 = .ok (.if_icmp .gt 16, 3) := by decide +kernel
theorem d40_48 : decode jdk_52_method_17_code 48 = .ok (.aload 5, 2) := by decide +kernel
theorem d40_50 : decode jdk_52_method_17_code 50 = .ok (.iconst 0, 1) := by decide +kernel
theorem d40_51 : decode jdk_52_method_17_code 51 = .ok (.aload_n 3, 1) := by decide +kernel
theorem d40_52 : decode jdk_52_method_17_code 52 = .ok (.iconst 0, 1) := by decide +kernel
theorem d40_53 : decode jdk_52_method_17_code 53 = .ok (.iload_n 2, 1) := by decide +kernel
theorem d40_54 : decode jdk_52_method_17_code 54 = .ok (.invokestatic 123, 3) := by decide +kernel
theorem d40_57 : decode jdk_52_method_17_code 57 = .ok (.iload_n 2, 1) := by decide +kernel
theorem d40_58 : decode jdk_52_method_17_code 58 = .ok (.if_icmp .eq 6, 3) := by decide +kernel
theorem d40_61 : decode jdk_52_method_17_code 61 = .ok (.aload 5, 2) := by decide +kernel
theorem d40_63 : decode jdk_52_method_17_code 63 = .ok (.areturn, 1) := by decide +kernel
theorem d40_64 : decode jdk_52_method_17_code 64 = .ok (.aload_n 3, 1) := by decide +kernel
theorem d40_65 : decode jdk_52_method_17_code 65 = .ok (.areturn, 1) := by decide +kernel
theorem ef_rmC3B (m : MethodId) (src : Addr) (n : Int32) : entryFrame m #[(.ref src), (.int (0 : Int32)), (.int n)] 6 = mkF m 0 #[.val (.ref src), .val (.int (0 : Int32)), .val (.int n), .unset, .unset, .unset] [] := by first | (simp [entryFrame, mkF, argsToLocals, Value.category, maxLocals]; done) | rfl
set_option maxRecDepth 65536 in
set_option maxHeartbeats 40000000 in
theorem rmC3B (l : Launch) (Z : State) (a0 : Array Value) (hw : ∀ d ∈ tables_1, d.before a0 Z = true) (ws : List Jvm.Cond) (src : Addr) (ks : ClassId) (us : List Int32) (E : Nat) (z0 : Int32) (n : Int32) (cz : Int32) (fm : Value) (h0 : Heap) (n0 : Nat) (Z0 : n0 ≤ h0.size) (V_src : OwnA Z h0 src ks .byte (bU us)) (hz0 : z0.toInt = us.length) (hn : n.toInt = E) (hE : E < us.length) (hl : us.length ≤ 4) (hus : ∀ q ∈ us, CU q) (W : OwnW Z h0 cz fm) :
    MetFree l (⟨"java/lang/StringUTF16", "compress", "([BII)[B"⟩ : MethodName) (head1 (Jvm.Cond.code (⟨"java/lang/StringUTF16", "compress", "([BII)[B"⟩ : MethodName) jdk_52_method_17_code (6 : Nat) (Option.some (Jvm.ClassFile.FieldType.array Jvm.ClassFile.FieldType.byte)) :: ws) ({ frames := 4, cells := 2, slots := 12, locals := 70 } : Room)) (fun aZ UZ => aZ = #[(.ref src), (.int (0 : Int32)), (.int n)] ∧ Z.Warmed39 UZ.vm ∧ UZ.heap = h0) (fun _ _ _ _ _ => True) (fun _ UZ oZ VZ => ∃ vZ LZ, oZ = .returned vZ ∧ (QCmp Z (us.take E) h0 n0) vZ VZ.heap LZ ∧ FrameEnd UZ oZ VZ LZ ({ frames := 4, cells := 2, slots := 12, locals := 70 } : Room).cells ({ frames := 4, cells := 2, slots := 12, locals := 70 } : Room).slots) := by
  refine MetFree.of_bodySF (plainFor_of_name pn_3) hisR ?_
  intro p e s m args below meth c s₁ Bd hml0 hP hK
  obtain ⟨rfl, hZ, hh⟩ := hP
  have hx := Bd.exec
  have hby := Bd.bytes
  have hml : c.maxLocals = 6 := hml0
  have hown : s.vm.findClass "java/lang/StringUTF16" = some m.cls := findClass_of_methodNamed Bd.named
  have hnm := (name_of_methodNamed Bd.named Bd.method).1
  have X0 : Stand p l e ({ frames := 4, cells := 2, slots := 12, locals := 70 } : Room) s m #[(.ref src), (.int (0 : Int32)), (.int n)] below meth c s₁ [] 0 0 := Stand.of_body Bd
  have e0 : s₁.heap = h0 := by rw [← hh, Bd.state]; rfl
  have N0 := Fr.nil n0
  show OwnG p e below (OwnE s (QCmp Z (us.take E) h0 n0) ({ frames := 4, cells := 2, slots := 12, locals := 70 } : Room).cells ({ frames := 4, cells := 2, slots := 12, locals := 70 } : Room).slots) _
  refine own_by (S' := s₁.setTop (mkF m 0 #[.val (.ref src), .val (.int (0 : Int32)), .val (.int n), .unset, .unset, .unset] [])) (fun tZ kZ => castTop (ef_rmC3B m src n) kZ) ?_
  refine own_by (S' := s₁.setTop (mkF m 1 #[.val (.ref src), .val (.int (0 : Int32)), .val (.int n), .unset, .unset, .unset] [(.int n)])) (fun tZ kZ => XS.iloadN X0.here hx rfl (hb hby d40_0) rfl kZ) ?_
  obtain ⟨T1, h1, k1, X1, e1, E1, A1, st1⟩ := newP X0 hx hZ (hw_ hw 26 rfl) e0 (g := (mkF m 1 #[.val (.ref src), .val (.int (0 : Int32)), .val (.int n), .unset, .unset, .unset] [(.int n)])) rfl (hb hby d40_1) rfl (own_nneg hn) (cap := 4) (by rw [own_tnc hn]; omega) (by decide) (by decide) (by decide)
  obtain ⟨b1, g1⟩ : ∃ z, z = h0.size := ⟨_, rfl⟩
  rw [← g1] at A1 st1
  have g_b1 : n0 ≤ b1 := Nat.le_trans Z0 (Nat.le_of_eq g1.symm)
  have sz_b1 : h0.size ≤ b1 := Nat.le_trans (Keep.refl h0 []).1 (Nat.le_of_eq g1.symm)
  have Zs1 : n0 ≤ h1.size := Nat.le_trans Z0 E1.1
  have K1 := (Keep.refl h0 []).ext E1
  have V_b1 := OwnA.new A1
  refine own_by (S' := T1.setTop (mkF m 3 #[.val (.ref src), .val (.int (0 : Int32)), .val (.int n), .unset, .unset, .unset] [(.ref b1)])) st1 ?_
  refine own_by (S' := T1.setTop (mkF m 4 #[.val (.ref src), .val (.int (0 : Int32)), .val (.int n), .val (.ref b1), .unset, .unset] [])) (fun tZ kZ => XS.astoreN X1.here hx rfl (hb hby d40_3) rfl rfl (l' := #[.val (.ref src), .val (.int (0 : Int32)), .val (.int n), .val (.ref b1), .unset, .unset]) rfl kZ) ?_
  refine own_by (S' := T1.setTop (mkF m 5 #[.val (.ref src), .val (.int (0 : Int32)), .val (.int n), .val (.ref b1), .unset, .unset] [(.ref src)])) (fun tZ kZ => XS.aloadN X1.here hx rfl (hb hby d40_4) rfl rfl kZ) ?_
  refine own_by (S' := T1.setTop (mkF m 6 #[.val (.ref src), .val (.int (0 : Int32)), .val (.int n), .val (.ref b1), .unset, .unset] [(.int (0 : Int32)), (.ref src)])) (fun tZ kZ => XS.iloadN X1.here hx rfl (hb hby d40_5) rfl kZ) ?_
  refine own_by (S' := T1.setTop (mkF m 7 #[.val (.ref src), .val (.int (0 : Int32)), .val (.int n), .val (.ref b1), .unset, .unset] [(.ref b1), (.int (0 : Int32)), (.ref src)])) (fun tZ kZ => XS.aloadN X1.here hx rfl (hb hby d40_6) rfl rfl kZ) ?_
  refine own_by (S' := T1.setTop (mkF m 8 #[.val (.ref src), .val (.int (0 : Int32)), .val (.int n), .val (.ref b1), .unset, .unset] [(.int (0 : Int32)), (.ref b1), (.int (0 : Int32)), (.ref src)])) (fun tZ kZ => XS.iconst X1.here hx rfl (hb hby d40_7) kZ) ?_
  refine own_by (S' := T1.setTop (mkF m 9 #[.val (.ref src), .val (.int (0 : Int32)), .val (.int n), .val (.ref b1), .unset, .unset] [(.int n), (.int (0 : Int32)), (.ref b1), (.int (0 : Int32)), (.ref src)])) (fun tZ kZ => XS.iloadN X1.here hx rfl (hb hby d40_8) rfl kZ) ?_
  have n_sb1 : src ≠ b1 := Nat.ne_of_lt (Nat.lt_of_lt_of_le V_src.lt sz_b1)
  have ExK1 := own_ext0 K1
  obtain ⟨_, _, ⟨T2, L2, k2, n2⟩, -, X2, ⟨Lc2, hQ2, l2, y2, z2⟩, st2⟩ := Jvm.LawKit.callS X1 hx (y := (⟨"java/lang/StringUTF16", "compress", "([BI[BII)I"⟩ : MethodName)) hown (mvT hZ (hw_ hw 190 rfl)) (mvT hZ (hw_ hw 191 rfl)) (mvT hZ (hw_ hw 70 rfl)) (mvT hZ (hw_ hw 192 rfl)) (by decide) (backOf (W := 0) (rmC5B l Z a0 hw [] src b1 ks k1 us E z0 n _ cz fm h1 n0 Zs1 (V_src.ext ExK1) hz0 hn (by omega) hl hus V_b1 (by rw [List.length_replicate, own_tnc hn]) n_sb1 g_b1 (W.ext ExK1)) hZ (hw_ hw 192 rfl) (hw_ hw 70 rfl) (by decide) (by decide)) (g := (mkF m 9 #[.val (.ref src), .val (.int (0 : Int32)), .val (.int n), .val (.ref b1), .unset, .unset] [(.int n), (.int (0 : Int32)), (.ref b1), (.int (0 : Int32)), (.ref src)])) rfl (by rw [hml]; rfl) (argsL := [(.ref src), (.int (0 : Int32)), (.ref b1), (.int (0 : Int32)), (.int n)]) (rest := []) (lenOf pd_23 rfl) rfl (by show 2 * 0 + _ ≤ _; exact Nat.le_of_eq rfl) (hb hby d40_9) (fun _ _ => ⟨rfl, e1, (by decide : 1 + 0 ≤ _), (by decide : 4 + 0 ≤ _)⟩)
  dsimp only [Pt.U, Pt.locs, Pt.cells, Pt.slots] at X2 l2 y2 z2 st2 hQ2
  subst l2 y2 z2
  obtain ⟨z, j, rfl, N2q, Kc2, hzj, wz, V_z, hcase⟩ := hQ2
  have N2 := Fr.app N0 N2q
  have Zs2 := Nat.le_trans Zs1 Kc2.1
  have K2 := K1.trans Kc2 (fun x hx => by
      simp only [List.mem_cons, List.not_mem_nil, or_false] at hx
      rcases hx with rfl
      · exact Or.inr sz_b1)
  refine own_by (S' := T2.setTop (mkF m 12 #[.val (.ref src), .val (.int (0 : Int32)), .val (.int n), .val (.ref b1), .unset, .unset] [(.int z)])) (fun tZ kZ => st2 _ kZ) ?_
  refine own_by (S' := T2.setTop (mkF m 14 #[.val (.ref src), .val (.int (0 : Int32)), .val (.int n), .val (.ref b1), .val (.int z), .unset] [])) (fun tZ kZ => XS.istore X2.here hx rfl (hb hby d40_12) rfl (l' := #[.val (.ref src), .val (.int (0 : Int32)), .val (.int n), .val (.ref b1), .val (.int z), .unset]) rfl kZ) ?_
  refine own_by (S' := T2.setTop (mkF m 16 #[.val (.ref src), .val (.int (0 : Int32)), .val (.int n), .val (.ref b1), .val (.int z), .unset] [(.int z)])) (fun tZ kZ => XS.iload X2.here hx rfl (hb hby d40_14) rfl kZ) ?_
  refine own_by (S' := T2.setTop (mkF m 17 #[.val (.ref src), .val (.int (0 : Int32)), .val (.int n), .val (.ref b1), .val (.int z), .unset] [(.int n), (.int z)])) (fun tZ kZ => XS.iloadN X2.here hx rfl (hb hby d40_16) rfl kZ) ?_
  by_cases dg1 : z = n
  · refine own_by (S' := T2.setTop (mkF m 64 #[.val (.ref src), .val (.int (0 : Int32)), .val (.int n), .val (.ref b1), .val (.int z), .unset] [])) (fun tZ kZ => XS.icmpYes X2.here hx rfl (pc0 := 17) (pc' := 64) rfl (hb hby d40_17) rfl (teq dg1).1 (by decide) (by decide) kZ) ?_
    have hjn : j = E := by rw [dg1] at hzj; omega
    obtain ⟨hw2, hal⟩ : wz = bL (us.take E) ∧ ∀ q ∈ (us.take E), q.toInt ≤ 255 := by
      rcases hcase with ⟨-, q1, q2⟩ | ⟨q, -⟩
      · exact ⟨q1, q2⟩
      · omega
    rw [hw2] at V_z
    refine own_by (S' := T2.setTop (mkF m 65 #[.val (.ref src), .val (.int (0 : Int32)), .val (.int n), .val (.ref b1), .val (.int z), .unset] [(.ref b1)])) (fun tZ kZ => XS.aloadN X2.here hx rfl (hb hby d40_64) rfl rfl kZ) ?_
    exact own_retA X2 hx Bd.returns rfl rfl (hb hby d40_65) Bd.notSynchronized (by decide) (by decide) ⟨b1, _, rfl, N2, K2, sz_b1, Or.inl ⟨V_z, hal⟩⟩
  · refine own_by (S' := T2.setTop (mkF m 20 #[.val (.ref src), .val (.int (0 : Int32)), .val (.int n), .val (.ref b1), .val (.int z), .unset] [])) (fun tZ kZ => XS.icmpNo X2.here hx rfl (hb hby d40_17) rfl (feq dg1).1 kZ) ?_
    obtain ⟨hjl, u, hu, hbig⟩ : j < E ∧ ∃ u, us[j]? = some u ∧ 255 < u.toInt := by
      rcases hcase with ⟨q, -⟩ | q
      · exact absurd (own_eq hzj (by rw [q]; exact hn)) dg1
      · exact q
    have hum := List.mem_of_getElem? hu
    refine own_by (S' := T2.setTop (mkF m 21 #[.val (.ref src), .val (.int (0 : Int32)), .val (.int n), .val (.ref b1), .val (.int z), .unset] [(.ref src)])) (fun tZ kZ => XS.aloadN X2.here hx rfl (hb hby d40_20) rfl rfl kZ) ?_
    refine own_by (S' := T2.setTop (mkF m 22 #[.val (.ref src), .val (.int (0 : Int32)), .val (.int n), .val (.ref b1), .val (.int z), .unset] [(.int (0 : Int32)), (.ref src)])) (fun tZ kZ => XS.iloadN X2.here hx rfl (hb hby d40_21) rfl kZ) ?_
    refine own_by (S' := T2.setTop (mkF m 23 #[.val (.ref src), .val (.int (0 : Int32)), .val (.int n), .val (.ref b1), .val (.int z), .unset] [(.int (1 : Int32)), (.int (0 : Int32)), (.ref src)])) (fun tZ kZ => XS.iconst X2.here hx rfl (hb hby d40_22) kZ) ?_
    refine own_by (S' := T2.setTop (mkF m 24 #[.val (.ref src), .val (.int (0 : Int32)), .val (.int n), .val (.ref b1), .val (.int z), .unset] [(.int ((0 : Int32) <<< ((1 : Int32) &&& 31))), (.ref src)])) (fun tZ kZ => XS.ishl X2.here hx rfl (hb hby d40_23) rfl kZ) ?_
    rw [show ((0 : Int32) <<< ((1 : Int32) &&& 31)) = 0 from by decide]
    refine own_by (S' := T2.setTop (mkF m 25 #[.val (.ref src), .val (.int (0 : Int32)), .val (.int n), .val (.ref b1), .val (.int z), .unset] [(.int (0 : Int32)), (.int (0 : Int32)), (.ref src)])) (fun tZ kZ => XS.iloadN X2.here hx rfl (hb hby d40_24) rfl kZ) ?_
    refine own_by (S' := T2.setTop (mkF m 26 #[.val (.ref src), .val (.int (0 : Int32)), .val (.int n), .val (.ref b1), .val (.int z), .unset] [(.int n), (.int (0 : Int32)), (.int (0 : Int32)), (.ref src)])) (fun tZ kZ => XS.iloadN X2.here hx rfl (hb hby d40_25) rfl kZ) ?_
    refine own_by (S' := T2.setTop (mkF m 27 #[.val (.ref src), .val (.int (0 : Int32)), .val (.int n), .val (.ref b1), .val (.int z), .unset] [(.int ((0 : Int32) + n)), (.int (0 : Int32)), (.ref src)])) (fun tZ kZ => XS.iadd X2.here hx rfl (hb hby d40_26) rfl kZ) ?_
    rw [own_0add]
    obtain ⟨_, _, ⟨T3, L3, k3, n3⟩, -, X3, ⟨Lc3, hQ3, l3, y3, z3⟩, st3⟩ := Jvm.LawKit.callS X2 hx (y := (⟨"java/lang/StringUTF16", "newBytesLength", "(I)I"⟩ : MethodName)) hown (mvT hZ (hw_ hw 81 rfl)) (mvT hZ (hw_ hw 82 rfl)) (mvT hZ (hw_ hw 70 rfl)) (mvT hZ (hw_ hw 83 rfl)) (by decide) (backOf (W := 2) (rmNBL l Z a0 hw [] n E T2.heap n0 Zs2 hn (by omega)) hZ (hw_ hw 83 rfl) (hw_ hw 70 rfl) (by decide) (by decide)) (g := (mkF m 27 #[.val (.ref src), .val (.int (0 : Int32)), .val (.int n), .val (.ref b1), .val (.int z), .unset] [(.int n), (.int (0 : Int32)), (.ref src)])) rfl (by rw [hml]; rfl) (argsL := [(.int n)]) (rest := [(.int (0 : Int32)), (.ref src)]) (lenOf pd_15 rfl) rfl (by show 2 * 0 + _ ≤ _; exact Nat.le_of_eq rfl) (hb hby d40_27) (fun _ _ => ⟨rfl, rfl, (by decide : 1 + 0 ≤ _), (by decide : 4 + 0 ≤ _)⟩)
    dsimp only [Pt.U, Pt.locs, Pt.cells, Pt.slots] at X3 l3 y3 z3 st3 hQ3
    subst l3 y3 z3
    obtain ⟨zw, rfl, hzw, N3q, heq3⟩ := hQ3
    have N3 := Fr.app N2 N3q
    refine own_by (S' := T3.setTop (mkF m 30 #[.val (.ref src), .val (.int (0 : Int32)), .val (.int n), .val (.ref b1), .val (.int z), .unset] [(.int zw), (.int (0 : Int32)), (.ref src)])) (fun tZ kZ => st3 _ kZ) ?_
    obtain ⟨zb, hzb⟩ := own_int (bU us).length (by rw [bU_len]; omega)
    have ExK2 := own_ext0 K2
    obtain ⟨_, _, ⟨T4, L4, k4, n4⟩, -, X4, ⟨Lc4, hQ4, l4, y4, z4⟩, st4⟩ := Jvm.LawKit.callS X3 hx (y := (⟨"java/util/Arrays", "copyOfRange", "([BII)[B"⟩ : MethodName)) hown (mvT hZ (hw_ hw 202 rfl)) (mvT hZ (hw_ hw 203 rfl)) (mvT hZ (hw_ hw 204 rfl)) (mvT hZ (hw_ hw 205 rfl)) (by decide) (backOf (W := 0) (rmCr l Z a0 hw [] src ks (bU us) zw zb (2 * E) T2.heap n0 Zs2 (V_src.ext ExK2) (bU_fit us) hzw hzb (by rw [bU_len]; omega) (by rw [bU_len]; omega)) hZ (hw_ hw 205 rfl) (hw_ hw 204 rfl) (by decide) (by decide)) (g := (mkF m 30 #[.val (.ref src), .val (.int (0 : Int32)), .val (.int n), .val (.ref b1), .val (.int z), .unset] [(.int zw), (.int (0 : Int32)), (.ref src)])) rfl (by rw [hml]; rfl) (argsL := [(.ref src), (.int (0 : Int32)), (.int zw)]) (rest := []) (lenOf pd_20 rfl) rfl (by show 2 * 0 + _ ≤ _; exact Nat.le_of_eq rfl) (hb hby d40_30) (fun _ _ => ⟨rfl, heq3, (by decide : 1 + 1 ≤ _), (by decide : 4 + 8 ≤ _)⟩)
    dsimp only [Pt.U, Pt.locs, Pt.cells, Pt.slots] at X4 l4 y4 z4 st4 hQ4
    subst l4 y4 z4
    obtain ⟨bq, kq, rfl, N4q, Kc4, szq, Vq⟩ := hQ4
    have N4 := Fr.app N3 N4q
    have Zs4 := Nat.le_trans Zs2 Kc4.1
    have Ec4 := own_ext0 Kc4
    have K4 := K2.ext Ec4
    refine own_by (S' := T4.setTop (mkF m 33 #[.val (.ref src), .val (.int (0 : Int32)), .val (.int n), .val (.ref b1), .val (.int z), .unset] [(.ref bq)])) (fun tZ kZ => st4 _ kZ) ?_
    rw [bU_take] at Vq
    refine own_by (S' := T4.setTop (mkF m 35 #[.val (.ref src), .val (.int (0 : Int32)), .val (.int n), .val (.ref b1), .val (.int z), .val (.ref bq)] [])) (fun tZ kZ => XS.astore X4.here hx rfl (hb hby d40_33) rfl rfl (l' := #[.val (.ref src), .val (.int (0 : Int32)), .val (.int n), .val (.ref b1), .val (.int z), .val (.ref bq)]) rfl kZ) ?_
    refine own_by (S' := T4.setTop (mkF m 37 #[.val (.ref src), .val (.int (0 : Int32)), .val (.int n), .val (.ref b1), .val (.int z), .val (.ref bq)] [(.ref bq)])) (fun tZ kZ => XS.aload X4.here hx rfl (hb hby d40_35) rfl rfl kZ) ?_
    refine own_by (S' := T4.setTop (mkF m 39 #[.val (.ref src), .val (.int (0 : Int32)), .val (.int n), .val (.ref b1), .val (.int z), .val (.ref bq)] [(.int z), (.ref bq)])) (fun tZ kZ => XS.iload X4.here hx rfl (hb hby d40_37) rfl kZ) ?_
    have ExK4 := own_ext0 K4
    obtain ⟨_, _, ⟨T5, L5, k5, n5⟩, -, X5, ⟨Lc5, hQ5, l5, y5, z5⟩, st5⟩ := Jvm.LawKit.callS X4 hx (y := (⟨"java/lang/StringUTF16", "getChar", "([BI)C"⟩ : MethodName)) hown (mvT hZ (hw_ hw 91 rfl)) (mvT hZ (hw_ hw 92 rfl)) (mvT hZ (hw_ hw 70 rfl)) (mvT hZ (hw_ hw 93 rfl)) (by decide) (backOf (W := 0) (rmGet l Z a0 hw [] bq kq (us.take E) z j u cz fm T4.heap n0 Zs4 Vq (by rw [List.length_take]; omega) hzj (by rw [List.getElem?_take, if_pos hjl]; exact hu) (hus _ hum) (W.ext ExK4)) hZ (hw_ hw 93 rfl) (hw_ hw 70 rfl) (by decide) (by decide)) (g := (mkF m 39 #[.val (.ref src), .val (.int (0 : Int32)), .val (.int n), .val (.ref b1), .val (.int z), .val (.ref bq)] [(.int z), (.ref bq)])) rfl (by rw [hml]; rfl) (argsL := [(.ref bq), (.int z)]) (rest := []) (lenOf pd_6 rfl) rfl (by show 2 * 0 + _ ≤ _; exact Nat.le_of_eq rfl) (hb hby d40_39) (fun _ _ => ⟨rfl, rfl, (by decide : 2 + 0 ≤ _), (by decide : 12 + 0 ≤ _)⟩)
    dsimp only [Pt.U, Pt.locs, Pt.cells, Pt.slots] at X5 l5 y5 z5 st5 hQ5
    subst l5 y5 z5
    obtain ⟨rfl, N5q, heq5⟩ := hQ5
    have N5 := Fr.app N4 N5q
    refine own_by (S' := T5.setTop (mkF m 42 #[.val (.ref src), .val (.int (0 : Int32)), .val (.int n), .val (.ref b1), .val (.int z), .val (.ref bq)] [(.int u)])) (fun tZ kZ => st5 _ kZ) ?_
    refine own_by (S' := T5.setTop (mkF m 45 #[.val (.ref src), .val (.int (0 : Int32)), .val (.int n), .val (.ref b1), .val (.int z), .val (.ref bq)] [(.int (255 : Int32)), (.int u)])) (fun tZ kZ => XS.sipush X5.here hx rfl (hb hby d40_42) kZ) ?_
    refine own_by (S' := T5.setTop (mkF m 61 #[.val (.ref src), .val (.int (0 : Int32)), .val (.int n), .val (.ref b1), .val (.int z), .val (.ref bq)] [])) (fun tZ kZ => XS.icmpYes X5.here hx rfl (pc0 := 45) (pc' := 61) rfl (hb hby d40_45) rfl (tlt (own_big.mp hbig)).2.2.1 (by decide) (by decide) kZ) ?_
    refine own_by (S' := T5.setTop (mkF m 63 #[.val (.ref src), .val (.int (0 : Int32)), .val (.int n), .val (.ref b1), .val (.int z), .val (.ref bq)] [(.ref bq)])) (fun tZ kZ => XS.aload X5.here hx rfl (hb hby d40_61) rfl rfl kZ) ?_
    exact own_retA X5 hx Bd.returns rfl rfl (hb hby d40_63) Bd.notSynchronized (by decide) (by decide) (show QCmp Z (us.take E) h0 n0 _ T5.heap _ from by rw [heq5]; exact ⟨bq, kq, rfl, N5, K4, Nat.le_trans K2.1 szq, Or.inr Vq⟩)
theorem d20_0 : decode jdk_52_method_15_code 0 = .ok (.iload_n 1, 1) := by decide +kernel
theorem d20_1 : decode jdk_52_method_15_code 1 = .ok (.aload_n 0, 1) := by decide +kernel
theorem d20_2 : decode jdk_52_method_15_code 2 = .ok (.arraylength, 1) := by decide +kernel
theorem d20_3 : decode jdk_52_method_15_code 3 = .ok (.isub, 1) := by decide +kernel
theorem d20_4 : decode jdk_52_method_15_code 4 = .ok (.bipush 31, 2) := by decide +kernel
theorem d20_6 : decode jdk_52_method_15_code 6 = .ok (.iushr, 1) := by decide +kernel
theorem d20_7 : decode jdk_52_method_15_code 7 = .ok (.i2b, 1) := by decide +kernel
theorem d20_8 : decode jdk_52_method_15_code 8 = .ok (.ireturn, 1) := by decide +kernel
theorem ef_rmCfl (m : MethodId) (d : Addr) (n : Int32) : entryFrame m #[(.ref d), (.int n)] 2 = mkF m 0 #[.val (.ref d), .val (.int n)] [] := by first | (simp [entryFrame, mkF, argsToLocals, Value.category, maxLocals]; done) | rfl
set_option maxRecDepth 65536 in
set_option maxHeartbeats 40000000 in
theorem rmCfl (l : Launch) (Z : State) (a0 : Array Value) (hw : ∀ d ∈ tables_1, d.before a0 Z = true) (ws : List Jvm.Cond) (d : Addr) (kd : ClassId) (vs : List Value) (n zl rc : Int32) (h0 : Heap) (n0 : Nat) (Z0 : n0 ≤ h0.size) (V_d : OwnA Z h0 d kd .byte vs) (hz : vs.length = zl.toNatClampNeg) (nz : ¬ zl < 0) (hr : ((((n - zl).toUInt32 >>> ((31 : Int32) &&& 31).toUInt32).toInt32).toInt8.toInt32) = rc) (hnr : narrow .byte (.int rc) = .int rc) :
    MetFree l (⟨"java/lang/StringUTF16", "coderFromArrayLen", "([BI)B"⟩ : MethodName) (head1 (Jvm.Cond.code (⟨"java/lang/StringUTF16", "coderFromArrayLen", "([BI)B"⟩ : MethodName) jdk_52_method_15_code (2 : Nat) (Option.some Jvm.ClassFile.FieldType.byte) :: ws) ({ frames := 0, cells := 0, slots := 0, locals := 0 } : Room)) (fun aZ UZ => aZ = #[(.ref d), (.int n)] ∧ Z.Warmed39 UZ.vm ∧ UZ.heap = h0) (fun _ _ _ _ _ => True) (fun _ UZ oZ VZ => ∃ vZ LZ, oZ = .returned vZ ∧ (QSame (some (.int rc)) h0 n0) vZ VZ.heap LZ ∧ FrameEnd UZ oZ VZ LZ ({ frames := 0, cells := 0, slots := 0, locals := 0 } : Room).cells ({ frames := 0, cells := 0, slots := 0, locals := 0 } : Room).slots) := by
  refine MetFree.of_bodySF (plainFor_of_name pn_3) hisR ?_
  intro p e s m args below meth c s₁ Bd hml0 hP hK
  obtain ⟨rfl, hZ, hh⟩ := hP
  have hx := Bd.exec
  have hby := Bd.bytes
  have hml : c.maxLocals = 2 := hml0
  have hown : s.vm.findClass "java/lang/StringUTF16" = some m.cls := findClass_of_methodNamed Bd.named
  have hnm := (name_of_methodNamed Bd.named Bd.method).1
  have X0 : Stand p l e ({ frames := 0, cells := 0, slots := 0, locals := 0 } : Room) s m #[(.ref d), (.int n)] below meth c s₁ [] 0 0 := Stand.of_body Bd
  have e0 : s₁.heap = h0 := by rw [← hh, Bd.state]; rfl
  have N0 := Fr.nil n0
  show OwnG p e below (OwnE s (QSame (some (.int rc)) h0 n0) ({ frames := 0, cells := 0, slots := 0, locals := 0 } : Room).cells ({ frames := 0, cells := 0, slots := 0, locals := 0 } : Room).slots) _
  refine own_by (S' := s₁.setTop (mkF m 0 #[.val (.ref d), .val (.int n)] [])) (fun tZ kZ => castTop (ef_rmCfl m d n) kZ) ?_
  refine own_by (S' := s₁.setTop (mkF m 1 #[.val (.ref d), .val (.int n)] [(.int n)])) (fun tZ kZ => XS.iloadN X0.here hx rfl (hb hby d20_0) rfl kZ) ?_
  refine own_by (S' := s₁.setTop (mkF m 2 #[.val (.ref d), .val (.int n)] [(.ref d), (.int n)])) (fun tZ kZ => XS.aloadN X0.here hx rfl (hb hby d20_1) rfl rfl kZ) ?_
  obtain ⟨cc1, Ar1, hc1, hl1⟩ := id V_d
  refine own_by (S' := s₁.setTop (mkF m 3 #[.val (.ref d), .val (.int n)] [(.int zl), (.int n)])) (fun tZ kZ => X0.arraylength hx (by rw [e0]; exact Ar1.1) (State.isArrayOf_alike hZ.alike Ar1.2.1) (g := (mkF m 2 #[.val (.ref d), .val (.int n)] [(.ref d), (.int n)])) rfl rfl (hb hby d20_2) _ (by rw [len_of (OwnA.size (z := zl) hl1 hz) nz]; exact kZ)) ?_
  refine own_by (S' := s₁.setTop (mkF m 4 #[.val (.ref d), .val (.int n)] [(.int (n - zl))])) (fun tZ kZ => XS.isub X0.here hx rfl (hb hby d20_3) rfl kZ) ?_
  refine own_by (S' := s₁.setTop (mkF m 6 #[.val (.ref d), .val (.int n)] [(.int (31 : Int32)), (.int (n - zl))])) (fun tZ kZ => XS.bipush X0.here hx rfl (hb hby d20_4) kZ) ?_
  refine own_by (S' := s₁.setTop (mkF m 7 #[.val (.ref d), .val (.int n)] [(.int (((n - zl).toUInt32 >>> ((31 : Int32) &&& 31).toUInt32).toInt32))])) (fun tZ kZ => XS.iushr X0.here hx rfl (hb hby d20_6) rfl kZ) ?_
  refine own_by (S' := s₁.setTop (mkF m 8 #[.val (.ref d), .val (.int n)] [(.int ((((n - zl).toUInt32 >>> ((31 : Int32) &&& 31).toUInt32).toInt32).toInt8.toInt32))])) (fun tZ kZ => XS.i2b X0.here hx rfl (hb hby d20_7) rfl kZ) ?_
  rw [hr]
  exact own_retI X0 hx (t := .byte) Bd.returns (by simp) hnr (hb hby d20_8) Bd.notSynchronized (by decide) (by decide) ⟨rfl, N0, e0⟩
theorem d4_0 : decode jdk_42_method_149_code 0 = .ok (.aload_n 0, 1) := by decide +kernel
theorem d4_1 : decode jdk_42_method_149_code 1 = .ok (.invokespecial 1, 3) := by decide +kernel
theorem d4_4 : decode jdk_42_method_149_code 4 = .ok (.iload_n 3, 1) := by decide +kernel
theorem d4_5 : decode jdk_42_method_149_code 5 = .ok (.ifCond .ne 22, 3) := by decide +kernel
theorem d4_8 : decode jdk_42_method_149_code 8 = .ok (.aload_n 0, 1) := by decide +kernel
theorem d4_9 : decode jdk_42_method_149_code 9 = .ok (.ldc 7, 2) := by decide +kernel
theorem d4_11 : decode jdk_42_method_149_code 11 = .ok (.getfield 9, 3) := by decide +kernel
theorem d4_14 : decode jdk_42_method_149_code 14 = .ok (.putfield 9, 3) := by decide +kernel
theorem d4_17 : decode jdk_42_method_149_code 17 = .ok (.aload_n 0, 1) := by decide +kernel
theorem d4_18 : decode jdk_42_method_149_code 18 = .ok (.ldc 7, 2) := by decide +kernel
theorem d4_20 : decode jdk_42_method_149_code 20 = .ok (.getfield 15, 3) := by decide +kernel
theorem d4_23 : decode jdk_42_method_149_code 23 = .ok (.putfield 15, 3) := by decide +kernel
theorem d4_26 : decode jdk_42_method_149_code 26 = .ok (.return_, 1) := by decide +kernel
theorem d4_27 : decode jdk_42_method_149_code 27 = .ok (.getstatic 38, 3) := by decide +kernel
theorem d4_30 : decode jdk_42_method_149_code 30 = .ok (.ifCond .eq 28, 3) := by decide +kernel
theorem d4_33 : decode jdk_42_method_149_code 33 = .ok (.aload_n 1, 1) := by decide +kernel
theorem d4_34 : decode jdk_42_method_149_code 34 = .ok (.iload_n 2, 1) := by decide +kernel
theorem d4_35 : decode jdk_42_method_149_code 35 = .ok (.iload_n 3, 1) := by decide +kernel
theorem d4_36 : decode jdk_42_method_149_code 36 = .ok (.invokestatic 177, 3) := by decide +kernel
theorem d4_39 : decode jdk_42_method_149_code 39 = .ok (.astore 5, 2) := by decide +kernel
theorem d4_41 : decode jdk_42_method_149_code 41 = .ok (.aload_n 0, 1) := by decide +kernel
theorem d4_42 : decode jdk_42_method_149_code 42 = .ok (.aload 5, 2) := by decide +kernel
theorem d4_44 : decode jdk_42_method_149_code 44 = .ok (.iload_n 3, 1) := by decide +kernel
theorem d4_45 : decode jdk_42_method_149_code 45 = .ok (.invokestatic 47, 3) := by decide +kernel
theorem d4_48 : decode jdk_42_method_149_code 48 = .ok (.putfield 15, 3) := by decide +kernel
theorem d4_51 : decode jdk_42_method_149_code 51 = .ok (.aload_n 0, 1) := by decide +kernel
theorem d4_52 : decode jdk_42_method_149_code 52 = .ok (.aload 5, 2) := by decide +kernel
theorem d4_54 : decode jdk_42_method_149_code 54 = .ok (.putfield 9, 3) := by decide +kernel
theorem d4_57 : decode jdk_42_method_149_code 57 = .ok (.return_, 1) := by decide +kernel
theorem d4_58 : decode jdk_42_method_149_code 58 = .ok (.aload_n 0, 1) := by decide +kernel
theorem d4_59 : decode jdk_42_method_149_code 59 = .ok (.iconst 1, 1) := by decide +kernel
theorem d4_60 : decode jdk_42_method_149_code 60 = .ok (.putfield 15, 3) := by decide +kernel
theorem d4_63 : decode jdk_42_method_149_code 63 = .ok (.aload_n 0, 1) := by decide +kernel
theorem d4_64 : decode jdk_42_method_149_code 64 = .ok (.aload_n 1, 1) := by decide +kernel
theorem d4_65 : decode jdk_42_method_149_code 65 = .ok (.iload_n 2, 1) := by decide +kernel
theorem d4_66 : decode jdk_42_method_149_code 66 = .ok (.iload_n 3, 1) := by decide +kernel
theorem d4_67 : decode jdk_42_method_149_code 67 = .ok (.invokestatic 180, 3) := by decide +kernel
theorem d4_70 : decode jdk_42_method_149_code 70 = .ok (.putfield 9, 3) := by decide +kernel
theorem d4_73 : decode jdk_42_method_149_code 73 = .ok (.return_, 1) := by decide +kernel
theorem ef_rmSI4 (m : MethodId) (x : Addr) (src : Addr) (n : Int32) : entryFrame m #[(.ref x), (.ref src), (.int (0 : Int32)), (.int n), .null] 6 = mkF m 0 #[.val (.ref x), .val (.ref src), .val (.int (0 : Int32)), .val (.int n), .val .null, .unset] [] := by first | (simp [entryFrame, mkF, argsToLocals, Value.category, maxLocals]; done) | rfl
set_option maxRecDepth 65536 in
set_option maxHeartbeats 40000000 in
theorem rmSI4 (l : Launch) (Z : State) (a0 : Array Value) (hw : ∀ d ∈ tables_1, d.before a0 Z = true) (ws : List Jvm.Cond) (x : Addr) (src : Addr) (ks : ClassId) (us : List Int32) (n : Int32) (cz : Int32) (fm : Value) (h0 : Heap) (n0 : Nat) (Z0 : n0 ≤ h0.size) (V_src : OwnA Z h0 src ks .char (cV us)) (hn : n.toInt = us.length) (hl : us.length ≤ 4) (hus : ∀ q ∈ us, CU q) (h1l : 1 ≤ us.length) (W : OwnW Z h0 cz fm) (Ex_x : Exa Z h0 x "java/lang/String") (F_value_x : Fld Z h0 x "java/lang/String" "value" "[B" .null) (F_coder_x : Fld Z h0 x "java/lang/String" "coder" "B" (.int 0)) (g_x : n0 ≤ x) :
    MetFree l (⟨"java/lang/String", "<init>", "([CIILjava/lang/Void;)V"⟩ : MethodName) (head1 (Jvm.Cond.code (⟨"java/lang/String", "<init>", "([CIILjava/lang/Void;)V"⟩ : MethodName) jdk_42_method_149_code (6 : Nat) (Option.none : Option Jvm.ClassFile.FieldType) :: ws) ({ frames := 4, cells := 2, slots := 12, locals := 57 } : Room)) (fun aZ UZ => aZ = #[(.ref x), (.ref src), (.int (0 : Int32)), (.int n), .null] ∧ Z.Warmed39 UZ.vm ∧ UZ.heap = h0) (fun _ _ _ _ _ => True) (fun _ UZ oZ VZ => ∃ vZ LZ, oZ = .returned vZ ∧ (QIni Z x us h0 n0) vZ VZ.heap LZ ∧ FrameEnd UZ oZ VZ LZ ({ frames := 4, cells := 2, slots := 12, locals := 57 } : Room).cells ({ frames := 4, cells := 2, slots := 12, locals := 57 } : Room).slots) := by
  refine MetFree.of_bodySF (plainFor_of_name pn_1) hisR ?_
  intro p e s m args below meth c s₁ Bd hml0 hP hK
  obtain ⟨rfl, hZ, hh⟩ := hP
  have hx := Bd.exec
  have hby := Bd.bytes
  have hml : c.maxLocals = 6 := hml0
  have hown : s.vm.findClass "java/lang/String" = some m.cls := findClass_of_methodNamed Bd.named
  have hnm := (name_of_methodNamed Bd.named Bd.method).1
  have X0 : Stand p l e ({ frames := 4, cells := 2, slots := 12, locals := 57 } : Room) s m #[(.ref x), (.ref src), (.int (0 : Int32)), (.int n), .null] below meth c s₁ [] 0 0 := Stand.of_body Bd
  have e0 : s₁.heap = h0 := by rw [← hh, Bd.state]; rfl
  have N0 := Fr.nil n0
  show OwnG p e below (OwnE s (QIni Z x us h0 n0) ({ frames := 4, cells := 2, slots := 12, locals := 57 } : Room).cells ({ frames := 4, cells := 2, slots := 12, locals := 57 } : Room).slots) _
  refine own_by (S' := s₁.setTop (mkF m 0 #[.val (.ref x), .val (.ref src), .val (.int (0 : Int32)), .val (.int n), .val .null, .unset] [])) (fun tZ kZ => castTop (ef_rmSI4 m x src n) kZ) ?_
  obtain ⟨Sc, hcz, Sf, rf, Sa, Shi, Slo⟩ := id W
  refine own_by (S' := s₁.setTop (mkF m 1 #[.val (.ref x), .val (.ref src), .val (.int (0 : Int32)), .val (.int n), .val .null, .unset] [(.ref x)])) (fun tZ kZ => XS.aloadN X0.here hx rfl (hb hby d4_0) rfl rfl kZ) ?_
  obtain ⟨T1, X1, e1, st1⟩ := initO X0 hx hZ hown (hw_ hw 22 rfl) (hw_ hw 23 rfl) (hw_ hw 24 rfl) e0 (g := (mkF m 1 #[.val (.ref x), .val (.ref src), .val (.int (0 : Int32)), .val (.int n), .val .null, .unset] [(.ref x)])) rfl (by rw [hml]; rfl) rfl (hb hby d4_1) (by decide) (W := 0) (by show 2 * 0 + _ ≤ _; exact Nat.le_of_eq rfl) (by decide)
  refine own_by (S' := T1.setTop (mkF m 4 #[.val (.ref x), .val (.ref src), .val (.int (0 : Int32)), .val (.int n), .val .null, .unset] [])) st1 ?_
  refine own_by (S' := T1.setTop (mkF m 5 #[.val (.ref x), .val (.ref src), .val (.int (0 : Int32)), .val (.int n), .val .null, .unset] [(.int n)])) (fun tZ kZ => XS.iloadN X1.here hx rfl (hb hby d4_4) rfl kZ) ?_
  refine own_by (S' := T1.setTop (mkF m 27 #[.val (.ref x), .val (.ref src), .val (.int (0 : Int32)), .val (.int n), .val .null, .unset] [])) (fun tZ kZ => XS.ifYes X1.here hx rfl (pc0 := 5) (pc' := 27) rfl (hb hby d4_5) rfl ((if0 _ _).trans (feq (own_neq (b := 0) hn rfl (by omega))).2) (by decide) (by decide) kZ) ?_
  obtain ⟨T2, X2, e2, st2⟩ := getS2 X1 hx hZ hown (host := "") (Or.inl (hw_ hw 47 rfl)) Via.refl e1 Sc (g := (mkF m 27 #[.val (.ref x), .val (.ref src), .val (.int (0 : Int32)), .val (.int n), .val .null, .unset] [])) rfl (hb hby d4_27)
  refine own_by (S' := T2.setTop (mkF m 30 #[.val (.ref x), .val (.ref src), .val (.int (0 : Int32)), .val (.int n), .val .null, .unset] [(.int cz)])) st2 ?_
  refine own_by (S' := T2.setTop (mkF m 33 #[.val (.ref x), .val (.ref src), .val (.int (0 : Int32)), .val (.int n), .val .null, .unset] [])) (fun tZ kZ => XS.ifNo X2.here hx rfl (hb hby d4_30) rfl ((if0 _ _).trans (feq hcz).1) kZ) ?_
  refine own_by (S' := T2.setTop (mkF m 34 #[.val (.ref x), .val (.ref src), .val (.int (0 : Int32)), .val (.int n), .val .null, .unset] [(.ref src)])) (fun tZ kZ => XS.aloadN X2.here hx rfl (hb hby d4_33) rfl rfl kZ) ?_
  refine own_by (S' := T2.setTop (mkF m 35 #[.val (.ref x), .val (.ref src), .val (.int (0 : Int32)), .val (.int n), .val .null, .unset] [(.int (0 : Int32)), (.ref src)])) (fun tZ kZ => XS.iloadN X2.here hx rfl (hb hby d4_34) rfl kZ) ?_
  refine own_by (S' := T2.setTop (mkF m 36 #[.val (.ref x), .val (.ref src), .val (.int (0 : Int32)), .val (.int n), .val .null, .unset] [(.int n), (.int (0 : Int32)), (.ref src)])) (fun tZ kZ => XS.iloadN X2.here hx rfl (hb hby d4_35) rfl kZ) ?_
  obtain ⟨_, _, ⟨T3, L3, k3, n3⟩, -, X3, ⟨Lc3, hQ3, l3, y3, z3⟩, st3⟩ := Jvm.LawKit.callS X2 hx (y := (⟨"java/lang/StringUTF16", "compress", "([CII)[B"⟩ : MethodName)) hown (mvT hZ (hw_ hw 68 rfl)) (mvT hZ (hw_ hw 69 rfl)) (mvT hZ (hw_ hw 70 rfl)) (mvT hZ (hw_ hw 71 rfl)) (by decide) (backOf (W := 0) (rmC3C l Z a0 hw [] src ks us n cz fm h0 n0 Z0 V_src hn hl hus W) hZ (hw_ hw 71 rfl) (hw_ hw 70 rfl) (by decide) (by decide)) (g := (mkF m 36 #[.val (.ref x), .val (.ref src), .val (.int (0 : Int32)), .val (.int n), .val .null, .unset] [(.int n), (.int (0 : Int32)), (.ref src)])) rfl (by rw [hml]; rfl) (argsL := [(.ref src), (.int (0 : Int32)), (.int n)]) (rest := []) (lenOf pd_22 rfl) rfl (by show 2 * 0 + _ ≤ _; exact Nat.le_of_eq rfl) (hb hby d4_36) (fun _ _ => ⟨rfl, e2, (by decide : 0 + 2 ≤ _), (by decide : 0 + 12 ≤ _)⟩)
  dsimp only [Pt.U, Pt.locs, Pt.cells, Pt.slots] at X3 l3 y3 z3 st3 hQ3
  subst l3 y3 z3
  obtain ⟨d, kd, rfl, N3q, Kc3, szd, hdc⟩ := hQ3
  have N3 := Fr.app N0 N3q
  have Zs3 := Nat.le_trans Z0 Kc3.1
  have Ec3 := own_ext0 Kc3
  have K3 := (Keep.refl h0 [x]).ext Ec3
  have Ex_x_3 := Ex_x.ext Ec3
  have F_value_x_3 := F_value_x.ext Ec3
  have F_coder_x_3 := F_coder_x.ext Ec3
  refine own_by (S' := T3.setTop (mkF m 39 #[.val (.ref x), .val (.ref src), .val (.int (0 : Int32)), .val (.int n), .val .null, .unset] [(.ref d)])) (fun tZ kZ => st3 _ kZ) ?_
  refine own_by (S' := T3.setTop (mkF m 41 #[.val (.ref x), .val (.ref src), .val (.int (0 : Int32)), .val (.int n), .val .null, .val (.ref d)] [])) (fun tZ kZ => XS.astore X3.here hx rfl (hb hby d4_39) rfl rfl (l' := #[.val (.ref x), .val (.ref src), .val (.int (0 : Int32)), .val (.int n), .val .null, .val (.ref d)]) rfl kZ) ?_
  refine own_by (S' := T3.setTop (mkF m 42 #[.val (.ref x), .val (.ref src), .val (.int (0 : Int32)), .val (.int n), .val .null, .val (.ref d)] [(.ref x)])) (fun tZ kZ => XS.aloadN X3.here hx rfl (hb hby d4_41) rfl rfl kZ) ?_
  refine own_by (S' := T3.setTop (mkF m 44 #[.val (.ref x), .val (.ref src), .val (.int (0 : Int32)), .val (.int n), .val .null, .val (.ref d)] [(.ref d), (.ref x)])) (fun tZ kZ => XS.aload X3.here hx rfl (hb hby d4_42) rfl rfl kZ) ?_
  refine own_by (S' := T3.setTop (mkF m 45 #[.val (.ref x), .val (.ref src), .val (.int (0 : Int32)), .val (.int n), .val .null, .val (.ref d)] [(.int n), (.ref d), (.ref x)])) (fun tZ kZ => XS.iloadN X3.here hx rfl (hb hby d4_44) rfl kZ) ?_
  have n_dx : d ≠ x := Nat.ne_of_gt (Nat.lt_of_lt_of_le Ex_x.lt szd)
  rcases hdc with ⟨V_d, hal⟩ | V_d
  · obtain ⟨_, _, ⟨T4, L4, k4, n4⟩, -, X4, ⟨Lc4, hQ4, l4, y4, z4⟩, st4⟩ := Jvm.LawKit.callS X3 hx (y := (⟨"java/lang/StringUTF16", "coderFromArrayLen", "([BI)B"⟩ : MethodName)) hown (mvT hZ (hw_ hw 94 rfl)) (mvT hZ (hw_ hw 95 rfl)) (mvT hZ (hw_ hw 70 rfl)) (mvT hZ (hw_ hw 96 rfl)) (by decide) (backOf (W := 1) (rmCfl l Z a0 hw [] d kd (bL us) n n 0 T3.heap n0 Zs3 V_d (by rw [bL_len, own_tnc hn]) (own_nneg hn) (own_cf0 _) rfl) hZ (hw_ hw 96 rfl) (hw_ hw 70 rfl) (by decide) (by decide)) (g := (mkF m 45 #[.val (.ref x), .val (.ref src), .val (.int (0 : Int32)), .val (.int n), .val .null, .val (.ref d)] [(.int n), (.ref d), (.ref x)])) rfl (by rw [hml]; rfl) (argsL := [(.ref d), (.int n)]) (rest := [(.ref x)]) (lenOf pd_24 rfl) rfl (by show 2 * 0 + _ ≤ _; exact Nat.le_of_eq rfl) (hb hby d4_45) (fun _ _ => ⟨rfl, rfl, (by decide : 2 + 0 ≤ _), (by decide : 12 + 0 ≤ _)⟩)
    dsimp only [Pt.U, Pt.locs, Pt.cells, Pt.slots] at X4 l4 y4 z4 st4 hQ4
    subst l4 y4 z4
    obtain ⟨rfl, N4q, heq4⟩ := hQ4
    have N4 := Fr.app N3 N4q
    refine own_by (S' := T4.setTop (mkF m 48 #[.val (.ref x), .val (.ref src), .val (.int (0 : Int32)), .val (.int n), .val .null, .val (.ref d)] [(.int (0 : Int32)), (.ref x)])) (fun tZ kZ => st4 _ kZ) ?_
    obtain ⟨T5, h5, X5, e5, W5, st5⟩ := putFN X4 hx hZ hown (hw_ hw 32 rfl) Via.refl heq4 F_coder_x_3 Ex_x_3 (Or.inr ⟨(hw_ hw 28 rfl), rfl, hnm⟩) (hw_ hw 13 rfl) (ty := .byte) (v' := (.int (0 : Int32))) (by decide) rfl rfl (g := (mkF m 48 #[.val (.ref x), .val (.ref src), .val (.int (0 : Int32)), .val (.int n), .val .null, .val (.ref d)] [(.int (0 : Int32)), (.ref x)])) rfl rfl (hb hby d4_48)
    have N5 := Fr.snoc X5 N4 g_x
    have Ex_x_5 := Ex_x_3.wr W5
    have F_value_x_5 := F_value_x_3.other W5 (Or.inr (slot_ne (Or.inr (hw_ hw 27 rfl)) (Or.inr (hw_ hw 28 rfl)) (by decide) (t := (.array .byte)) (t' := .byte) (by decide) (by decide)))
    have F_coder_x_5 := F_coder_x_3.same W5
    have V_d_5 := V_d.other W5 n_dx
    have Zs5 : n0 ≤ h5.size := Nat.le_trans Zs3 (Keep.of_wr W5).1
    have K5 := K3.wr W5 (Or.inl (List.mem_of_getElem? (i := 0) rfl))
    refine own_by (S' := T5.setTop (mkF m 51 #[.val (.ref x), .val (.ref src), .val (.int (0 : Int32)), .val (.int n), .val .null, .val (.ref d)] [])) st5 ?_
    refine own_by (S' := T5.setTop (mkF m 52 #[.val (.ref x), .val (.ref src), .val (.int (0 : Int32)), .val (.int n), .val .null, .val (.ref d)] [(.ref x)])) (fun tZ kZ => XS.aloadN X5.here hx rfl (hb hby d4_51) rfl rfl kZ) ?_
    refine own_by (S' := T5.setTop (mkF m 54 #[.val (.ref x), .val (.ref src), .val (.int (0 : Int32)), .val (.int n), .val .null, .val (.ref d)] [(.ref d), (.ref x)])) (fun tZ kZ => XS.aload X5.here hx rfl (hb hby d4_52) rfl rfl kZ) ?_
    obtain ⟨T6, h6, X6, e6, W6, st6⟩ := putF X5 hx hZ hown (host := "") (Or.inl (hw_ hw 31 rfl)) Via.refl e5 F_value_x_5 Ex_x_5 (Or.inr ⟨(hw_ hw 27 rfl), rfl, hnm⟩) (hw_ hw 13 rfl) (ty := (.array .byte)) (by decide) rfl rfl (g := (mkF m 54 #[.val (.ref x), .val (.ref src), .val (.int (0 : Int32)), .val (.int n), .val .null, .val (.ref d)] [(.ref d), (.ref x)])) rfl rfl (hb hby d4_54)
    have N6 := Fr.snoc X6 N5 g_x
    have Ex_x_6 := Ex_x_5.wr W6
    have F_value_x_6 := F_value_x_5.same W6
    have F_coder_x_6 := F_coder_x_5.other W6 (Or.inr (slot_ne (Or.inr (hw_ hw 28 rfl)) (Or.inr (hw_ hw 27 rfl)) (by decide) (t := .byte) (t' := (.array .byte)) (by decide) (by decide)))
    have V_d_6 := V_d_5.other W6 n_dx
    have Zs6 : n0 ≤ h6.size := Nat.le_trans Zs5 (Keep.of_wr W6).1
    have K6 := K5.wr W6 (Or.inl (List.mem_of_getElem? (i := 0) rfl))
    refine own_by (S' := T6.setTop (mkF m 57 #[.val (.ref x), .val (.ref src), .val (.int (0 : Int32)), .val (.int n), .val .null, .val (.ref d)] [])) st6 ?_
    exact own_ret0 X6 hx Bd.returns (hb hby d4_57) Bd.notSynchronized (by decide) (by decide) (show QIni Z x us h0 n0 _ T6.heap _ from by rw [e6]; exact ⟨rfl, N6, K6, Ex_x_6, d, kd, F_value_x_6, Or.inl ⟨F_coder_x_6, V_d_6, hal⟩⟩)
  · obtain ⟨zb, hzb⟩ := own_int (2 * us.length) (by omega)
    obtain ⟨_, _, ⟨T7, L7, k7, n7⟩, -, X7, ⟨Lc7, hQ7, l7, y7, z7⟩, st7⟩ := Jvm.LawKit.callS X3 hx (y := (⟨"java/lang/StringUTF16", "coderFromArrayLen", "([BI)B"⟩ : MethodName)) hown (mvT hZ (hw_ hw 94 rfl)) (mvT hZ (hw_ hw 95 rfl)) (mvT hZ (hw_ hw 70 rfl)) (mvT hZ (hw_ hw 96 rfl)) (by decide) (backOf (W := 1) (rmCfl l Z a0 hw [] d kd (bU us) n zb 1 T3.heap n0 Zs3 V_d (by rw [bU_len, own_tnc hzb]) (own_nneg hzb) (own_cf1 hn hzb h1l hl) rfl) hZ (hw_ hw 96 rfl) (hw_ hw 70 rfl) (by decide) (by decide)) (g := (mkF m 45 #[.val (.ref x), .val (.ref src), .val (.int (0 : Int32)), .val (.int n), .val .null, .val (.ref d)] [(.int n), (.ref d), (.ref x)])) rfl (by rw [hml]; rfl) (argsL := [(.ref d), (.int n)]) (rest := [(.ref x)]) (lenOf pd_24 rfl) rfl (by show 2 * 0 + _ ≤ _; exact Nat.le_of_eq rfl) (hb hby d4_45) (fun _ _ => ⟨rfl, rfl, (by decide : 2 + 0 ≤ _), (by decide : 12 + 0 ≤ _)⟩)
    dsimp only [Pt.U, Pt.locs, Pt.cells, Pt.slots] at X7 l7 y7 z7 st7 hQ7
    subst l7 y7 z7
    obtain ⟨rfl, N7q, heq7⟩ := hQ7
    have N7 := Fr.app N3 N7q
    refine own_by (S' := T7.setTop (mkF m 48 #[.val (.ref x), .val (.ref src), .val (.int (0 : Int32)), .val (.int n), .val .null, .val (.ref d)] [(.int (1 : Int32)), (.ref x)])) (fun tZ kZ => st7 _ kZ) ?_
    obtain ⟨T8, h8, X8, e8, W8, st8⟩ := putFN X7 hx hZ hown (hw_ hw 32 rfl) Via.refl heq7 F_coder_x_3 Ex_x_3 (Or.inr ⟨(hw_ hw 28 rfl), rfl, hnm⟩) (hw_ hw 13 rfl) (ty := .byte) (v' := (.int (1 : Int32))) (by decide) rfl rfl (g := (mkF m 48 #[.val (.ref x), .val (.ref src), .val (.int (0 : Int32)), .val (.int n), .val .null, .val (.ref d)] [(.int (1 : Int32)), (.ref x)])) rfl rfl (hb hby d4_48)
    have N8 := Fr.snoc X8 N7 g_x
    have Ex_x_8 := Ex_x_3.wr W8
    have F_value_x_8 := F_value_x_3.other W8 (Or.inr (slot_ne (Or.inr (hw_ hw 27 rfl)) (Or.inr (hw_ hw 28 rfl)) (by decide) (t := (.array .byte)) (t' := .byte) (by decide) (by decide)))
    have F_coder_x_8 := F_coder_x_3.same W8
    have V_d_8 := V_d.other W8 n_dx
    have Zs8 : n0 ≤ h8.size := Nat.le_trans Zs3 (Keep.of_wr W8).1
    have K8 := K3.wr W8 (Or.inl (List.mem_of_getElem? (i := 0) rfl))
    refine own_by (S' := T8.setTop (mkF m 51 #[.val (.ref x), .val (.ref src), .val (.int (0 : Int32)), .val (.int n), .val .null, .val (.ref d)] [])) st8 ?_
    refine own_by (S' := T8.setTop (mkF m 52 #[.val (.ref x), .val (.ref src), .val (.int (0 : Int32)), .val (.int n), .val .null, .val (.ref d)] [(.ref x)])) (fun tZ kZ => XS.aloadN X8.here hx rfl (hb hby d4_51) rfl rfl kZ) ?_
    refine own_by (S' := T8.setTop (mkF m 54 #[.val (.ref x), .val (.ref src), .val (.int (0 : Int32)), .val (.int n), .val .null, .val (.ref d)] [(.ref d), (.ref x)])) (fun tZ kZ => XS.aload X8.here hx rfl (hb hby d4_52) rfl rfl kZ) ?_
    obtain ⟨T9, h9, X9, e9, W9, st9⟩ := putF X8 hx hZ hown (host := "") (Or.inl (hw_ hw 31 rfl)) Via.refl e8 F_value_x_8 Ex_x_8 (Or.inr ⟨(hw_ hw 27 rfl), rfl, hnm⟩) (hw_ hw 13 rfl) (ty := (.array .byte)) (by decide) rfl rfl (g := (mkF m 54 #[.val (.ref x), .val (.ref src), .val (.int (0 : Int32)), .val (.int n), .val .null, .val (.ref d)] [(.ref d), (.ref x)])) rfl rfl (hb hby d4_54)
    have N9 := Fr.snoc X9 N8 g_x
    have Ex_x_9 := Ex_x_8.wr W9
    have F_value_x_9 := F_value_x_8.same W9
    have F_coder_x_9 := F_coder_x_8.other W9 (Or.inr (slot_ne (Or.inr (hw_ hw 28 rfl)) (Or.inr (hw_ hw 27 rfl)) (by decide) (t := .byte) (t' := (.array .byte)) (by decide) (by decide)))
    have V_d_9 := V_d_8.other W9 n_dx
    have Zs9 : n0 ≤ h9.size := Nat.le_trans Zs8 (Keep.of_wr W9).1
    have K9 := K8.wr W9 (Or.inl (List.mem_of_getElem? (i := 0) rfl))
    refine own_by (S' := T9.setTop (mkF m 57 #[.val (.ref x), .val (.ref src), .val (.int (0 : Int32)), .val (.int n), .val .null, .val (.ref d)] [])) st9 ?_
    exact own_ret0 X9 hx Bd.returns (hb hby d4_57) Bd.notSynchronized (by decide) (by decide) (show QIni Z x us h0 n0 _ T9.heap _ from by rw [e9]; exact ⟨rfl, N9, K9, Ex_x_9, d, kd, F_value_x_9, Or.inr ⟨F_coder_x_9, V_d_9⟩⟩)
theorem d3_0 : decode jdk_42_method_3_code 0 = .ok (.aload_n 0, 1) := by decide +kernel
theorem d3_1 : decode jdk_42_method_3_code 1 = .ok (.aload_n 1, 1) := by decide +kernel
theorem d3_2 : decode jdk_42_method_3_code 2 = .ok (.iconst 0, 1) := by decide +kernel
theorem d3_3 : decode jdk_42_method_3_code 3 = .ok (.aload_n 1, 1) := by decide +kernel
theorem d3_4 : decode jdk_42_method_3_code 4 = .ok (.arraylength, 1) := by decide +kernel
theorem d3_5 : decode jdk_42_method_3_code 5 = .ok (.aconst_null, 1) := by decide +kernel
theorem d3_6 : decode jdk_42_method_3_code 6 = .ok (.invokespecial 27, 3) := by decide +kernel
theorem d3_9 : decode jdk_42_method_3_code 9 = .ok (.return_, 1) := by decide +kernel
theorem ef_rmSI1 (m : MethodId) (x : Addr) (src : Addr) : entryFrame m #[(.ref x), (.ref src)] 2 = mkF m 0 #[.val (.ref x), .val (.ref src)] [] := by first | (simp [entryFrame, mkF, argsToLocals, Value.category, maxLocals]; done) | rfl
set_option maxRecDepth 65536 in
set_option maxHeartbeats 40000000 in
theorem rmSI1 (l : Launch) (Z : State) (a0 : Array Value) (hw : ∀ d ∈ tables_1, d.before a0 Z = true) (ws : List Jvm.Cond) (x : Addr) (src : Addr) (ks : ClassId) (us : List Int32) (n : Int32) (cz : Int32) (fm : Value) (h0 : Heap) (n0 : Nat) (Z0 : n0 ≤ h0.size) (V_src : OwnA Z h0 src ks .char (cV us)) (hn : n.toInt = us.length) (hl : us.length ≤ 4) (hus : ∀ q ∈ us, CU q) (h1l : 1 ≤ us.length) (W : OwnW Z h0 cz fm) (Ex_x : Exa Z h0 x "java/lang/String") (F_value_x : Fld Z h0 x "java/lang/String" "value" "[B" .null) (F_coder_x : Fld Z h0 x "java/lang/String" "coder" "B" (.int 0)) (g_x : n0 ≤ x) :
    MetFree l (⟨"java/lang/String", "<init>", "([C)V"⟩ : MethodName) (head1 (Jvm.Cond.code (⟨"java/lang/String", "<init>", "([C)V"⟩ : MethodName) jdk_42_method_3_code (2 : Nat) (Option.none : Option Jvm.ClassFile.FieldType) :: ws) ({ frames := 5, cells := 2, slots := 12, locals := 74 } : Room)) (fun aZ UZ => aZ = #[(.ref x), (.ref src)] ∧ Z.Warmed39 UZ.vm ∧ UZ.heap = h0) (fun _ _ _ _ _ => True) (fun _ UZ oZ VZ => ∃ vZ LZ, oZ = .returned vZ ∧ (QIni Z x us h0 n0) vZ VZ.heap LZ ∧ FrameEnd UZ oZ VZ LZ ({ frames := 5, cells := 2, slots := 12, locals := 74 } : Room).cells ({ frames := 5, cells := 2, slots := 12, locals := 74 } : Room).slots) := by
  refine MetFree.of_bodySF (plainFor_of_name pn_1) hisR ?_
  intro p e s m args below meth c s₁ Bd hml0 hP hK
  obtain ⟨rfl, hZ, hh⟩ := hP
  have hx := Bd.exec
  have hby := Bd.bytes
  have hml : c.maxLocals = 2 := hml0
  have hown : s.vm.findClass "java/lang/String" = some m.cls := findClass_of_methodNamed Bd.named
  have hnm := (name_of_methodNamed Bd.named Bd.method).1
  have X0 : Stand p l e ({ frames := 5, cells := 2, slots := 12, locals := 74 } : Room) s m #[(.ref x), (.ref src)] below meth c s₁ [] 0 0 := Stand.of_body Bd
  have e0 : s₁.heap = h0 := by rw [← hh, Bd.state]; rfl
  have N0 := Fr.nil n0
  show OwnG p e below (OwnE s (QIni Z x us h0 n0) ({ frames := 5, cells := 2, slots := 12, locals := 74 } : Room).cells ({ frames := 5, cells := 2, slots := 12, locals := 74 } : Room).slots) _
  refine own_by (S' := s₁.setTop (mkF m 0 #[.val (.ref x), .val (.ref src)] [])) (fun tZ kZ => castTop (ef_rmSI1 m x src) kZ) ?_
  refine own_by (S' := s₁.setTop (mkF m 1 #[.val (.ref x), .val (.ref src)] [(.ref x)])) (fun tZ kZ => XS.aloadN X0.here hx rfl (hb hby d3_0) rfl rfl kZ) ?_
  refine own_by (S' := s₁.setTop (mkF m 2 #[.val (.ref x), .val (.ref src)] [(.ref src), (.ref x)])) (fun tZ kZ => XS.aloadN X0.here hx rfl (hb hby d3_1) rfl rfl kZ) ?_
  refine own_by (S' := s₁.setTop (mkF m 3 #[.val (.ref x), .val (.ref src)] [(.int (0 : Int32)), (.ref src), (.ref x)])) (fun tZ kZ => XS.iconst X0.here hx rfl (hb hby d3_2) kZ) ?_
  refine own_by (S' := s₁.setTop (mkF m 4 #[.val (.ref x), .val (.ref src)] [(.ref src), (.int (0 : Int32)), (.ref src), (.ref x)])) (fun tZ kZ => XS.aloadN X0.here hx rfl (hb hby d3_3) rfl rfl kZ) ?_
  obtain ⟨cc1, Ar1, hc1, hl1⟩ := id V_src
  refine own_by (S' := s₁.setTop (mkF m 5 #[.val (.ref x), .val (.ref src)] [(.int n), (.int (0 : Int32)), (.ref src), (.ref x)])) (fun tZ kZ => X0.arraylength hx (by rw [e0]; exact Ar1.1) (State.isArrayOf_alike hZ.alike Ar1.2.1) (g := (mkF m 4 #[.val (.ref x), .val (.ref src)] [(.ref src), (.int (0 : Int32)), (.ref src), (.ref x)])) rfl rfl (hb hby d3_4) _ (by rw [len_of (OwnA.size (z := n) hl1 (by rw [cV_len, own_tnc hn])) (own_nneg hn)]; exact kZ)) ?_
  refine own_by (S' := s₁.setTop (mkF m 6 #[.val (.ref x), .val (.ref src)] [.null, (.int n), (.int (0 : Int32)), (.ref src), (.ref x)])) (fun tZ kZ => XS.aconstNull X0.here hx rfl (hb hby d3_5) kZ) ?_
  obtain ⟨_, _, ⟨T2, L2, k2, n2⟩, -, X2, ⟨Lc2, hQ2, l2, y2, z2⟩, st2⟩ := X0.specialBack hx (y := (⟨"java/lang/String", "<init>", "([CIILjava/lang/Void;)V"⟩ : MethodName)) rfl hown (mvT hZ (hw_ hw 18 rfl)) (mvT hZ (hw_ hw 19 rfl)) (mvT hZ (hw_ hw 21 rfl)) (by decide) (backOf (W := 0) (rmSI4 l Z a0 hw [] x src ks us n cz fm h0 n0 Z0 V_src hn hl hus h1l W Ex_x F_value_x F_coder_x g_x) hZ (hw_ hw 21 rfl) (hw_ hw 14 rfl) (by decide) (by decide)) (g := (mkF m 6 #[.val (.ref x), .val (.ref src)] [.null, (.int n), (.int (0 : Int32)), (.ref src), (.ref x)])) rfl (by rw [hml]; rfl) (Steps.refl _) (a := x) (argsL := [(.ref src), (.int (0 : Int32)), (.int n), .null]) (rest := []) (lenOf pd_25 rfl) rfl (by show 2 * 0 + _ ≤ _; exact Nat.le_of_eq rfl) (hb hby d3_6) (fun _ _ => ⟨rfl, e0, (by decide : 0 + 2 ≤ _), (by decide : 0 + 12 ≤ _)⟩)
  dsimp only [Pt.U, Pt.locs, Pt.cells, Pt.slots] at X2 l2 y2 z2 st2 hQ2
  subst l2 y2 z2
  obtain ⟨rfl, N2q, Kc2, qs2⟩ := hQ2
  have N2 := Fr.app N0 N2q
  have Zs2 := Nat.le_trans Z0 Kc2.1
  have K2 := (Keep.refl h0 [x]).trans Kc2 (fun x hx => by
      simp only [List.mem_cons, List.not_mem_nil, or_false] at hx
      rcases hx with rfl
      · exact Or.inl (List.mem_of_getElem? (i := 0) rfl))
  refine own_by (S' := T2.setTop (mkF m 9 #[.val (.ref x), .val (.ref src)] [])) (fun tZ kZ => st2.trans kZ) ?_
  exact own_ret0 X2 hx Bd.returns (hb hby d3_9) Bd.notSynchronized (by decide) (by decide) ⟨rfl, N2, K2, qs2⟩
theorem d49_0 : decode jdk_42_method_151_code 0 = .ok (.aload_n 0, 1) := by decide +kernel
theorem d49_1 : decode jdk_42_method_151_code 1 = .ok (.invokespecial 1, 3) := by decide +kernel
theorem d49_4 : decode jdk_42_method_151_code 4 = .ok (.aload_n 0, 1) := by decide +kernel
theorem d49_5 : decode jdk_42_method_151_code 5 = .ok (.aload_n 1, 1) := by decide +kernel
theorem d49_6 : decode jdk_42_method_151_code 6 = .ok (.putfield 9, 3) := by decide +kernel
theorem d49_9 : decode jdk_42_method_151_code 9 = .ok (.aload_n 0, 1) := by decide +kernel
theorem d49_10 : decode jdk_42_method_151_code 10 = .ok (.iload_n 2, 1) := by decide +kernel
theorem d49_11 : decode jdk_42_method_151_code 11 = .ok (.putfield 15, 3) := by decide +kernel
theorem d49_14 : decode jdk_42_method_151_code 14 = .ok (.return_, 1) := by decide +kernel
theorem ef_rmSB (m : MethodId) (x : Addr) (y : Addr) (cd : Int32) : entryFrame m #[(.ref x), (.ref y), (.int cd)] 3 = mkF m 0 #[.val (.ref x), .val (.ref y), .val (.int cd)] [] := by first | (simp [entryFrame, mkF, argsToLocals, Value.category, maxLocals]; done) | rfl
set_option maxRecDepth 65536 in
set_option maxHeartbeats 40000000 in
theorem rmSB (l : Launch) (Z : State) (a0 : Array Value) (hw : ∀ d ∈ tables_1, d.before a0 Z = true) (ws : List Jvm.Cond) (x y : Addr) (ky : ClassId) (cd : Int32) (us : List Int32) (h0 : Heap) (n0 : Nat) (Z0 : n0 ≤ h0.size) (Ex_x : Exa Z h0 x "java/lang/String") (F_value_x : Fld Z h0 x "java/lang/String" "value" "[B" .null) (F_coder_x : Fld Z h0 x "java/lang/String" "coder" "B" (.int 0)) (g_x : n0 ≤ x) (n_yx : y ≠ x) (hcd : (cd = 0 ∧ OwnA Z h0 y ky .byte (bL us) ∧ ∀ q ∈ us, q.toInt ≤ 255) ∨ (cd = 1 ∧ OwnA Z h0 y ky .byte (bU us))) :
    MetFree l (⟨"java/lang/String", "<init>", "([BB)V"⟩ : MethodName) (head1 (Jvm.Cond.code (⟨"java/lang/String", "<init>", "([BB)V"⟩ : MethodName) jdk_42_method_151_code (3 : Nat) (Option.none : Option Jvm.ClassFile.FieldType) :: ws) ({ frames := 1, cells := 0, slots := 0, locals := 12 } : Room)) (fun aZ UZ => aZ = #[(.ref x), (.ref y), (.int cd)] ∧ Z.Warmed39 UZ.vm ∧ UZ.heap = h0) (fun _ _ _ _ _ => True) (fun _ UZ oZ VZ => ∃ vZ LZ, oZ = .returned vZ ∧ (QIni Z x us h0 n0) vZ VZ.heap LZ ∧ FrameEnd UZ oZ VZ LZ ({ frames := 1, cells := 0, slots := 0, locals := 12 } : Room).cells ({ frames := 1, cells := 0, slots := 0, locals := 12 } : Room).slots) := by
  refine MetFree.of_bodySF (plainFor_of_name pn_1) hisR ?_
  intro p e s m args below meth c s₁ Bd hml0 hP hK
  obtain ⟨rfl, hZ, hh⟩ := hP
  have hx := Bd.exec
  have hby := Bd.bytes
  have hml : c.maxLocals = 3 := hml0
  have hown : s.vm.findClass "java/lang/String" = some m.cls := findClass_of_methodNamed Bd.named
  have hnm := (name_of_methodNamed Bd.named Bd.method).1
  have X0 : Stand p l e ({ frames := 1, cells := 0, slots := 0, locals := 12 } : Room) s m #[(.ref x), (.ref y), (.int cd)] below meth c s₁ [] 0 0 := Stand.of_body Bd
  have e0 : s₁.heap = h0 := by rw [← hh, Bd.state]; rfl
  have N0 := Fr.nil n0
  show OwnG p e below (OwnE s (QIni Z x us h0 n0) ({ frames := 1, cells := 0, slots := 0, locals := 12 } : Room).cells ({ frames := 1, cells := 0, slots := 0, locals := 12 } : Room).slots) _
  refine own_by (S' := s₁.setTop (mkF m 0 #[.val (.ref x), .val (.ref y), .val (.int cd)] [])) (fun tZ kZ => castTop (ef_rmSB m x y cd) kZ) ?_
  rcases hcd with ⟨rfl, V_y, hal⟩ | ⟨rfl, V_y⟩
  · refine own_by (S' := s₁.setTop (mkF m 1 #[.val (.ref x), .val (.ref y), .val (.int (0 : Int32))] [(.ref x)])) (fun tZ kZ => XS.aloadN X0.here hx rfl (hb hby d49_0) rfl rfl kZ) ?_
    obtain ⟨T1, X1, e1, st1⟩ := initO X0 hx hZ hown (hw_ hw 22 rfl) (hw_ hw 23 rfl) (hw_ hw 24 rfl) e0 (g := (mkF m 1 #[.val (.ref x), .val (.ref y), .val (.int (0 : Int32))] [(.ref x)])) rfl (by rw [hml]; rfl) rfl (hb hby d49_1) (by decide) (W := 0) (by show 2 * 0 + _ ≤ _; exact Nat.le_of_eq rfl) (by decide)
    refine own_by (S' := T1.setTop (mkF m 4 #[.val (.ref x), .val (.ref y), .val (.int (0 : Int32))] [])) st1 ?_
    refine own_by (S' := T1.setTop (mkF m 5 #[.val (.ref x), .val (.ref y), .val (.int (0 : Int32))] [(.ref x)])) (fun tZ kZ => XS.aloadN X1.here hx rfl (hb hby d49_4) rfl rfl kZ) ?_
    refine own_by (S' := T1.setTop (mkF m 6 #[.val (.ref x), .val (.ref y), .val (.int (0 : Int32))] [(.ref y), (.ref x)])) (fun tZ kZ => XS.aloadN X1.here hx rfl (hb hby d49_5) rfl rfl kZ) ?_
    obtain ⟨T2, h2, X2, e2, W2, st2⟩ := putF X1 hx hZ hown (host := "") (Or.inl (hw_ hw 31 rfl)) Via.refl e1 F_value_x Ex_x (Or.inr ⟨(hw_ hw 27 rfl), rfl, hnm⟩) (hw_ hw 13 rfl) (ty := (.array .byte)) (by decide) rfl rfl (g := (mkF m 6 #[.val (.ref x), .val (.ref y), .val (.int (0 : Int32))] [(.ref y), (.ref x)])) rfl rfl (hb hby d49_6)
    have N2 := Fr.snoc X2 N0 g_x
    have Ex_x_2 := Ex_x.wr W2
    have F_value_x_2 := F_value_x.same W2
    have F_coder_x_2 := F_coder_x.other W2 (Or.inr (slot_ne (Or.inr (hw_ hw 28 rfl)) (Or.inr (hw_ hw 27 rfl)) (by decide) (t := .byte) (t' := (.array .byte)) (by decide) (by decide)))
    have V_y_2 := V_y.other W2 n_yx
    have Zs2 : n0 ≤ h2.size := Nat.le_trans Z0 (Keep.of_wr W2).1
    have K2 := (Keep.refl h0 [x]).wr W2 (Or.inl (List.mem_of_getElem? (i := 0) rfl))
    refine own_by (S' := T2.setTop (mkF m 9 #[.val (.ref x), .val (.ref y), .val (.int (0 : Int32))] [])) st2 ?_
    refine own_by (S' := T2.setTop (mkF m 10 #[.val (.ref x), .val (.ref y), .val (.int (0 : Int32))] [(.ref x)])) (fun tZ kZ => XS.aloadN X2.here hx rfl (hb hby d49_9) rfl rfl kZ) ?_
    refine own_by (S' := T2.setTop (mkF m 11 #[.val (.ref x), .val (.ref y), .val (.int (0 : Int32))] [(.int (0 : Int32)), (.ref x)])) (fun tZ kZ => XS.iloadN X2.here hx rfl (hb hby d49_10) rfl kZ) ?_
    obtain ⟨T3, h3, X3, e3, W3, st3⟩ := putFN X2 hx hZ hown (hw_ hw 32 rfl) Via.refl e2 F_coder_x_2 Ex_x_2 (Or.inr ⟨(hw_ hw 28 rfl), rfl, hnm⟩) (hw_ hw 13 rfl) (ty := .byte) (v' := (.int (0 : Int32))) (by decide) rfl rfl (g := (mkF m 11 #[.val (.ref x), .val (.ref y), .val (.int (0 : Int32))] [(.int (0 : Int32)), (.ref x)])) rfl rfl (hb hby d49_11)
    have N3 := Fr.snoc X3 N2 g_x
    have Ex_x_3 := Ex_x_2.wr W3
    have F_value_x_3 := F_value_x_2.other W3 (Or.inr (slot_ne (Or.inr (hw_ hw 27 rfl)) (Or.inr (hw_ hw 28 rfl)) (by decide) (t := (.array .byte)) (t' := .byte) (by decide) (by decide)))
    have F_coder_x_3 := F_coder_x_2.same W3
    have V_y_3 := V_y_2.other W3 n_yx
    have Zs3 : n0 ≤ h3.size := Nat.le_trans Zs2 (Keep.of_wr W3).1
    have K3 := K2.wr W3 (Or.inl (List.mem_of_getElem? (i := 0) rfl))
    refine own_by (S' := T3.setTop (mkF m 14 #[.val (.ref x), .val (.ref y), .val (.int (0 : Int32))] [])) st3 ?_
    exact own_ret0 X3 hx Bd.returns (hb hby d49_14) Bd.notSynchronized (by decide) (by decide) (show QIni Z x us h0 n0 _ T3.heap _ from by rw [e3]; exact ⟨rfl, N3, K3, Ex_x_3, y, ky, F_value_x_3, Or.inl ⟨F_coder_x_3, V_y_3, hal⟩⟩)
  · refine own_by (S' := s₁.setTop (mkF m 1 #[.val (.ref x), .val (.ref y), .val (.int (1 : Int32))] [(.ref x)])) (fun tZ kZ => XS.aloadN X0.here hx rfl (hb hby d49_0) rfl rfl kZ) ?_
    obtain ⟨T4, X4, e4, st4⟩ := initO X0 hx hZ hown (hw_ hw 22 rfl) (hw_ hw 23 rfl) (hw_ hw 24 rfl) e0 (g := (mkF m 1 #[.val (.ref x), .val (.ref y), .val (.int (1 : Int32))] [(.ref x)])) rfl (by rw [hml]; rfl) rfl (hb hby d49_1) (by decide) (W := 0) (by show 2 * 0 + _ ≤ _; exact Nat.le_of_eq rfl) (by decide)
    refine own_by (S' := T4.setTop (mkF m 4 #[.val (.ref x), .val (.ref y), .val (.int (1 : Int32))] [])) st4 ?_
    refine own_by (S' := T4.setTop (mkF m 5 #[.val (.ref x), .val (.ref y), .val (.int (1 : Int32))] [(.ref x)])) (fun tZ kZ => XS.aloadN X4.here hx rfl (hb hby d49_4) rfl rfl kZ) ?_
    refine own_by (S' := T4.setTop (mkF m 6 #[.val (.ref x), .val (.ref y), .val (.int (1 : Int32))] [(.ref y), (.ref x)])) (fun tZ kZ => XS.aloadN X4.here hx rfl (hb hby d49_5) rfl rfl kZ) ?_
    obtain ⟨T5, h5, X5, e5, W5, st5⟩ := putF X4 hx hZ hown (host := "") (Or.inl (hw_ hw 31 rfl)) Via.refl e4 F_value_x Ex_x (Or.inr ⟨(hw_ hw 27 rfl), rfl, hnm⟩) (hw_ hw 13 rfl) (ty := (.array .byte)) (by decide) rfl rfl (g := (mkF m 6 #[.val (.ref x), .val (.ref y), .val (.int (1 : Int32))] [(.ref y), (.ref x)])) rfl rfl (hb hby d49_6)
    have N5 := Fr.snoc X5 N0 g_x
    have Ex_x_5 := Ex_x.wr W5
    have F_value_x_5 := F_value_x.same W5
    have F_coder_x_5 := F_coder_x.other W5 (Or.inr (slot_ne (Or.inr (hw_ hw 28 rfl)) (Or.inr (hw_ hw 27 rfl)) (by decide) (t := .byte) (t' := (.array .byte)) (by decide) (by decide)))
    have V_y_5 := V_y.other W5 n_yx
    have Zs5 : n0 ≤ h5.size := Nat.le_trans Z0 (Keep.of_wr W5).1
    have K5 := (Keep.refl h0 [x]).wr W5 (Or.inl (List.mem_of_getElem? (i := 0) rfl))
    refine own_by (S' := T5.setTop (mkF m 9 #[.val (.ref x), .val (.ref y), .val (.int (1 : Int32))] [])) st5 ?_
    refine own_by (S' := T5.setTop (mkF m 10 #[.val (.ref x), .val (.ref y), .val (.int (1 : Int32))] [(.ref x)])) (fun tZ kZ => XS.aloadN X5.here hx rfl (hb hby d49_9) rfl rfl kZ) ?_
    refine own_by (S' := T5.setTop (mkF m 11 #[.val (.ref x), .val (.ref y), .val (.int (1 : Int32))] [(.int (1 : Int32)), (.ref x)])) (fun tZ kZ => XS.iloadN X5.here hx rfl (hb hby d49_10) rfl kZ) ?_
    obtain ⟨T6, h6, X6, e6, W6, st6⟩ := putFN X5 hx hZ hown (hw_ hw 32 rfl) Via.refl e5 F_coder_x_5 Ex_x_5 (Or.inr ⟨(hw_ hw 28 rfl), rfl, hnm⟩) (hw_ hw 13 rfl) (ty := .byte) (v' := (.int (1 : Int32))) (by decide) rfl rfl (g := (mkF m 11 #[.val (.ref x), .val (.ref y), .val (.int (1 : Int32))] [(.int (1 : Int32)), (.ref x)])) rfl rfl (hb hby d49_11)
    have N6 := Fr.snoc X6 N5 g_x
    have Ex_x_6 := Ex_x_5.wr W6
    have F_value_x_6 := F_value_x_5.other W6 (Or.inr (slot_ne (Or.inr (hw_ hw 27 rfl)) (Or.inr (hw_ hw 28 rfl)) (by decide) (t := (.array .byte)) (t' := .byte) (by decide) (by decide)))
    have F_coder_x_6 := F_coder_x_5.same W6
    have V_y_6 := V_y_5.other W6 n_yx
    have Zs6 : n0 ≤ h6.size := Nat.le_trans Zs5 (Keep.of_wr W6).1
    have K6 := K5.wr W6 (Or.inl (List.mem_of_getElem? (i := 0) rfl))
    refine own_by (S' := T6.setTop (mkF m 14 #[.val (.ref x), .val (.ref y), .val (.int (1 : Int32))] [])) st6 ?_
    exact own_ret0 X6 hx Bd.returns (hb hby d49_14) Bd.notSynchronized (by decide) (by decide) (show QIni Z x us h0 n0 _ T6.heap _ from by rw [e6]; exact ⟨rfl, N6, K6, Ex_x_6, y, ky, F_value_x_6, Or.inr ⟨F_coder_x_6, V_y_6⟩⟩)
theorem own_hus4 {u0 u1 u2 u3 : Int32} (c0 : CU u0) (c1 : CU u1) (c2 : CU u2) (c3 : CU u3) : ∀ q ∈ [u0, u1, u2, u3], CU q := by
  intro q hq
  simp only [List.mem_cons, List.not_mem_nil, or_false] at hq
  rcases hq with rfl | rfl | rfl | rfl <;> assumption
theorem own_hust {us : List Int32} (h : ∀ q ∈ us, CU q) (N : Nat) : ∀ q ∈ us.take N, CU q := fun q hq => h q (List.mem_of_mem_take hq)
theorem d2_0 : decode method_6_code 0 = .ok (.iload_n 0, 1) := by decide +kernel
theorem d2_1 : decode method_6_code 1 = .ok (.ifCond .ne 14, 3) := by decide +kernel
theorem d2_4 : decode method_6_code 4 = .ok (.new 21, 3) := by decide +kernel
theorem d2_7 : decode method_6_code 7 = .ok (.dup, 1) := by decide +kernel
theorem d2_8 : decode method_6_code 8 = .ok (.iconst 0, 1) := by decide +kernel
theorem d2_9 : decode method_6_code 9 = .ok (.newarray .char, 2) := by decide +kernel
theorem d2_11 : decode method_6_code 11 = .ok (.invokespecial 23, 3) := by decide +kernel
theorem d2_14 : decode method_6_code 14 = .ok (.areturn, 1) := by decide +kernel
theorem d2_15 : decode method_6_code 15 = .ok (.iload_n 0, 1) := by decide +kernel
theorem d2_16 : decode method_6_code 16 = .ok (.iconst 1, 1) := by decide +kernel
theorem d2_17 : decode method_6_code 17 = .ok (.if_icmp .ne 22, 3) := by decide +kernel
theorem d2_20 : decode method_6_code 20 = .ok (.iconst 1, 1) := by decide +kernel
theorem d2_21 : decode method_6_code 21 = .ok (.newarray .char, 2) := by decide +kernel
theorem d2_23 : decode method_6_code 23 = .ok (.astore_n 2, 1) := by decide +kernel
theorem d2_24 : decode method_6_code 24 = .ok (.aload_n 2, 1) := by decide +kernel
theorem d2_25 : decode method_6_code 25 = .ok (.iconst 0, 1) := by decide +kernel
theorem d2_26 : decode method_6_code 26 = .ok (.aload_n 1, 1) := by decide +kernel
theorem d2_27 : decode method_6_code 27 = .ok (.iconst 0, 1) := by decide +kernel
theorem d2_28 : decode method_6_code 28 = .ok (.caload, 1) := by decide +kernel
theorem d2_29 : decode method_6_code 29 = .ok (.castore, 1) := by decide +kernel
theorem d2_30 : decode method_6_code 30 = .ok (.new 21, 3) := by decide +kernel
theorem d2_33 : decode method_6_code 33 = .ok (.dup, 1) := by decide +kernel
theorem d2_34 : decode method_6_code 34 = .ok (.aload_n 2, 1) := by decide +kernel
theorem d2_35 : decode method_6_code 35 = .ok (.invokespecial 23, 3) := by decide +kernel
theorem d2_38 : decode method_6_code 38 = .ok (.areturn, 1) := by decide +kernel
theorem d2_39 : decode method_6_code 39 = .ok (.iload_n 0, 1) := by decide +kernel
theorem d2_40 : decode method_6_code 40 = .ok (.iconst 2, 1) := by decide +kernel
theorem d2_41 : decode method_6_code 41 = .ok (.if_icmp .ne 28, 3) := by decide +kernel
theorem d2_44 : decode method_6_code 44 = .ok (.iconst 2, 1) := by decide +kernel
theorem d2_45 : decode method_6_code 45 = .ok (.newarray .char, 2) := by decide +kernel
theorem d2_47 : decode method_6_code 47 = .ok (.astore_n 2, 1) := by decide +kernel
theorem d2_48 : decode method_6_code 48 = .ok (.aload_n 2, 1) := by decide +kernel
theorem d2_49 : decode method_6_code 49 = .ok (.iconst 0, 1) := by decide +kernel
theorem d2_50 : decode method_6_code 50 = .ok (.aload_n 1, 1) := by decide +kernel
theorem d2_51 : decode method_6_code 51 = .ok (.iconst 0, 1) := by decide +kernel
theorem d2_52 : decode method_6_code 52 = .ok (.caload, 1) := by decide +kernel
theorem d2_53 : decode method_6_code 53 = .ok (.castore, 1) := by decide +kernel
theorem d2_54 : decode method_6_code 54 = .ok (.aload_n 2, 1) := by decide +kernel
theorem d2_55 : decode method_6_code 55 = .ok (.iconst 1, 1) := by decide +kernel
theorem d2_56 : decode method_6_code 56 = .ok (.aload_n 1, 1) := by decide +kernel
theorem d2_57 : decode method_6_code 57 = .ok (.iconst 1, 1) := by decide +kernel
theorem d2_58 : decode method_6_code 58 = .ok (.caload, 1) := by decide +kernel
theorem d2_59 : decode method_6_code 59 = .ok (.castore, 1) := by decide +kernel
theorem d2_60 : decode method_6_code 60 = .ok (.new 21, 3) := by decide +kernel
theorem d2_63 : decode method_6_code 63 = .ok (.dup, 1) := by decide +kernel
theorem d2_64 : decode method_6_code 64 = .ok (.aload_n 2, 1) := by decide +kernel
theorem d2_65 : decode method_6_code 65 = .ok (.invokespecial 23, 3) := by decide +kernel
theorem d2_68 : decode method_6_code 68 = .ok (.areturn, 1) := by decide +kernel
theorem d2_69 : decode method_6_code 69 = .ok (.iload_n 0, 1) := by decide +kernel
theorem d2_70 : decode method_6_code 70 = .ok (.iconst 3, 1) := by decide +kernel
theorem d2_71 : decode method_6_code 71 = .ok (.if_icmp .ne 34, 3) := by decide +kernel
theorem d2_74 : decode method_6_code 74 = .ok (.iconst 3, 1) := by decide +kernel
theorem d2_75 : decode method_6_code 75 = .ok (.newarray .char, 2) := by decide +kernel
theorem d2_77 : decode method_6_code 77 = .ok (.astore_n 2, 1) := by decide +kernel
theorem d2_78 : decode method_6_code 78 = .ok (.aload_n 2, 1) := by decide +kernel
theorem d2_79 : decode method_6_code 79 = .ok (.iconst 0, 1) := by decide +kernel
theorem d2_80 : decode method_6_code 80 = .ok (.aload_n 1, 1) := by decide +kernel
theorem d2_81 : decode method_6_code 81 = .ok (.iconst 0, 1) := by decide +kernel
theorem d2_82 : decode method_6_code 82 = .ok (.caload, 1) := by decide +kernel
theorem d2_83 : decode method_6_code 83 = .ok (.castore, 1) := by decide +kernel
theorem d2_84 : decode method_6_code 84 = .ok (.aload_n 2, 1) := by decide +kernel
theorem d2_85 : decode method_6_code 85 = .ok (.iconst 1, 1) := by decide +kernel
theorem d2_86 : decode method_6_code 86 = .ok (.aload_n 1, 1) := by decide +kernel
theorem d2_87 : decode method_6_code 87 = .ok (.iconst 1, 1) := by decide +kernel
theorem d2_88 : decode method_6_code 88 = .ok (.caload, 1) := by decide +kernel
theorem d2_89 : decode method_6_code 89 = .ok (.castore, 1) := by decide +kernel
theorem d2_90 : decode method_6_code 90 = .ok (.aload_n 2, 1) := by decide +kernel
theorem d2_91 : decode method_6_code 91 = .ok (.iconst 2, 1) := by decide +kernel
theorem d2_92 : decode method_6_code 92 = .ok (.aload_n 1, 1) := by decide +kernel
theorem d2_93 : decode method_6_code 93 = .ok (.iconst 2, 1) := by decide +kernel
theorem d2_94 : decode method_6_code 94 = .ok (.caload, 1) := by decide +kernel
theorem d2_95 : decode method_6_code 95 = .ok (.castore, 1) := by decide +kernel
theorem d2_96 : decode method_6_code 96 = .ok (.new 21, 3) := by decide +kernel
theorem d2_99 : decode method_6_code 99 = .ok (.dup, 1) := by decide +kernel
theorem d2_100 : decode method_6_code 100 = .ok (.aload_n 2, 1) := by decide +kernel
theorem d2_101 : decode method_6_code 101 = .ok (.invokespecial 23, 3) := by decide +kernel
theorem d2_104 : decode method_6_code 104 = .ok (.areturn, 1) := by decide +kernel
theorem d2_105 : decode method_6_code 105 = .ok (.iconst 4, 1) := by decide +kernel
theorem d2_106 : decode method_6_code 106 = .ok (.newarray .char, 2) := by decide +kernel
theorem d2_108 : decode method_6_code 108 = .ok (.astore_n 2, 1) := by decide +kernel
theorem d2_109 : decode method_6_code 109 = .ok (.aload_n 2, 1) := by decide +kernel
theorem d2_110 : decode method_6_code 110 = .ok (.iconst 0, 1) := by decide +kernel
theorem d2_111 : decode method_6_code 111 = .ok (.aload_n 1, 1) := by decide +kernel
theorem d2_112 : decode method_6_code 112 = .ok (.iconst 0, 1) := by decide +kernel
theorem d2_113 : decode method_6_code 113 = .ok (.caload, 1) := by decide +kernel
theorem d2_114 : decode method_6_code 114 = .ok (.castore, 1) := by decide +kernel
theorem d2_115 : decode method_6_code 115 = .ok (.aload_n 2, 1) := by decide +kernel
theorem d2_116 : decode method_6_code 116 = .ok (.iconst 1, 1) := by decide +kernel
theorem d2_117 : decode method_6_code 117 = .ok (.aload_n 1, 1) := by decide +kernel
theorem d2_118 : decode method_6_code 118 = .ok (.iconst 1, 1) := by decide +kernel
theorem d2_119 : decode method_6_code 119 = .ok (.caload, 1) := by decide +kernel
theorem d2_120 : decode method_6_code 120 = .ok (.castore, 1) := by decide +kernel
theorem d2_121 : decode method_6_code 121 = .ok (.aload_n 2, 1) := by decide +kernel
theorem d2_122 : decode method_6_code 122 = .ok (.iconst 2, 1) := by decide +kernel
theorem d2_123 : decode method_6_code 123 = .ok (.aload_n 1, 1) := by decide +kernel
theorem d2_124 : decode method_6_code 124 = .ok (.iconst 2, 1) := by decide +kernel
theorem d2_125 : decode method_6_code 125 = .ok (.caload, 1) := by decide +kernel
theorem d2_126 : decode method_6_code 126 = .ok (.castore, 1) := by decide +kernel
theorem d2_127 : decode method_6_code 127 = .ok (.aload_n 2, 1) := by decide +kernel
theorem d2_128 : decode method_6_code 128 = .ok (.iconst 3, 1) := by decide +kernel
theorem d2_129 : decode method_6_code 129 = .ok (.aload_n 1, 1) := by decide +kernel
theorem d2_130 : decode method_6_code 130 = .ok (.iconst 3, 1) := by decide +kernel
theorem d2_131 : decode method_6_code 131 = .ok (.caload, 1) := by decide +kernel
theorem d2_132 : decode method_6_code 132 = .ok (.castore, 1) := by decide +kernel
theorem d2_133 : decode method_6_code 133 = .ok (.new 21, 3) := by decide +kernel
theorem d2_136 : decode method_6_code 136 = .ok (.dup, 1) := by decide +kernel
theorem d2_137 : decode method_6_code 137 = .ok (.aload_n 2, 1) := by decide +kernel
theorem d2_138 : decode method_6_code 138 = .ok (.invokespecial 23, 3) := by decide +kernel
theorem d2_141 : decode method_6_code 141 = .ok (.areturn, 1) := by decide +kernel
theorem ef_rmMake1 (m : MethodId) (ca : Addr) : entryFrame m #[(.int (1 : Int32)), (.ref ca)] 3 = mkF m 0 #[.val (.int (1 : Int32)), .val (.ref ca), .unset] [] := by first | (simp [entryFrame, mkF, argsToLocals, Value.category, maxLocals]; done) | rfl
set_option maxRecDepth 65536 in
set_option maxHeartbeats 40000000 in
theorem rmMake1 (l : Launch) (Z : State) (a0 : Array Value) (hw : ∀ d ∈ tables_1, d.before a0 Z = true) (ws : List Jvm.Cond) (ca : Addr) (kc : ClassId) (u0 u1 u2 u3 : Int32) (cz : Int32) (fm : Value) (h0 : Heap) (n0 : Nat) (Z0 : n0 ≤ h0.size) (V_c : OwnA Z h0 ca kc .char (cV [u0, u1, u2, u3])) (cu0 : CU u0) (cu1 : CU u1) (cu2 : CU u2) (cu3 : CU u3) (W : OwnW Z h0 cz fm) :
    MetFree l (⟨"com/example/idpd/idpd/TextsPrefixPinLaw", "make", "(I[C)Ljava/lang/String;"⟩ : MethodName) (head1 (Jvm.Cond.code (⟨"com/example/idpd/idpd/TextsPrefixPinLaw", "make", "(I[C)Ljava/lang/String;"⟩ : MethodName) method_6_code (3 : Nat) (Option.some (Jvm.ClassFile.FieldType.object "java/lang/String")) :: ws) ({ frames := 6, cells := 4, slots := 17, locals := 88 } : Room)) (fun aZ UZ => aZ = #[(.int (1 : Int32)), (.ref ca)] ∧ Z.Warmed39 UZ.vm ∧ UZ.heap = h0) (fun _ _ _ _ _ => True) (fun _ UZ oZ VZ => ∃ vZ LZ, oZ = .returned vZ ∧ (QStr Z [u0] h0 n0) vZ VZ.heap LZ ∧ FrameEnd UZ oZ VZ LZ ({ frames := 6, cells := 4, slots := 17, locals := 88 } : Room).cells ({ frames := 6, cells := 4, slots := 17, locals := 88 } : Room).slots) := by
  refine MetFree.of_bodySF (plainFor_of_name pn_5) hisR ?_
  intro p e s m args below meth c s₁ Bd hml0 hP hK
  obtain ⟨rfl, hZ, hh⟩ := hP
  have hx := Bd.exec
  have hby := Bd.bytes
  have hml : c.maxLocals = 3 := hml0
  have hown : s.vm.findClass "com/example/idpd/idpd/TextsPrefixPinLaw" = some m.cls := findClass_of_methodNamed Bd.named
  have hnm := (name_of_methodNamed Bd.named Bd.method).1
  have X0 : Stand p l e ({ frames := 6, cells := 4, slots := 17, locals := 88 } : Room) s m #[(.int (1 : Int32)), (.ref ca)] below meth c s₁ [] 0 0 := Stand.of_body Bd
  have e0 : s₁.heap = h0 := by rw [← hh, Bd.state]; rfl
  have N0 := Fr.nil n0
  show OwnG p e below (OwnE s (QStr Z [u0] h0 n0) ({ frames := 6, cells := 4, slots := 17, locals := 88 } : Room).cells ({ frames := 6, cells := 4, slots := 17, locals := 88 } : Room).slots) _
  refine own_by (S' := s₁.setTop (mkF m 0 #[.val (.int (1 : Int32)), .val (.ref ca), .unset] [])) (fun tZ kZ => castTop (ef_rmMake1 m ca) kZ) ?_
  refine own_by (S' := s₁.setTop (mkF m 1 #[.val (.int (1 : Int32)), .val (.ref ca), .unset] [(.int (1 : Int32))])) (fun tZ kZ => XS.iloadN X0.here hx rfl (hb hby d2_0) rfl kZ) ?_
  refine own_by (S' := s₁.setTop (mkF m 15 #[.val (.int (1 : Int32)), .val (.ref ca), .unset] [])) (fun tZ kZ => XS.ifYes X0.here hx rfl (pc0 := 1) (pc' := 15) rfl (hb hby d2_1) rfl ((if0 _ _).trans (feq (by decide)).2) (by decide) (by decide) kZ) ?_
  refine own_by (S' := s₁.setTop (mkF m 16 #[.val (.int (1 : Int32)), .val (.ref ca), .unset] [(.int (1 : Int32))])) (fun tZ kZ => XS.iloadN X0.here hx rfl (hb hby d2_15) rfl kZ) ?_
  refine own_by (S' := s₁.setTop (mkF m 17 #[.val (.int (1 : Int32)), .val (.ref ca), .unset] [(.int (1 : Int32)), (.int (1 : Int32))])) (fun tZ kZ => XS.iconst X0.here hx rfl (hb hby d2_16) kZ) ?_
  refine own_by (S' := s₁.setTop (mkF m 20 #[.val (.int (1 : Int32)), .val (.ref ca), .unset] [])) (fun tZ kZ => XS.icmpNo X0.here hx rfl (hb hby d2_17) rfl (teq rfl).2 kZ) ?_
  refine own_by (S' := s₁.setTop (mkF m 21 #[.val (.int (1 : Int32)), .val (.ref ca), .unset] [(.int (1 : Int32))])) (fun tZ kZ => XS.iconst X0.here hx rfl (hb hby d2_20) kZ) ?_
  obtain ⟨T1, h1, k1, X1, e1, E1, A1, st1⟩ := newP X0 hx hZ (hw_ hw 1 rfl) e0 (g := (mkF m 21 #[.val (.int (1 : Int32)), .val (.ref ca), .unset] [(.int (1 : Int32))])) rfl (hb hby d2_21) rfl (by decide) (cap := 1) (by decide) (by decide) (by decide) (by decide)
  obtain ⟨b1, g1⟩ : ∃ z, z = h0.size := ⟨_, rfl⟩
  rw [← g1] at A1 st1
  have g_b1 : n0 ≤ b1 := Nat.le_trans Z0 (Nat.le_of_eq g1.symm)
  have sz_b1 : h0.size ≤ b1 := Nat.le_trans (Keep.refl h0 []).1 (Nat.le_of_eq g1.symm)
  have Zs1 : n0 ≤ h1.size := Nat.le_trans Z0 E1.1
  have K1 := (Keep.refl h0 []).ext E1
  have V_b1 := OwnA.new A1
  refine own_by (S' := T1.setTop (mkF m 23 #[.val (.int (1 : Int32)), .val (.ref ca), .unset] [(.ref b1)])) st1 ?_
  have V_b1' : OwnA Z h1 b1 k1 .char [.int 0] := V_b1
  refine own_by (S' := T1.setTop (mkF m 24 #[.val (.int (1 : Int32)), .val (.ref ca), .val (.ref b1)] [])) (fun tZ kZ => XS.astoreN X1.here hx rfl (hb hby d2_23) rfl rfl (l' := #[.val (.int (1 : Int32)), .val (.ref ca), .val (.ref b1)]) rfl kZ) ?_
  refine own_by (S' := T1.setTop (mkF m 25 #[.val (.int (1 : Int32)), .val (.ref ca), .val (.ref b1)] [(.ref b1)])) (fun tZ kZ => XS.aloadN X1.here hx rfl (hb hby d2_24) rfl rfl kZ) ?_
  refine own_by (S' := T1.setTop (mkF m 26 #[.val (.int (1 : Int32)), .val (.ref ca), .val (.ref b1)] [(.int (0 : Int32)), (.ref b1)])) (fun tZ kZ => XS.iconst X1.here hx rfl (hb hby d2_25) kZ) ?_
  refine own_by (S' := T1.setTop (mkF m 27 #[.val (.int (1 : Int32)), .val (.ref ca), .val (.ref b1)] [(.ref ca), (.int (0 : Int32)), (.ref b1)])) (fun tZ kZ => XS.aloadN X1.here hx rfl (hb hby d2_26) rfl rfl kZ) ?_
  refine own_by (S' := T1.setTop (mkF m 28 #[.val (.int (1 : Int32)), .val (.ref ca), .val (.ref b1)] [(.int (0 : Int32)), (.ref ca), (.int (0 : Int32)), (.ref b1)])) (fun tZ kZ => XS.iconst X1.here hx rfl (hb hby d2_27) kZ) ?_
  have ExK1 := own_ext0 K1
  obtain ⟨cc2, Ar2, hc2, hl2⟩ := id (V_c.ext ExK1)
  refine own_by (S' := T1.setTop (mkF m 29 #[.val (.int (1 : Int32)), .val (.ref ca), .val (.ref b1)] [(.int u0), (.int (0 : Int32)), (.ref b1)])) (fun tZ kZ => X1.caload hx (j := (0 : Int32)) (v := (.int u0)) (by rw [e1]; exact Ar2.1) (State.isArrayOf_alike hZ.alike Ar2.2.1) Ar2.2.2 (OwnA.inb (j := (0 : Int32)) hl2 (by decide) (Nat.le_of_ble_eq_true rfl)) (OwnA.at (j := (0 : Int32)) hl2 rfl) (g := (mkF m 28 #[.val (.int (1 : Int32)), .val (.ref ca), .val (.ref b1)] [(.int (0 : Int32)), (.ref ca), (.int (0 : Int32)), (.ref b1)])) rfl rfl (hb hby d2_28) _ kZ) ?_
  obtain ⟨cc3, Ar3, hc3, hl3⟩ := id V_b1'
  have hin3 := OwnA.inb (j := (0 : Int32)) hl3 (by decide) (Nat.le_of_ble_eq_true rfl)
  obtain ⟨T3, h3, X3, e3, W3, st3⟩ := stC X1 hx hZ e1 Ar3 (j := (0 : Int32)) hin3 (g := (mkF m 29 #[.val (.int (1 : Int32)), .val (.ref ca), .val (.ref b1)] [(.int u0), (.int (0 : Int32)), (.ref b1)])) rfl rfl (hb hby d2_29)
  have N3 := Fr.snoc X3 N0 g_b1
  have Zs3 : n0 ≤ h3.size := Nat.le_trans Zs1 (Keep.of_wr W3).1
  have K3 := K1.wr W3 (Or.inr sz_b1)
  have V_b1_w3 : OwnA Z h3 b1 k1 .char [.int u0] := (by have q := (V_b1'.set W3); rw [own_narc cu0] at q; exact q)
  refine own_by (S' := T3.setTop (mkF m 30 #[.val (.int (1 : Int32)), .val (.ref ca), .val (.ref b1)] [])) st3 ?_
  obtain ⟨T4, h4, X4, e4, E4, A4, D4, U4, st4⟩ := newO X3 hx hZ hown (hw_ hw 12 rfl) (hw_ hw 13 rfl) (hw_ hw 14 rfl) e3 (g := (mkF m 30 #[.val (.int (1 : Int32)), .val (.ref ca), .val (.ref b1)] [])) rfl (hb hby d2_30) (by decide) (by decide)
  obtain ⟨b4, g4⟩ : ∃ z, z = h3.size := ⟨_, rfl⟩
  rw [← g4] at A4 D4 U4 st4
  have ne_b1_b4 : b1 ≠ b4 := Nat.ne_of_lt (Nat.lt_of_lt_of_le V_b1_w3.lt (Nat.le_of_eq g4.symm))
  have g_b4 : n0 ≤ b4 := Nat.le_trans Zs3 (Nat.le_of_eq g4.symm)
  have sz_b4 : h0.size ≤ b4 := Nat.le_trans K3.1 (Nat.le_of_eq g4.symm)
  have V_b1_4 := V_b1_w3.ext E4
  have Zs4 : n0 ≤ h4.size := Nat.le_trans Zs3 E4.1
  have K4 := K3.ext E4
  have Ex_b4 := A4
  have F_value_b4 : Fld Z h4 b4 "java/lang/String" "value" "[B" .null := D4 (Or.inr (hw_ hw 27 rfl)) (ty := (.array .byte)) (by decide)
  have F_coder_b4 : Fld Z h4 b4 "java/lang/String" "coder" "B" (.int (0 : Int32)) := D4 (Or.inr (hw_ hw 28 rfl)) (ty := .byte) (by decide)
  refine own_by (S' := T4.setTop (mkF m 33 #[.val (.int (1 : Int32)), .val (.ref ca), .val (.ref b1)] [(.ref b4)])) st4 ?_
  refine own_by (S' := T4.setTop (mkF m 34 #[.val (.int (1 : Int32)), .val (.ref ca), .val (.ref b1)] [(.ref b4), (.ref b4)])) (fun tZ kZ => XS.dup X4.here hx rfl (hb hby d2_33) rfl rfl kZ) ?_
  refine own_by (S' := T4.setTop (mkF m 35 #[.val (.int (1 : Int32)), .val (.ref ca), .val (.ref b1)] [(.ref b1), (.ref b4), (.ref b4)])) (fun tZ kZ => XS.aloadN X4.here hx rfl (hb hby d2_34) rfl rfl kZ) ?_
  have hus : ∀ q ∈ [u0], CU q := own_hust (own_hus4 cu0 cu1 cu2 cu3) 1
  have ExK4 := own_ext0 K4
  obtain ⟨_, _, ⟨T5, L5, k5, n5⟩, -, X5, ⟨Lc5, hQ5, l5, y5, z5⟩, st5⟩ := X4.specialBack hx (y := (⟨"java/lang/String", "<init>", "([C)V"⟩ : MethodName)) rfl hown (mvT hZ (hw_ hw 15 rfl)) (mvT hZ (hw_ hw 16 rfl)) (mvT hZ (hw_ hw 17 rfl)) (by decide) (backOf (W := 1) (rmSI1 l Z a0 hw [] b4 b1 k1 [u0] (1 : Int32) cz fm h4 n0 Zs4 V_b1_4 rfl (Nat.le_of_ble_eq_true rfl) hus (Nat.le_of_ble_eq_true rfl) (W.ext ExK4) Ex_b4 F_value_b4 F_coder_b4 g_b4) hZ (hw_ hw 17 rfl) (hw_ hw 14 rfl) (by decide) (by decide)) (g := (mkF m 35 #[.val (.int (1 : Int32)), .val (.ref ca), .val (.ref b1)] [(.ref b1), (.ref b4), (.ref b4)])) rfl (by rw [hml]; rfl) (Steps.refl _) (a := b4) (argsL := [(.ref b1)]) (rest := [(.ref b4)]) (lenOf pd_26 rfl) rfl (by show 2 * 0 + _ ≤ _; exact Nat.le_of_eq rfl) (hb hby d2_35) (fun _ _ => ⟨rfl, e4, (by decide : 2 + 2 ≤ _), (by decide : 5 + 12 ≤ _)⟩)
  dsimp only [Pt.U, Pt.locs, Pt.cells, Pt.slots] at X5 l5 y5 z5 st5 hQ5
  subst l5 y5 z5
  obtain ⟨rfl, N5q, Kc5, qs5⟩ := hQ5
  have N5 := Fr.app N3 N5q
  have Zs5 := Nat.le_trans Zs4 Kc5.1
  have K5 := K4.trans Kc5 (fun x hx => by
      simp only [List.mem_cons, List.not_mem_nil, or_false] at hx
      rcases hx with rfl
      · exact Or.inr sz_b4)
  have V_b1_5 := V_b1_4.keep Kc5 (by
      simp only [List.mem_cons, List.not_mem_nil, or_false, not_or]
      exact ne_b1_b4)
  have Ex_b4_5 := Ex_b4.keep Kc5
  refine own_by (S' := T5.setTop (mkF m 38 #[.val (.int (1 : Int32)), .val (.ref ca), .val (.ref b1)] [(.ref b4)])) (fun tZ kZ => st5.trans kZ) ?_
  exact own_retA X5 hx Bd.returns rfl rfl (hb hby d2_38) Bd.notSynchronized (by decide) (by decide) ⟨b4, rfl, N5, K5, qs5⟩
theorem ef_rmMake2 (m : MethodId) (ca : Addr) : entryFrame m #[(.int (2 : Int32)), (.ref ca)] 3 = mkF m 0 #[.val (.int (2 : Int32)), .val (.ref ca), .unset] [] := by first | (simp [entryFrame, mkF, argsToLocals, Value.category, maxLocals]; done) | rfl
set_option maxRecDepth 65536 in
set_option maxHeartbeats 40000000 in
theorem rmMake2 (l : Launch) (Z : State) (a0 : Array Value) (hw : ∀ d ∈ tables_1, d.before a0 Z = true) (ws : List Jvm.Cond) (ca : Addr) (kc : ClassId) (u0 u1 u2 u3 : Int32) (cz : Int32) (fm : Value) (h0 : Heap) (n0 : Nat) (Z0 : n0 ≤ h0.size) (V_c : OwnA Z h0 ca kc .char (cV [u0, u1, u2, u3])) (cu0 : CU u0) (cu1 : CU u1) (cu2 : CU u2) (cu3 : CU u3) (W : OwnW Z h0 cz fm) :
    MetFree l (⟨"com/example/idpd/idpd/TextsPrefixPinLaw", "make", "(I[C)Ljava/lang/String;"⟩ : MethodName) (head1 (Jvm.Cond.code (⟨"com/example/idpd/idpd/TextsPrefixPinLaw", "make", "(I[C)Ljava/lang/String;"⟩ : MethodName) method_6_code (3 : Nat) (Option.some (Jvm.ClassFile.FieldType.object "java/lang/String")) :: ws) ({ frames := 6, cells := 4, slots := 18, locals := 88 } : Room)) (fun aZ UZ => aZ = #[(.int (2 : Int32)), (.ref ca)] ∧ Z.Warmed39 UZ.vm ∧ UZ.heap = h0) (fun _ _ _ _ _ => True) (fun _ UZ oZ VZ => ∃ vZ LZ, oZ = .returned vZ ∧ (QStr Z [u0, u1] h0 n0) vZ VZ.heap LZ ∧ FrameEnd UZ oZ VZ LZ ({ frames := 6, cells := 4, slots := 18, locals := 88 } : Room).cells ({ frames := 6, cells := 4, slots := 18, locals := 88 } : Room).slots) := by
  refine MetFree.of_bodySF (plainFor_of_name pn_5) hisR ?_
  intro p e s m args below meth c s₁ Bd hml0 hP hK
  obtain ⟨rfl, hZ, hh⟩ := hP
  have hx := Bd.exec
  have hby := Bd.bytes
  have hml : c.maxLocals = 3 := hml0
  have hown : s.vm.findClass "com/example/idpd/idpd/TextsPrefixPinLaw" = some m.cls := findClass_of_methodNamed Bd.named
  have hnm := (name_of_methodNamed Bd.named Bd.method).1
  have X0 : Stand p l e ({ frames := 6, cells := 4, slots := 18, locals := 88 } : Room) s m #[(.int (2 : Int32)), (.ref ca)] below meth c s₁ [] 0 0 := Stand.of_body Bd
  have e0 : s₁.heap = h0 := by rw [← hh, Bd.state]; rfl
  have N0 := Fr.nil n0
  show OwnG p e below (OwnE s (QStr Z [u0, u1] h0 n0) ({ frames := 6, cells := 4, slots := 18, locals := 88 } : Room).cells ({ frames := 6, cells := 4, slots := 18, locals := 88 } : Room).slots) _
  refine own_by (S' := s₁.setTop (mkF m 0 #[.val (.int (2 : Int32)), .val (.ref ca), .unset] [])) (fun tZ kZ => castTop (ef_rmMake2 m ca) kZ) ?_
  refine own_by (S' := s₁.setTop (mkF m 1 #[.val (.int (2 : Int32)), .val (.ref ca), .unset] [(.int (2 : Int32))])) (fun tZ kZ => XS.iloadN X0.here hx rfl (hb hby d2_0) rfl kZ) ?_
  refine own_by (S' := s₁.setTop (mkF m 15 #[.val (.int (2 : Int32)), .val (.ref ca), .unset] [])) (fun tZ kZ => XS.ifYes X0.here hx rfl (pc0 := 1) (pc' := 15) rfl (hb hby d2_1) rfl ((if0 _ _).trans (feq (by decide)).2) (by decide) (by decide) kZ) ?_
  refine own_by (S' := s₁.setTop (mkF m 16 #[.val (.int (2 : Int32)), .val (.ref ca), .unset] [(.int (2 : Int32))])) (fun tZ kZ => XS.iloadN X0.here hx rfl (hb hby d2_15) rfl kZ) ?_
  refine own_by (S' := s₁.setTop (mkF m 17 #[.val (.int (2 : Int32)), .val (.ref ca), .unset] [(.int (1 : Int32)), (.int (2 : Int32))])) (fun tZ kZ => XS.iconst X0.here hx rfl (hb hby d2_16) kZ) ?_
  refine own_by (S' := s₁.setTop (mkF m 39 #[.val (.int (2 : Int32)), .val (.ref ca), .unset] [])) (fun tZ kZ => XS.icmpYes X0.here hx rfl (pc0 := 17) (pc' := 39) rfl (hb hby d2_17) rfl (feq (by decide)).2 (by decide) (by decide) kZ) ?_
  refine own_by (S' := s₁.setTop (mkF m 40 #[.val (.int (2 : Int32)), .val (.ref ca), .unset] [(.int (2 : Int32))])) (fun tZ kZ => XS.iloadN X0.here hx rfl (hb hby d2_39) rfl kZ) ?_
  refine own_by (S' := s₁.setTop (mkF m 41 #[.val (.int (2 : Int32)), .val (.ref ca), .unset] [(.int (2 : Int32)), (.int (2 : Int32))])) (fun tZ kZ => XS.iconst X0.here hx rfl (hb hby d2_40) kZ) ?_
  refine own_by (S' := s₁.setTop (mkF m 44 #[.val (.int (2 : Int32)), .val (.ref ca), .unset] [])) (fun tZ kZ => XS.icmpNo X0.here hx rfl (hb hby d2_41) rfl (teq rfl).2 kZ) ?_
  refine own_by (S' := s₁.setTop (mkF m 45 #[.val (.int (2 : Int32)), .val (.ref ca), .unset] [(.int (2 : Int32))])) (fun tZ kZ => XS.iconst X0.here hx rfl (hb hby d2_44) kZ) ?_
  obtain ⟨T1, h1, k1, X1, e1, E1, A1, st1⟩ := newP X0 hx hZ (hw_ hw 1 rfl) e0 (g := (mkF m 45 #[.val (.int (2 : Int32)), .val (.ref ca), .unset] [(.int (2 : Int32))])) rfl (hb hby d2_45) rfl (by decide) (cap := 2) (by decide) (by decide) (by decide) (by decide)
  obtain ⟨b1, g1⟩ : ∃ z, z = h0.size := ⟨_, rfl⟩
  rw [← g1] at A1 st1
  have g_b1 : n0 ≤ b1 := Nat.le_trans Z0 (Nat.le_of_eq g1.symm)
  have sz_b1 : h0.size ≤ b1 := Nat.le_trans (Keep.refl h0 []).1 (Nat.le_of_eq g1.symm)
  have Zs1 : n0 ≤ h1.size := Nat.le_trans Z0 E1.1
  have K1 := (Keep.refl h0 []).ext E1
  have V_b1 := OwnA.new A1
  refine own_by (S' := T1.setTop (mkF m 47 #[.val (.int (2 : Int32)), .val (.ref ca), .unset] [(.ref b1)])) st1 ?_
  have V_b1' : OwnA Z h1 b1 k1 .char [.int 0, .int 0] := V_b1
  refine own_by (S' := T1.setTop (mkF m 48 #[.val (.int (2 : Int32)), .val (.ref ca), .val (.ref b1)] [])) (fun tZ kZ => XS.astoreN X1.here hx rfl (hb hby d2_47) rfl rfl (l' := #[.val (.int (2 : Int32)), .val (.ref ca), .val (.ref b1)]) rfl kZ) ?_
  refine own_by (S' := T1.setTop (mkF m 49 #[.val (.int (2 : Int32)), .val (.ref ca), .val (.ref b1)] [(.ref b1)])) (fun tZ kZ => XS.aloadN X1.here hx rfl (hb hby d2_48) rfl rfl kZ) ?_
  refine own_by (S' := T1.setTop (mkF m 50 #[.val (.int (2 : Int32)), .val (.ref ca), .val (.ref b1)] [(.int (0 : Int32)), (.ref b1)])) (fun tZ kZ => XS.iconst X1.here hx rfl (hb hby d2_49) kZ) ?_
  refine own_by (S' := T1.setTop (mkF m 51 #[.val (.int (2 : Int32)), .val (.ref ca), .val (.ref b1)] [(.ref ca), (.int (0 : Int32)), (.ref b1)])) (fun tZ kZ => XS.aloadN X1.here hx rfl (hb hby d2_50) rfl rfl kZ) ?_
  refine own_by (S' := T1.setTop (mkF m 52 #[.val (.int (2 : Int32)), .val (.ref ca), .val (.ref b1)] [(.int (0 : Int32)), (.ref ca), (.int (0 : Int32)), (.ref b1)])) (fun tZ kZ => XS.iconst X1.here hx rfl (hb hby d2_51) kZ) ?_
  have ExK1 := own_ext0 K1
  obtain ⟨cc2, Ar2, hc2, hl2⟩ := id (V_c.ext ExK1)
  refine own_by (S' := T1.setTop (mkF m 53 #[.val (.int (2 : Int32)), .val (.ref ca), .val (.ref b1)] [(.int u0), (.int (0 : Int32)), (.ref b1)])) (fun tZ kZ => X1.caload hx (j := (0 : Int32)) (v := (.int u0)) (by rw [e1]; exact Ar2.1) (State.isArrayOf_alike hZ.alike Ar2.2.1) Ar2.2.2 (OwnA.inb (j := (0 : Int32)) hl2 (by decide) (Nat.le_of_ble_eq_true rfl)) (OwnA.at (j := (0 : Int32)) hl2 rfl) (g := (mkF m 52 #[.val (.int (2 : Int32)), .val (.ref ca), .val (.ref b1)] [(.int (0 : Int32)), (.ref ca), (.int (0 : Int32)), (.ref b1)])) rfl rfl (hb hby d2_52) _ kZ) ?_
  obtain ⟨cc3, Ar3, hc3, hl3⟩ := id V_b1'
  have hin3 := OwnA.inb (j := (0 : Int32)) hl3 (by decide) (Nat.le_of_ble_eq_true rfl)
  obtain ⟨T3, h3, X3, e3, W3, st3⟩ := stC X1 hx hZ e1 Ar3 (j := (0 : Int32)) hin3 (g := (mkF m 53 #[.val (.int (2 : Int32)), .val (.ref ca), .val (.ref b1)] [(.int u0), (.int (0 : Int32)), (.ref b1)])) rfl rfl (hb hby d2_53)
  have N3 := Fr.snoc X3 N0 g_b1
  have Zs3 : n0 ≤ h3.size := Nat.le_trans Zs1 (Keep.of_wr W3).1
  have K3 := K1.wr W3 (Or.inr sz_b1)
  have V_b1_w3 : OwnA Z h3 b1 k1 .char [.int u0, .int 0] := (by have q := (V_b1'.set W3); rw [own_narc cu0] at q; exact q)
  refine own_by (S' := T3.setTop (mkF m 54 #[.val (.int (2 : Int32)), .val (.ref ca), .val (.ref b1)] [])) st3 ?_
  refine own_by (S' := T3.setTop (mkF m 55 #[.val (.int (2 : Int32)), .val (.ref ca), .val (.ref b1)] [(.ref b1)])) (fun tZ kZ => XS.aloadN X3.here hx rfl (hb hby d2_54) rfl rfl kZ) ?_
  refine own_by (S' := T3.setTop (mkF m 56 #[.val (.int (2 : Int32)), .val (.ref ca), .val (.ref b1)] [(.int (1 : Int32)), (.ref b1)])) (fun tZ kZ => XS.iconst X3.here hx rfl (hb hby d2_55) kZ) ?_
  refine own_by (S' := T3.setTop (mkF m 57 #[.val (.int (2 : Int32)), .val (.ref ca), .val (.ref b1)] [(.ref ca), (.int (1 : Int32)), (.ref b1)])) (fun tZ kZ => XS.aloadN X3.here hx rfl (hb hby d2_56) rfl rfl kZ) ?_
  refine own_by (S' := T3.setTop (mkF m 58 #[.val (.int (2 : Int32)), .val (.ref ca), .val (.ref b1)] [(.int (1 : Int32)), (.ref ca), (.int (1 : Int32)), (.ref b1)])) (fun tZ kZ => XS.iconst X3.here hx rfl (hb hby d2_57) kZ) ?_
  have ExK3 := own_ext0 K3
  obtain ⟨cc4, Ar4, hc4, hl4⟩ := id (V_c.ext ExK3)
  refine own_by (S' := T3.setTop (mkF m 59 #[.val (.int (2 : Int32)), .val (.ref ca), .val (.ref b1)] [(.int u1), (.int (1 : Int32)), (.ref b1)])) (fun tZ kZ => X3.caload hx (j := (1 : Int32)) (v := (.int u1)) (by rw [e3]; exact Ar4.1) (State.isArrayOf_alike hZ.alike Ar4.2.1) Ar4.2.2 (OwnA.inb (j := (1 : Int32)) hl4 (by decide) (Nat.le_of_ble_eq_true rfl)) (OwnA.at (j := (1 : Int32)) hl4 rfl) (g := (mkF m 58 #[.val (.int (2 : Int32)), .val (.ref ca), .val (.ref b1)] [(.int (1 : Int32)), (.ref ca), (.int (1 : Int32)), (.ref b1)])) rfl rfl (hb hby d2_58) _ kZ) ?_
  obtain ⟨cc5, Ar5, hc5, hl5⟩ := id V_b1_w3
  have hin5 := OwnA.inb (j := (1 : Int32)) hl5 (by decide) (Nat.le_of_ble_eq_true rfl)
  obtain ⟨T5, h5, X5, e5, W5, st5⟩ := stC X3 hx hZ e3 Ar5 (j := (1 : Int32)) hin5 (g := (mkF m 59 #[.val (.int (2 : Int32)), .val (.ref ca), .val (.ref b1)] [(.int u1), (.int (1 : Int32)), (.ref b1)])) rfl rfl (hb hby d2_59)
  have N5 := Fr.snoc X5 N3 g_b1
  have Zs5 : n0 ≤ h5.size := Nat.le_trans Zs3 (Keep.of_wr W5).1
  have K5 := K3.wr W5 (Or.inr sz_b1)
  have V_b1_w5 : OwnA Z h5 b1 k1 .char [.int u0, .int u1] := (by have q := (V_b1_w3.set W5); rw [own_narc cu1] at q; exact q)
  refine own_by (S' := T5.setTop (mkF m 60 #[.val (.int (2 : Int32)), .val (.ref ca), .val (.ref b1)] [])) st5 ?_
  obtain ⟨T6, h6, X6, e6, E6, A6, D6, U6, st6⟩ := newO X5 hx hZ hown (hw_ hw 12 rfl) (hw_ hw 13 rfl) (hw_ hw 14 rfl) e5 (g := (mkF m 60 #[.val (.int (2 : Int32)), .val (.ref ca), .val (.ref b1)] [])) rfl (hb hby d2_60) (by decide) (by decide)
  obtain ⟨b6, g6⟩ : ∃ z, z = h5.size := ⟨_, rfl⟩
  rw [← g6] at A6 D6 U6 st6
  have ne_b1_b6 : b1 ≠ b6 := Nat.ne_of_lt (Nat.lt_of_lt_of_le V_b1_w5.lt (Nat.le_of_eq g6.symm))
  have g_b6 : n0 ≤ b6 := Nat.le_trans Zs5 (Nat.le_of_eq g6.symm)
  have sz_b6 : h0.size ≤ b6 := Nat.le_trans K5.1 (Nat.le_of_eq g6.symm)
  have V_b1_6 := V_b1_w5.ext E6
  have Zs6 : n0 ≤ h6.size := Nat.le_trans Zs5 E6.1
  have K6 := K5.ext E6
  have Ex_b6 := A6
  have F_value_b6 : Fld Z h6 b6 "java/lang/String" "value" "[B" .null := D6 (Or.inr (hw_ hw 27 rfl)) (ty := (.array .byte)) (by decide)
  have F_coder_b6 : Fld Z h6 b6 "java/lang/String" "coder" "B" (.int (0 : Int32)) := D6 (Or.inr (hw_ hw 28 rfl)) (ty := .byte) (by decide)
  refine own_by (S' := T6.setTop (mkF m 63 #[.val (.int (2 : Int32)), .val (.ref ca), .val (.ref b1)] [(.ref b6)])) st6 ?_
  refine own_by (S' := T6.setTop (mkF m 64 #[.val (.int (2 : Int32)), .val (.ref ca), .val (.ref b1)] [(.ref b6), (.ref b6)])) (fun tZ kZ => XS.dup X6.here hx rfl (hb hby d2_63) rfl rfl kZ) ?_
  refine own_by (S' := T6.setTop (mkF m 65 #[.val (.int (2 : Int32)), .val (.ref ca), .val (.ref b1)] [(.ref b1), (.ref b6), (.ref b6)])) (fun tZ kZ => XS.aloadN X6.here hx rfl (hb hby d2_64) rfl rfl kZ) ?_
  have hus : ∀ q ∈ [u0, u1], CU q := own_hust (own_hus4 cu0 cu1 cu2 cu3) 2
  have ExK6 := own_ext0 K6
  obtain ⟨_, _, ⟨T7, L7, k7, n7⟩, -, X7, ⟨Lc7, hQ7, l7, y7, z7⟩, st7⟩ := X6.specialBack hx (y := (⟨"java/lang/String", "<init>", "([C)V"⟩ : MethodName)) rfl hown (mvT hZ (hw_ hw 15 rfl)) (mvT hZ (hw_ hw 16 rfl)) (mvT hZ (hw_ hw 17 rfl)) (by decide) (backOf (W := 1) (rmSI1 l Z a0 hw [] b6 b1 k1 [u0, u1] (2 : Int32) cz fm h6 n0 Zs6 V_b1_6 rfl (Nat.le_of_ble_eq_true rfl) hus (Nat.le_of_ble_eq_true rfl) (W.ext ExK6) Ex_b6 F_value_b6 F_coder_b6 g_b6) hZ (hw_ hw 17 rfl) (hw_ hw 14 rfl) (by decide) (by decide)) (g := (mkF m 65 #[.val (.int (2 : Int32)), .val (.ref ca), .val (.ref b1)] [(.ref b1), (.ref b6), (.ref b6)])) rfl (by rw [hml]; rfl) (Steps.refl _) (a := b6) (argsL := [(.ref b1)]) (rest := [(.ref b6)]) (lenOf pd_26 rfl) rfl (by show 2 * 0 + _ ≤ _; exact Nat.le_of_eq rfl) (hb hby d2_65) (fun _ _ => ⟨rfl, e6, (by decide : 2 + 2 ≤ _), (by decide : 6 + 12 ≤ _)⟩)
  dsimp only [Pt.U, Pt.locs, Pt.cells, Pt.slots] at X7 l7 y7 z7 st7 hQ7
  subst l7 y7 z7
  obtain ⟨rfl, N7q, Kc7, qs7⟩ := hQ7
  have N7 := Fr.app N5 N7q
  have Zs7 := Nat.le_trans Zs6 Kc7.1
  have K7 := K6.trans Kc7 (fun x hx => by
      simp only [List.mem_cons, List.not_mem_nil, or_false] at hx
      rcases hx with rfl
      · exact Or.inr sz_b6)
  have V_b1_7 := V_b1_6.keep Kc7 (by
      simp only [List.mem_cons, List.not_mem_nil, or_false, not_or]
      exact ne_b1_b6)
  have Ex_b6_7 := Ex_b6.keep Kc7
  refine own_by (S' := T7.setTop (mkF m 68 #[.val (.int (2 : Int32)), .val (.ref ca), .val (.ref b1)] [(.ref b6)])) (fun tZ kZ => st7.trans kZ) ?_
  exact own_retA X7 hx Bd.returns rfl rfl (hb hby d2_68) Bd.notSynchronized (by decide) (by decide) ⟨b6, rfl, N7, K7, qs7⟩
theorem ef_rmMake3 (m : MethodId) (ca : Addr) : entryFrame m #[(.int (3 : Int32)), (.ref ca)] 3 = mkF m 0 #[.val (.int (3 : Int32)), .val (.ref ca), .unset] [] := by first | (simp [entryFrame, mkF, argsToLocals, Value.category, maxLocals]; done) | rfl
set_option maxRecDepth 65536 in
set_option maxHeartbeats 40000000 in
theorem rmMake3 (l : Launch) (Z : State) (a0 : Array Value) (hw : ∀ d ∈ tables_1, d.before a0 Z = true) (ws : List Jvm.Cond) (ca : Addr) (kc : ClassId) (u0 u1 u2 u3 : Int32) (cz : Int32) (fm : Value) (h0 : Heap) (n0 : Nat) (Z0 : n0 ≤ h0.size) (V_c : OwnA Z h0 ca kc .char (cV [u0, u1, u2, u3])) (cu0 : CU u0) (cu1 : CU u1) (cu2 : CU u2) (cu3 : CU u3) (W : OwnW Z h0 cz fm) :
    MetFree l (⟨"com/example/idpd/idpd/TextsPrefixPinLaw", "make", "(I[C)Ljava/lang/String;"⟩ : MethodName) (head1 (Jvm.Cond.code (⟨"com/example/idpd/idpd/TextsPrefixPinLaw", "make", "(I[C)Ljava/lang/String;"⟩ : MethodName) method_6_code (3 : Nat) (Option.some (Jvm.ClassFile.FieldType.object "java/lang/String")) :: ws) ({ frames := 6, cells := 4, slots := 19, locals := 88 } : Room)) (fun aZ UZ => aZ = #[(.int (3 : Int32)), (.ref ca)] ∧ Z.Warmed39 UZ.vm ∧ UZ.heap = h0) (fun _ _ _ _ _ => True) (fun _ UZ oZ VZ => ∃ vZ LZ, oZ = .returned vZ ∧ (QStr Z [u0, u1, u2] h0 n0) vZ VZ.heap LZ ∧ FrameEnd UZ oZ VZ LZ ({ frames := 6, cells := 4, slots := 19, locals := 88 } : Room).cells ({ frames := 6, cells := 4, slots := 19, locals := 88 } : Room).slots) := by
  refine MetFree.of_bodySF (plainFor_of_name pn_5) hisR ?_
  intro p e s m args below meth c s₁ Bd hml0 hP hK
  obtain ⟨rfl, hZ, hh⟩ := hP
  have hx := Bd.exec
  have hby := Bd.bytes
  have hml : c.maxLocals = 3 := hml0
  have hown : s.vm.findClass "com/example/idpd/idpd/TextsPrefixPinLaw" = some m.cls := findClass_of_methodNamed Bd.named
  have hnm := (name_of_methodNamed Bd.named Bd.method).1
  have X0 : Stand p l e ({ frames := 6, cells := 4, slots := 19, locals := 88 } : Room) s m #[(.int (3 : Int32)), (.ref ca)] below meth c s₁ [] 0 0 := Stand.of_body Bd
  have e0 : s₁.heap = h0 := by rw [← hh, Bd.state]; rfl
  have N0 := Fr.nil n0
  show OwnG p e below (OwnE s (QStr Z [u0, u1, u2] h0 n0) ({ frames := 6, cells := 4, slots := 19, locals := 88 } : Room).cells ({ frames := 6, cells := 4, slots := 19, locals := 88 } : Room).slots) _
  refine own_by (S' := s₁.setTop (mkF m 0 #[.val (.int (3 : Int32)), .val (.ref ca), .unset] [])) (fun tZ kZ => castTop (ef_rmMake3 m ca) kZ) ?_
  refine own_by (S' := s₁.setTop (mkF m 1 #[.val (.int (3 : Int32)), .val (.ref ca), .unset] [(.int (3 : Int32))])) (fun tZ kZ => XS.iloadN X0.here hx rfl (hb hby d2_0) rfl kZ) ?_
  refine own_by (S' := s₁.setTop (mkF m 15 #[.val (.int (3 : Int32)), .val (.ref ca), .unset] [])) (fun tZ kZ => XS.ifYes X0.here hx rfl (pc0 := 1) (pc' := 15) rfl (hb hby d2_1) rfl ((if0 _ _).trans (feq (by decide)).2) (by decide) (by decide) kZ) ?_
  refine own_by (S' := s₁.setTop (mkF m 16 #[.val (.int (3 : Int32)), .val (.ref ca), .unset] [(.int (3 : Int32))])) (fun tZ kZ => XS.iloadN X0.here hx rfl (hb hby d2_15) rfl kZ) ?_
  refine own_by (S' := s₁.setTop (mkF m 17 #[.val (.int (3 : Int32)), .val (.ref ca), .unset] [(.int (1 : Int32)), (.int (3 : Int32))])) (fun tZ kZ => XS.iconst X0.here hx rfl (hb hby d2_16) kZ) ?_
  refine own_by (S' := s₁.setTop (mkF m 39 #[.val (.int (3 : Int32)), .val (.ref ca), .unset] [])) (fun tZ kZ => XS.icmpYes X0.here hx rfl (pc0 := 17) (pc' := 39) rfl (hb hby d2_17) rfl (feq (by decide)).2 (by decide) (by decide) kZ) ?_
  refine own_by (S' := s₁.setTop (mkF m 40 #[.val (.int (3 : Int32)), .val (.ref ca), .unset] [(.int (3 : Int32))])) (fun tZ kZ => XS.iloadN X0.here hx rfl (hb hby d2_39) rfl kZ) ?_
  refine own_by (S' := s₁.setTop (mkF m 41 #[.val (.int (3 : Int32)), .val (.ref ca), .unset] [(.int (2 : Int32)), (.int (3 : Int32))])) (fun tZ kZ => XS.iconst X0.here hx rfl (hb hby d2_40) kZ) ?_
  refine own_by (S' := s₁.setTop (mkF m 69 #[.val (.int (3 : Int32)), .val (.ref ca), .unset] [])) (fun tZ kZ => XS.icmpYes X0.here hx rfl (pc0 := 41) (pc' := 69) rfl (hb hby d2_41) rfl (feq (by decide)).2 (by decide) (by decide) kZ) ?_
  refine own_by (S' := s₁.setTop (mkF m 70 #[.val (.int (3 : Int32)), .val (.ref ca), .unset] [(.int (3 : Int32))])) (fun tZ kZ => XS.iloadN X0.here hx rfl (hb hby d2_69) rfl kZ) ?_
  refine own_by (S' := s₁.setTop (mkF m 71 #[.val (.int (3 : Int32)), .val (.ref ca), .unset] [(.int (3 : Int32)), (.int (3 : Int32))])) (fun tZ kZ => XS.iconst X0.here hx rfl (hb hby d2_70) kZ) ?_
  refine own_by (S' := s₁.setTop (mkF m 74 #[.val (.int (3 : Int32)), .val (.ref ca), .unset] [])) (fun tZ kZ => XS.icmpNo X0.here hx rfl (hb hby d2_71) rfl (teq rfl).2 kZ) ?_
  refine own_by (S' := s₁.setTop (mkF m 75 #[.val (.int (3 : Int32)), .val (.ref ca), .unset] [(.int (3 : Int32))])) (fun tZ kZ => XS.iconst X0.here hx rfl (hb hby d2_74) kZ) ?_
  obtain ⟨T1, h1, k1, X1, e1, E1, A1, st1⟩ := newP X0 hx hZ (hw_ hw 1 rfl) e0 (g := (mkF m 75 #[.val (.int (3 : Int32)), .val (.ref ca), .unset] [(.int (3 : Int32))])) rfl (hb hby d2_75) rfl (by decide) (cap := 3) (by decide) (by decide) (by decide) (by decide)
  obtain ⟨b1, g1⟩ : ∃ z, z = h0.size := ⟨_, rfl⟩
  rw [← g1] at A1 st1
  have g_b1 : n0 ≤ b1 := Nat.le_trans Z0 (Nat.le_of_eq g1.symm)
  have sz_b1 : h0.size ≤ b1 := Nat.le_trans (Keep.refl h0 []).1 (Nat.le_of_eq g1.symm)
  have Zs1 : n0 ≤ h1.size := Nat.le_trans Z0 E1.1
  have K1 := (Keep.refl h0 []).ext E1
  have V_b1 := OwnA.new A1
  refine own_by (S' := T1.setTop (mkF m 77 #[.val (.int (3 : Int32)), .val (.ref ca), .unset] [(.ref b1)])) st1 ?_
  have V_b1' : OwnA Z h1 b1 k1 .char [.int 0, .int 0, .int 0] := V_b1
  refine own_by (S' := T1.setTop (mkF m 78 #[.val (.int (3 : Int32)), .val (.ref ca), .val (.ref b1)] [])) (fun tZ kZ => XS.astoreN X1.here hx rfl (hb hby d2_77) rfl rfl (l' := #[.val (.int (3 : Int32)), .val (.ref ca), .val (.ref b1)]) rfl kZ) ?_
  refine own_by (S' := T1.setTop (mkF m 79 #[.val (.int (3 : Int32)), .val (.ref ca), .val (.ref b1)] [(.ref b1)])) (fun tZ kZ => XS.aloadN X1.here hx rfl (hb hby d2_78) rfl rfl kZ) ?_
  refine own_by (S' := T1.setTop (mkF m 80 #[.val (.int (3 : Int32)), .val (.ref ca), .val (.ref b1)] [(.int (0 : Int32)), (.ref b1)])) (fun tZ kZ => XS.iconst X1.here hx rfl (hb hby d2_79) kZ) ?_
  refine own_by (S' := T1.setTop (mkF m 81 #[.val (.int (3 : Int32)), .val (.ref ca), .val (.ref b1)] [(.ref ca), (.int (0 : Int32)), (.ref b1)])) (fun tZ kZ => XS.aloadN X1.here hx rfl (hb hby d2_80) rfl rfl kZ) ?_
  refine own_by (S' := T1.setTop (mkF m 82 #[.val (.int (3 : Int32)), .val (.ref ca), .val (.ref b1)] [(.int (0 : Int32)), (.ref ca), (.int (0 : Int32)), (.ref b1)])) (fun tZ kZ => XS.iconst X1.here hx rfl (hb hby d2_81) kZ) ?_
  have ExK1 := own_ext0 K1
  obtain ⟨cc2, Ar2, hc2, hl2⟩ := id (V_c.ext ExK1)
  refine own_by (S' := T1.setTop (mkF m 83 #[.val (.int (3 : Int32)), .val (.ref ca), .val (.ref b1)] [(.int u0), (.int (0 : Int32)), (.ref b1)])) (fun tZ kZ => X1.caload hx (j := (0 : Int32)) (v := (.int u0)) (by rw [e1]; exact Ar2.1) (State.isArrayOf_alike hZ.alike Ar2.2.1) Ar2.2.2 (OwnA.inb (j := (0 : Int32)) hl2 (by decide) (Nat.le_of_ble_eq_true rfl)) (OwnA.at (j := (0 : Int32)) hl2 rfl) (g := (mkF m 82 #[.val (.int (3 : Int32)), .val (.ref ca), .val (.ref b1)] [(.int (0 : Int32)), (.ref ca), (.int (0 : Int32)), (.ref b1)])) rfl rfl (hb hby d2_82) _ kZ) ?_
  obtain ⟨cc3, Ar3, hc3, hl3⟩ := id V_b1'
  have hin3 := OwnA.inb (j := (0 : Int32)) hl3 (by decide) (Nat.le_of_ble_eq_true rfl)
  obtain ⟨T3, h3, X3, e3, W3, st3⟩ := stC X1 hx hZ e1 Ar3 (j := (0 : Int32)) hin3 (g := (mkF m 83 #[.val (.int (3 : Int32)), .val (.ref ca), .val (.ref b1)] [(.int u0), (.int (0 : Int32)), (.ref b1)])) rfl rfl (hb hby d2_83)
  have N3 := Fr.snoc X3 N0 g_b1
  have Zs3 : n0 ≤ h3.size := Nat.le_trans Zs1 (Keep.of_wr W3).1
  have K3 := K1.wr W3 (Or.inr sz_b1)
  have V_b1_w3 : OwnA Z h3 b1 k1 .char [.int u0, .int 0, .int 0] := (by have q := (V_b1'.set W3); rw [own_narc cu0] at q; exact q)
  refine own_by (S' := T3.setTop (mkF m 84 #[.val (.int (3 : Int32)), .val (.ref ca), .val (.ref b1)] [])) st3 ?_
  refine own_by (S' := T3.setTop (mkF m 85 #[.val (.int (3 : Int32)), .val (.ref ca), .val (.ref b1)] [(.ref b1)])) (fun tZ kZ => XS.aloadN X3.here hx rfl (hb hby d2_84) rfl rfl kZ) ?_
  refine own_by (S' := T3.setTop (mkF m 86 #[.val (.int (3 : Int32)), .val (.ref ca), .val (.ref b1)] [(.int (1 : Int32)), (.ref b1)])) (fun tZ kZ => XS.iconst X3.here hx rfl (hb hby d2_85) kZ) ?_
  refine own_by (S' := T3.setTop (mkF m 87 #[.val (.int (3 : Int32)), .val (.ref ca), .val (.ref b1)] [(.ref ca), (.int (1 : Int32)), (.ref b1)])) (fun tZ kZ => XS.aloadN X3.here hx rfl (hb hby d2_86) rfl rfl kZ) ?_
  refine own_by (S' := T3.setTop (mkF m 88 #[.val (.int (3 : Int32)), .val (.ref ca), .val (.ref b1)] [(.int (1 : Int32)), (.ref ca), (.int (1 : Int32)), (.ref b1)])) (fun tZ kZ => XS.iconst X3.here hx rfl (hb hby d2_87) kZ) ?_
  have ExK3 := own_ext0 K3
  obtain ⟨cc4, Ar4, hc4, hl4⟩ := id (V_c.ext ExK3)
  refine own_by (S' := T3.setTop (mkF m 89 #[.val (.int (3 : Int32)), .val (.ref ca), .val (.ref b1)] [(.int u1), (.int (1 : Int32)), (.ref b1)])) (fun tZ kZ => X3.caload hx (j := (1 : Int32)) (v := (.int u1)) (by rw [e3]; exact Ar4.1) (State.isArrayOf_alike hZ.alike Ar4.2.1) Ar4.2.2 (OwnA.inb (j := (1 : Int32)) hl4 (by decide) (Nat.le_of_ble_eq_true rfl)) (OwnA.at (j := (1 : Int32)) hl4 rfl) (g := (mkF m 88 #[.val (.int (3 : Int32)), .val (.ref ca), .val (.ref b1)] [(.int (1 : Int32)), (.ref ca), (.int (1 : Int32)), (.ref b1)])) rfl rfl (hb hby d2_88) _ kZ) ?_
  obtain ⟨cc5, Ar5, hc5, hl5⟩ := id V_b1_w3
  have hin5 := OwnA.inb (j := (1 : Int32)) hl5 (by decide) (Nat.le_of_ble_eq_true rfl)
  obtain ⟨T5, h5, X5, e5, W5, st5⟩ := stC X3 hx hZ e3 Ar5 (j := (1 : Int32)) hin5 (g := (mkF m 89 #[.val (.int (3 : Int32)), .val (.ref ca), .val (.ref b1)] [(.int u1), (.int (1 : Int32)), (.ref b1)])) rfl rfl (hb hby d2_89)
  have N5 := Fr.snoc X5 N3 g_b1
  have Zs5 : n0 ≤ h5.size := Nat.le_trans Zs3 (Keep.of_wr W5).1
  have K5 := K3.wr W5 (Or.inr sz_b1)
  have V_b1_w5 : OwnA Z h5 b1 k1 .char [.int u0, .int u1, .int 0] := (by have q := (V_b1_w3.set W5); rw [own_narc cu1] at q; exact q)
  refine own_by (S' := T5.setTop (mkF m 90 #[.val (.int (3 : Int32)), .val (.ref ca), .val (.ref b1)] [])) st5 ?_
  refine own_by (S' := T5.setTop (mkF m 91 #[.val (.int (3 : Int32)), .val (.ref ca), .val (.ref b1)] [(.ref b1)])) (fun tZ kZ => XS.aloadN X5.here hx rfl (hb hby d2_90) rfl rfl kZ) ?_
  refine own_by (S' := T5.setTop (mkF m 92 #[.val (.int (3 : Int32)), .val (.ref ca), .val (.ref b1)] [(.int (2 : Int32)), (.ref b1)])) (fun tZ kZ => XS.iconst X5.here hx rfl (hb hby d2_91) kZ) ?_
  refine own_by (S' := T5.setTop (mkF m 93 #[.val (.int (3 : Int32)), .val (.ref ca), .val (.ref b1)] [(.ref ca), (.int (2 : Int32)), (.ref b1)])) (fun tZ kZ => XS.aloadN X5.here hx rfl (hb hby d2_92) rfl rfl kZ) ?_
  refine own_by (S' := T5.setTop (mkF m 94 #[.val (.int (3 : Int32)), .val (.ref ca), .val (.ref b1)] [(.int (2 : Int32)), (.ref ca), (.int (2 : Int32)), (.ref b1)])) (fun tZ kZ => XS.iconst X5.here hx rfl (hb hby d2_93) kZ) ?_
  have ExK5 := own_ext0 K5
  obtain ⟨cc6, Ar6, hc6, hl6⟩ := id (V_c.ext ExK5)
  refine own_by (S' := T5.setTop (mkF m 95 #[.val (.int (3 : Int32)), .val (.ref ca), .val (.ref b1)] [(.int u2), (.int (2 : Int32)), (.ref b1)])) (fun tZ kZ => X5.caload hx (j := (2 : Int32)) (v := (.int u2)) (by rw [e5]; exact Ar6.1) (State.isArrayOf_alike hZ.alike Ar6.2.1) Ar6.2.2 (OwnA.inb (j := (2 : Int32)) hl6 (by decide) (Nat.le_of_ble_eq_true rfl)) (OwnA.at (j := (2 : Int32)) hl6 rfl) (g := (mkF m 94 #[.val (.int (3 : Int32)), .val (.ref ca), .val (.ref b1)] [(.int (2 : Int32)), (.ref ca), (.int (2 : Int32)), (.ref b1)])) rfl rfl (hb hby d2_94) _ kZ) ?_
  obtain ⟨cc7, Ar7, hc7, hl7⟩ := id V_b1_w5
  have hin7 := OwnA.inb (j := (2 : Int32)) hl7 (by decide) (Nat.le_of_ble_eq_true rfl)
  obtain ⟨T7, h7, X7, e7, W7, st7⟩ := stC X5 hx hZ e5 Ar7 (j := (2 : Int32)) hin7 (g := (mkF m 95 #[.val (.int (3 : Int32)), .val (.ref ca), .val (.ref b1)] [(.int u2), (.int (2 : Int32)), (.ref b1)])) rfl rfl (hb hby d2_95)
  have N7 := Fr.snoc X7 N5 g_b1
  have Zs7 : n0 ≤ h7.size := Nat.le_trans Zs5 (Keep.of_wr W7).1
  have K7 := K5.wr W7 (Or.inr sz_b1)
  have V_b1_w7 : OwnA Z h7 b1 k1 .char [.int u0, .int u1, .int u2] := (by have q := (V_b1_w5.set W7); rw [own_narc cu2] at q; exact q)
  refine own_by (S' := T7.setTop (mkF m 96 #[.val (.int (3 : Int32)), .val (.ref ca), .val (.ref b1)] [])) st7 ?_
  obtain ⟨T8, h8, X8, e8, E8, A8, D8, U8, st8⟩ := newO X7 hx hZ hown (hw_ hw 12 rfl) (hw_ hw 13 rfl) (hw_ hw 14 rfl) e7 (g := (mkF m 96 #[.val (.int (3 : Int32)), .val (.ref ca), .val (.ref b1)] [])) rfl (hb hby d2_96) (by decide) (by decide)
  obtain ⟨b8, g8⟩ : ∃ z, z = h7.size := ⟨_, rfl⟩
  rw [← g8] at A8 D8 U8 st8
  have ne_b1_b8 : b1 ≠ b8 := Nat.ne_of_lt (Nat.lt_of_lt_of_le V_b1_w7.lt (Nat.le_of_eq g8.symm))
  have g_b8 : n0 ≤ b8 := Nat.le_trans Zs7 (Nat.le_of_eq g8.symm)
  have sz_b8 : h0.size ≤ b8 := Nat.le_trans K7.1 (Nat.le_of_eq g8.symm)
  have V_b1_8 := V_b1_w7.ext E8
  have Zs8 : n0 ≤ h8.size := Nat.le_trans Zs7 E8.1
  have K8 := K7.ext E8
  have Ex_b8 := A8
  have F_value_b8 : Fld Z h8 b8 "java/lang/String" "value" "[B" .null := D8 (Or.inr (hw_ hw 27 rfl)) (ty := (.array .byte)) (by decide)
  have F_coder_b8 : Fld Z h8 b8 "java/lang/String" "coder" "B" (.int (0 : Int32)) := D8 (Or.inr (hw_ hw 28 rfl)) (ty := .byte) (by decide)
  refine own_by (S' := T8.setTop (mkF m 99 #[.val (.int (3 : Int32)), .val (.ref ca), .val (.ref b1)] [(.ref b8)])) st8 ?_
  refine own_by (S' := T8.setTop (mkF m 100 #[.val (.int (3 : Int32)), .val (.ref ca), .val (.ref b1)] [(.ref b8), (.ref b8)])) (fun tZ kZ => XS.dup X8.here hx rfl (hb hby d2_99) rfl rfl kZ) ?_
  refine own_by (S' := T8.setTop (mkF m 101 #[.val (.int (3 : Int32)), .val (.ref ca), .val (.ref b1)] [(.ref b1), (.ref b8), (.ref b8)])) (fun tZ kZ => XS.aloadN X8.here hx rfl (hb hby d2_100) rfl rfl kZ) ?_
  have hus : ∀ q ∈ [u0, u1, u2], CU q := own_hust (own_hus4 cu0 cu1 cu2 cu3) 3
  have ExK8 := own_ext0 K8
  obtain ⟨_, _, ⟨T9, L9, k9, n9⟩, -, X9, ⟨Lc9, hQ9, l9, y9, z9⟩, st9⟩ := X8.specialBack hx (y := (⟨"java/lang/String", "<init>", "([C)V"⟩ : MethodName)) rfl hown (mvT hZ (hw_ hw 15 rfl)) (mvT hZ (hw_ hw 16 rfl)) (mvT hZ (hw_ hw 17 rfl)) (by decide) (backOf (W := 1) (rmSI1 l Z a0 hw [] b8 b1 k1 [u0, u1, u2] (3 : Int32) cz fm h8 n0 Zs8 V_b1_8 rfl (Nat.le_of_ble_eq_true rfl) hus (Nat.le_of_ble_eq_true rfl) (W.ext ExK8) Ex_b8 F_value_b8 F_coder_b8 g_b8) hZ (hw_ hw 17 rfl) (hw_ hw 14 rfl) (by decide) (by decide)) (g := (mkF m 101 #[.val (.int (3 : Int32)), .val (.ref ca), .val (.ref b1)] [(.ref b1), (.ref b8), (.ref b8)])) rfl (by rw [hml]; rfl) (Steps.refl _) (a := b8) (argsL := [(.ref b1)]) (rest := [(.ref b8)]) (lenOf pd_26 rfl) rfl (by show 2 * 0 + _ ≤ _; exact Nat.le_of_eq rfl) (hb hby d2_101) (fun _ _ => ⟨rfl, e8, (by decide : 2 + 2 ≤ _), (by decide : 7 + 12 ≤ _)⟩)
  dsimp only [Pt.U, Pt.locs, Pt.cells, Pt.slots] at X9 l9 y9 z9 st9 hQ9
  subst l9 y9 z9
  obtain ⟨rfl, N9q, Kc9, qs9⟩ := hQ9
  have N9 := Fr.app N7 N9q
  have Zs9 := Nat.le_trans Zs8 Kc9.1
  have K9 := K8.trans Kc9 (fun x hx => by
      simp only [List.mem_cons, List.not_mem_nil, or_false] at hx
      rcases hx with rfl
      · exact Or.inr sz_b8)
  have V_b1_9 := V_b1_8.keep Kc9 (by
      simp only [List.mem_cons, List.not_mem_nil, or_false, not_or]
      exact ne_b1_b8)
  have Ex_b8_9 := Ex_b8.keep Kc9
  refine own_by (S' := T9.setTop (mkF m 104 #[.val (.int (3 : Int32)), .val (.ref ca), .val (.ref b1)] [(.ref b8)])) (fun tZ kZ => st9.trans kZ) ?_
  exact own_retA X9 hx Bd.returns rfl rfl (hb hby d2_104) Bd.notSynchronized (by decide) (by decide) ⟨b8, rfl, N9, K9, qs9⟩
theorem ef_rmMake4 (m : MethodId) (ca : Addr) : entryFrame m #[(.int (4 : Int32)), (.ref ca)] 3 = mkF m 0 #[.val (.int (4 : Int32)), .val (.ref ca), .unset] [] := by first | (simp [entryFrame, mkF, argsToLocals, Value.category, maxLocals]; done) | rfl
set_option maxRecDepth 65536 in
set_option maxHeartbeats 40000000 in
theorem rmMake4 (l : Launch) (Z : State) (a0 : Array Value) (hw : ∀ d ∈ tables_1, d.before a0 Z = true) (ws : List Jvm.Cond) (ca : Addr) (kc : ClassId) (u0 u1 u2 u3 : Int32) (cz : Int32) (fm : Value) (h0 : Heap) (n0 : Nat) (Z0 : n0 ≤ h0.size) (V_c : OwnA Z h0 ca kc .char (cV [u0, u1, u2, u3])) (cu0 : CU u0) (cu1 : CU u1) (cu2 : CU u2) (cu3 : CU u3) (W : OwnW Z h0 cz fm) :
    MetFree l (⟨"com/example/idpd/idpd/TextsPrefixPinLaw", "make", "(I[C)Ljava/lang/String;"⟩ : MethodName) (head1 (Jvm.Cond.code (⟨"com/example/idpd/idpd/TextsPrefixPinLaw", "make", "(I[C)Ljava/lang/String;"⟩ : MethodName) method_6_code (3 : Nat) (Option.some (Jvm.ClassFile.FieldType.object "java/lang/String")) :: ws) ({ frames := 6, cells := 4, slots := 20, locals := 88 } : Room)) (fun aZ UZ => aZ = #[(.int (4 : Int32)), (.ref ca)] ∧ Z.Warmed39 UZ.vm ∧ UZ.heap = h0) (fun _ _ _ _ _ => True) (fun _ UZ oZ VZ => ∃ vZ LZ, oZ = .returned vZ ∧ (QStr Z [u0, u1, u2, u3] h0 n0) vZ VZ.heap LZ ∧ FrameEnd UZ oZ VZ LZ ({ frames := 6, cells := 4, slots := 20, locals := 88 } : Room).cells ({ frames := 6, cells := 4, slots := 20, locals := 88 } : Room).slots) := by
  refine MetFree.of_bodySF (plainFor_of_name pn_5) hisR ?_
  intro p e s m args below meth c s₁ Bd hml0 hP hK
  obtain ⟨rfl, hZ, hh⟩ := hP
  have hx := Bd.exec
  have hby := Bd.bytes
  have hml : c.maxLocals = 3 := hml0
  have hown : s.vm.findClass "com/example/idpd/idpd/TextsPrefixPinLaw" = some m.cls := findClass_of_methodNamed Bd.named
  have hnm := (name_of_methodNamed Bd.named Bd.method).1
  have X0 : Stand p l e ({ frames := 6, cells := 4, slots := 20, locals := 88 } : Room) s m #[(.int (4 : Int32)), (.ref ca)] below meth c s₁ [] 0 0 := Stand.of_body Bd
  have e0 : s₁.heap = h0 := by rw [← hh, Bd.state]; rfl
  have N0 := Fr.nil n0
  show OwnG p e below (OwnE s (QStr Z [u0, u1, u2, u3] h0 n0) ({ frames := 6, cells := 4, slots := 20, locals := 88 } : Room).cells ({ frames := 6, cells := 4, slots := 20, locals := 88 } : Room).slots) _
  refine own_by (S' := s₁.setTop (mkF m 0 #[.val (.int (4 : Int32)), .val (.ref ca), .unset] [])) (fun tZ kZ => castTop (ef_rmMake4 m ca) kZ) ?_
  refine own_by (S' := s₁.setTop (mkF m 1 #[.val (.int (4 : Int32)), .val (.ref ca), .unset] [(.int (4 : Int32))])) (fun tZ kZ => XS.iloadN X0.here hx rfl (hb hby d2_0) rfl kZ) ?_
  refine own_by (S' := s₁.setTop (mkF m 15 #[.val (.int (4 : Int32)), .val (.ref ca), .unset] [])) (fun tZ kZ => XS.ifYes X0.here hx rfl (pc0 := 1) (pc' := 15) rfl (hb hby d2_1) rfl ((if0 _ _).trans (feq (by decide)).2) (by decide) (by decide) kZ) ?_
  refine own_by (S' := s₁.setTop (mkF m 16 #[.val (.int (4 : Int32)), .val (.ref ca), .unset] [(.int (4 : Int32))])) (fun tZ kZ => XS.iloadN X0.here hx rfl (hb hby d2_15) rfl kZ) ?_
  refine own_by (S' := s₁.setTop (mkF m 17 #[.val (.int (4 : Int32)), .val (.ref ca), .unset] [(.int (1 : Int32)), (.int (4 : Int32))])) (fun tZ kZ => XS.iconst X0.here hx rfl (hb hby d2_16) kZ) ?_
  refine own_by (S' := s₁.setTop (mkF m 39 #[.val (.int (4 : Int32)), .val (.ref ca), .unset] [])) (fun tZ kZ => XS.icmpYes X0.here hx rfl (pc0 := 17) (pc' := 39) rfl (hb hby d2_17) rfl (feq (by decide)).2 (by decide) (by decide) kZ) ?_
  refine own_by (S' := s₁.setTop (mkF m 40 #[.val (.int (4 : Int32)), .val (.ref ca), .unset] [(.int (4 : Int32))])) (fun tZ kZ => XS.iloadN X0.here hx rfl (hb hby d2_39) rfl kZ) ?_
  refine own_by (S' := s₁.setTop (mkF m 41 #[.val (.int (4 : Int32)), .val (.ref ca), .unset] [(.int (2 : Int32)), (.int (4 : Int32))])) (fun tZ kZ => XS.iconst X0.here hx rfl (hb hby d2_40) kZ) ?_
  refine own_by (S' := s₁.setTop (mkF m 69 #[.val (.int (4 : Int32)), .val (.ref ca), .unset] [])) (fun tZ kZ => XS.icmpYes X0.here hx rfl (pc0 := 41) (pc' := 69) rfl (hb hby d2_41) rfl (feq (by decide)).2 (by decide) (by decide) kZ) ?_
  refine own_by (S' := s₁.setTop (mkF m 70 #[.val (.int (4 : Int32)), .val (.ref ca), .unset] [(.int (4 : Int32))])) (fun tZ kZ => XS.iloadN X0.here hx rfl (hb hby d2_69) rfl kZ) ?_
  refine own_by (S' := s₁.setTop (mkF m 71 #[.val (.int (4 : Int32)), .val (.ref ca), .unset] [(.int (3 : Int32)), (.int (4 : Int32))])) (fun tZ kZ => XS.iconst X0.here hx rfl (hb hby d2_70) kZ) ?_
  refine own_by (S' := s₁.setTop (mkF m 105 #[.val (.int (4 : Int32)), .val (.ref ca), .unset] [])) (fun tZ kZ => XS.icmpYes X0.here hx rfl (pc0 := 71) (pc' := 105) rfl (hb hby d2_71) rfl (feq (by decide)).2 (by decide) (by decide) kZ) ?_
  refine own_by (S' := s₁.setTop (mkF m 106 #[.val (.int (4 : Int32)), .val (.ref ca), .unset] [(.int (4 : Int32))])) (fun tZ kZ => XS.iconst X0.here hx rfl (hb hby d2_105) kZ) ?_
  obtain ⟨T1, h1, k1, X1, e1, E1, A1, st1⟩ := newP X0 hx hZ (hw_ hw 1 rfl) e0 (g := (mkF m 106 #[.val (.int (4 : Int32)), .val (.ref ca), .unset] [(.int (4 : Int32))])) rfl (hb hby d2_106) rfl (by decide) (cap := 4) (by decide) (by decide) (by decide) (by decide)
  obtain ⟨b1, g1⟩ : ∃ z, z = h0.size := ⟨_, rfl⟩
  rw [← g1] at A1 st1
  have g_b1 : n0 ≤ b1 := Nat.le_trans Z0 (Nat.le_of_eq g1.symm)
  have sz_b1 : h0.size ≤ b1 := Nat.le_trans (Keep.refl h0 []).1 (Nat.le_of_eq g1.symm)
  have Zs1 : n0 ≤ h1.size := Nat.le_trans Z0 E1.1
  have K1 := (Keep.refl h0 []).ext E1
  have V_b1 := OwnA.new A1
  refine own_by (S' := T1.setTop (mkF m 108 #[.val (.int (4 : Int32)), .val (.ref ca), .unset] [(.ref b1)])) st1 ?_
  have V_b1' : OwnA Z h1 b1 k1 .char [.int 0, .int 0, .int 0, .int 0] := V_b1
  refine own_by (S' := T1.setTop (mkF m 109 #[.val (.int (4 : Int32)), .val (.ref ca), .val (.ref b1)] [])) (fun tZ kZ => XS.astoreN X1.here hx rfl (hb hby d2_108) rfl rfl (l' := #[.val (.int (4 : Int32)), .val (.ref ca), .val (.ref b1)]) rfl kZ) ?_
  refine own_by (S' := T1.setTop (mkF m 110 #[.val (.int (4 : Int32)), .val (.ref ca), .val (.ref b1)] [(.ref b1)])) (fun tZ kZ => XS.aloadN X1.here hx rfl (hb hby d2_109) rfl rfl kZ) ?_
  refine own_by (S' := T1.setTop (mkF m 111 #[.val (.int (4 : Int32)), .val (.ref ca), .val (.ref b1)] [(.int (0 : Int32)), (.ref b1)])) (fun tZ kZ => XS.iconst X1.here hx rfl (hb hby d2_110) kZ) ?_
  refine own_by (S' := T1.setTop (mkF m 112 #[.val (.int (4 : Int32)), .val (.ref ca), .val (.ref b1)] [(.ref ca), (.int (0 : Int32)), (.ref b1)])) (fun tZ kZ => XS.aloadN X1.here hx rfl (hb hby d2_111) rfl rfl kZ) ?_
  refine own_by (S' := T1.setTop (mkF m 113 #[.val (.int (4 : Int32)), .val (.ref ca), .val (.ref b1)] [(.int (0 : Int32)), (.ref ca), (.int (0 : Int32)), (.ref b1)])) (fun tZ kZ => XS.iconst X1.here hx rfl (hb hby d2_112) kZ) ?_
  have ExK1 := own_ext0 K1
  obtain ⟨cc2, Ar2, hc2, hl2⟩ := id (V_c.ext ExK1)
  refine own_by (S' := T1.setTop (mkF m 114 #[.val (.int (4 : Int32)), .val (.ref ca), .val (.ref b1)] [(.int u0), (.int (0 : Int32)), (.ref b1)])) (fun tZ kZ => X1.caload hx (j := (0 : Int32)) (v := (.int u0)) (by rw [e1]; exact Ar2.1) (State.isArrayOf_alike hZ.alike Ar2.2.1) Ar2.2.2 (OwnA.inb (j := (0 : Int32)) hl2 (by decide) (Nat.le_of_ble_eq_true rfl)) (OwnA.at (j := (0 : Int32)) hl2 rfl) (g := (mkF m 113 #[.val (.int (4 : Int32)), .val (.ref ca), .val (.ref b1)] [(.int (0 : Int32)), (.ref ca), (.int (0 : Int32)), (.ref b1)])) rfl rfl (hb hby d2_113) _ kZ) ?_
  obtain ⟨cc3, Ar3, hc3, hl3⟩ := id V_b1'
  have hin3 := OwnA.inb (j := (0 : Int32)) hl3 (by decide) (Nat.le_of_ble_eq_true rfl)
  obtain ⟨T3, h3, X3, e3, W3, st3⟩ := stC X1 hx hZ e1 Ar3 (j := (0 : Int32)) hin3 (g := (mkF m 114 #[.val (.int (4 : Int32)), .val (.ref ca), .val (.ref b1)] [(.int u0), (.int (0 : Int32)), (.ref b1)])) rfl rfl (hb hby d2_114)
  have N3 := Fr.snoc X3 N0 g_b1
  have Zs3 : n0 ≤ h3.size := Nat.le_trans Zs1 (Keep.of_wr W3).1
  have K3 := K1.wr W3 (Or.inr sz_b1)
  have V_b1_w3 : OwnA Z h3 b1 k1 .char [.int u0, .int 0, .int 0, .int 0] := (by have q := (V_b1'.set W3); rw [own_narc cu0] at q; exact q)
  refine own_by (S' := T3.setTop (mkF m 115 #[.val (.int (4 : Int32)), .val (.ref ca), .val (.ref b1)] [])) st3 ?_
  refine own_by (S' := T3.setTop (mkF m 116 #[.val (.int (4 : Int32)), .val (.ref ca), .val (.ref b1)] [(.ref b1)])) (fun tZ kZ => XS.aloadN X3.here hx rfl (hb hby d2_115) rfl rfl kZ) ?_
  refine own_by (S' := T3.setTop (mkF m 117 #[.val (.int (4 : Int32)), .val (.ref ca), .val (.ref b1)] [(.int (1 : Int32)), (.ref b1)])) (fun tZ kZ => XS.iconst X3.here hx rfl (hb hby d2_116) kZ) ?_
  refine own_by (S' := T3.setTop (mkF m 118 #[.val (.int (4 : Int32)), .val (.ref ca), .val (.ref b1)] [(.ref ca), (.int (1 : Int32)), (.ref b1)])) (fun tZ kZ => XS.aloadN X3.here hx rfl (hb hby d2_117) rfl rfl kZ) ?_
  refine own_by (S' := T3.setTop (mkF m 119 #[.val (.int (4 : Int32)), .val (.ref ca), .val (.ref b1)] [(.int (1 : Int32)), (.ref ca), (.int (1 : Int32)), (.ref b1)])) (fun tZ kZ => XS.iconst X3.here hx rfl (hb hby d2_118) kZ) ?_
  have ExK3 := own_ext0 K3
  obtain ⟨cc4, Ar4, hc4, hl4⟩ := id (V_c.ext ExK3)
  refine own_by (S' := T3.setTop (mkF m 120 #[.val (.int (4 : Int32)), .val (.ref ca), .val (.ref b1)] [(.int u1), (.int (1 : Int32)), (.ref b1)])) (fun tZ kZ => X3.caload hx (j := (1 : Int32)) (v := (.int u1)) (by rw [e3]; exact Ar4.1) (State.isArrayOf_alike hZ.alike Ar4.2.1) Ar4.2.2 (OwnA.inb (j := (1 : Int32)) hl4 (by decide) (Nat.le_of_ble_eq_true rfl)) (OwnA.at (j := (1 : Int32)) hl4 rfl) (g := (mkF m 119 #[.val (.int (4 : Int32)), .val (.ref ca), .val (.ref b1)] [(.int (1 : Int32)), (.ref ca), (.int (1 : Int32)), (.ref b1)])) rfl rfl (hb hby d2_119) _ kZ) ?_
  obtain ⟨cc5, Ar5, hc5, hl5⟩ := id V_b1_w3
  have hin5 := OwnA.inb (j := (1 : Int32)) hl5 (by decide) (Nat.le_of_ble_eq_true rfl)
  obtain ⟨T5, h5, X5, e5, W5, st5⟩ := stC X3 hx hZ e3 Ar5 (j := (1 : Int32)) hin5 (g := (mkF m 120 #[.val (.int (4 : Int32)), .val (.ref ca), .val (.ref b1)] [(.int u1), (.int (1 : Int32)), (.ref b1)])) rfl rfl (hb hby d2_120)
  have N5 := Fr.snoc X5 N3 g_b1
  have Zs5 : n0 ≤ h5.size := Nat.le_trans Zs3 (Keep.of_wr W5).1
  have K5 := K3.wr W5 (Or.inr sz_b1)
  have V_b1_w5 : OwnA Z h5 b1 k1 .char [.int u0, .int u1, .int 0, .int 0] := (by have q := (V_b1_w3.set W5); rw [own_narc cu1] at q; exact q)
  refine own_by (S' := T5.setTop (mkF m 121 #[.val (.int (4 : Int32)), .val (.ref ca), .val (.ref b1)] [])) st5 ?_
  refine own_by (S' := T5.setTop (mkF m 122 #[.val (.int (4 : Int32)), .val (.ref ca), .val (.ref b1)] [(.ref b1)])) (fun tZ kZ => XS.aloadN X5.here hx rfl (hb hby d2_121) rfl rfl kZ) ?_
  refine own_by (S' := T5.setTop (mkF m 123 #[.val (.int (4 : Int32)), .val (.ref ca), .val (.ref b1)] [(.int (2 : Int32)), (.ref b1)])) (fun tZ kZ => XS.iconst X5.here hx rfl (hb hby d2_122) kZ) ?_
  refine own_by (S' := T5.setTop (mkF m 124 #[.val (.int (4 : Int32)), .val (.ref ca), .val (.ref b1)] [(.ref ca), (.int (2 : Int32)), (.ref b1)])) (fun tZ kZ => XS.aloadN X5.here hx rfl (hb hby d2_123) rfl rfl kZ) ?_
  refine own_by (S' := T5.setTop (mkF m 125 #[.val (.int (4 : Int32)), .val (.ref ca), .val (.ref b1)] [(.int (2 : Int32)), (.ref ca), (.int (2 : Int32)), (.ref b1)])) (fun tZ kZ => XS.iconst X5.here hx rfl (hb hby d2_124) kZ) ?_
  have ExK5 := own_ext0 K5
  obtain ⟨cc6, Ar6, hc6, hl6⟩ := id (V_c.ext ExK5)
  refine own_by (S' := T5.setTop (mkF m 126 #[.val (.int (4 : Int32)), .val (.ref ca), .val (.ref b1)] [(.int u2), (.int (2 : Int32)), (.ref b1)])) (fun tZ kZ => X5.caload hx (j := (2 : Int32)) (v := (.int u2)) (by rw [e5]; exact Ar6.1) (State.isArrayOf_alike hZ.alike Ar6.2.1) Ar6.2.2 (OwnA.inb (j := (2 : Int32)) hl6 (by decide) (Nat.le_of_ble_eq_true rfl)) (OwnA.at (j := (2 : Int32)) hl6 rfl) (g := (mkF m 125 #[.val (.int (4 : Int32)), .val (.ref ca), .val (.ref b1)] [(.int (2 : Int32)), (.ref ca), (.int (2 : Int32)), (.ref b1)])) rfl rfl (hb hby d2_125) _ kZ) ?_
  obtain ⟨cc7, Ar7, hc7, hl7⟩ := id V_b1_w5
  have hin7 := OwnA.inb (j := (2 : Int32)) hl7 (by decide) (Nat.le_of_ble_eq_true rfl)
  obtain ⟨T7, h7, X7, e7, W7, st7⟩ := stC X5 hx hZ e5 Ar7 (j := (2 : Int32)) hin7 (g := (mkF m 126 #[.val (.int (4 : Int32)), .val (.ref ca), .val (.ref b1)] [(.int u2), (.int (2 : Int32)), (.ref b1)])) rfl rfl (hb hby d2_126)
  have N7 := Fr.snoc X7 N5 g_b1
  have Zs7 : n0 ≤ h7.size := Nat.le_trans Zs5 (Keep.of_wr W7).1
  have K7 := K5.wr W7 (Or.inr sz_b1)
  have V_b1_w7 : OwnA Z h7 b1 k1 .char [.int u0, .int u1, .int u2, .int 0] := (by have q := (V_b1_w5.set W7); rw [own_narc cu2] at q; exact q)
  refine own_by (S' := T7.setTop (mkF m 127 #[.val (.int (4 : Int32)), .val (.ref ca), .val (.ref b1)] [])) st7 ?_
  refine own_by (S' := T7.setTop (mkF m 128 #[.val (.int (4 : Int32)), .val (.ref ca), .val (.ref b1)] [(.ref b1)])) (fun tZ kZ => XS.aloadN X7.here hx rfl (hb hby d2_127) rfl rfl kZ) ?_
  refine own_by (S' := T7.setTop (mkF m 129 #[.val (.int (4 : Int32)), .val (.ref ca), .val (.ref b1)] [(.int (3 : Int32)), (.ref b1)])) (fun tZ kZ => XS.iconst X7.here hx rfl (hb hby d2_128) kZ) ?_
  refine own_by (S' := T7.setTop (mkF m 130 #[.val (.int (4 : Int32)), .val (.ref ca), .val (.ref b1)] [(.ref ca), (.int (3 : Int32)), (.ref b1)])) (fun tZ kZ => XS.aloadN X7.here hx rfl (hb hby d2_129) rfl rfl kZ) ?_
  refine own_by (S' := T7.setTop (mkF m 131 #[.val (.int (4 : Int32)), .val (.ref ca), .val (.ref b1)] [(.int (3 : Int32)), (.ref ca), (.int (3 : Int32)), (.ref b1)])) (fun tZ kZ => XS.iconst X7.here hx rfl (hb hby d2_130) kZ) ?_
  have ExK7 := own_ext0 K7
  obtain ⟨cc8, Ar8, hc8, hl8⟩ := id (V_c.ext ExK7)
  refine own_by (S' := T7.setTop (mkF m 132 #[.val (.int (4 : Int32)), .val (.ref ca), .val (.ref b1)] [(.int u3), (.int (3 : Int32)), (.ref b1)])) (fun tZ kZ => X7.caload hx (j := (3 : Int32)) (v := (.int u3)) (by rw [e7]; exact Ar8.1) (State.isArrayOf_alike hZ.alike Ar8.2.1) Ar8.2.2 (OwnA.inb (j := (3 : Int32)) hl8 (by decide) (Nat.le_of_ble_eq_true rfl)) (OwnA.at (j := (3 : Int32)) hl8 rfl) (g := (mkF m 131 #[.val (.int (4 : Int32)), .val (.ref ca), .val (.ref b1)] [(.int (3 : Int32)), (.ref ca), (.int (3 : Int32)), (.ref b1)])) rfl rfl (hb hby d2_131) _ kZ) ?_
  obtain ⟨cc9, Ar9, hc9, hl9⟩ := id V_b1_w7
  have hin9 := OwnA.inb (j := (3 : Int32)) hl9 (by decide) (Nat.le_of_ble_eq_true rfl)
  obtain ⟨T9, h9, X9, e9, W9, st9⟩ := stC X7 hx hZ e7 Ar9 (j := (3 : Int32)) hin9 (g := (mkF m 132 #[.val (.int (4 : Int32)), .val (.ref ca), .val (.ref b1)] [(.int u3), (.int (3 : Int32)), (.ref b1)])) rfl rfl (hb hby d2_132)
  have N9 := Fr.snoc X9 N7 g_b1
  have Zs9 : n0 ≤ h9.size := Nat.le_trans Zs7 (Keep.of_wr W9).1
  have K9 := K7.wr W9 (Or.inr sz_b1)
  have V_b1_w9 : OwnA Z h9 b1 k1 .char [.int u0, .int u1, .int u2, .int u3] := (by have q := (V_b1_w7.set W9); rw [own_narc cu3] at q; exact q)
  refine own_by (S' := T9.setTop (mkF m 133 #[.val (.int (4 : Int32)), .val (.ref ca), .val (.ref b1)] [])) st9 ?_
  obtain ⟨T10, h10, X10, e10, E10, A10, D10, U10, st10⟩ := newO X9 hx hZ hown (hw_ hw 12 rfl) (hw_ hw 13 rfl) (hw_ hw 14 rfl) e9 (g := (mkF m 133 #[.val (.int (4 : Int32)), .val (.ref ca), .val (.ref b1)] [])) rfl (hb hby d2_133) (by decide) (by decide)
  obtain ⟨b10, g10⟩ : ∃ z, z = h9.size := ⟨_, rfl⟩
  rw [← g10] at A10 D10 U10 st10
  have ne_b1_b10 : b1 ≠ b10 := Nat.ne_of_lt (Nat.lt_of_lt_of_le V_b1_w9.lt (Nat.le_of_eq g10.symm))
  have g_b10 : n0 ≤ b10 := Nat.le_trans Zs9 (Nat.le_of_eq g10.symm)
  have sz_b10 : h0.size ≤ b10 := Nat.le_trans K9.1 (Nat.le_of_eq g10.symm)
  have V_b1_10 := V_b1_w9.ext E10
  have Zs10 : n0 ≤ h10.size := Nat.le_trans Zs9 E10.1
  have K10 := K9.ext E10
  have Ex_b10 := A10
  have F_value_b10 : Fld Z h10 b10 "java/lang/String" "value" "[B" .null := D10 (Or.inr (hw_ hw 27 rfl)) (ty := (.array .byte)) (by decide)
  have F_coder_b10 : Fld Z h10 b10 "java/lang/String" "coder" "B" (.int (0 : Int32)) := D10 (Or.inr (hw_ hw 28 rfl)) (ty := .byte) (by decide)
  refine own_by (S' := T10.setTop (mkF m 136 #[.val (.int (4 : Int32)), .val (.ref ca), .val (.ref b1)] [(.ref b10)])) st10 ?_
  refine own_by (S' := T10.setTop (mkF m 137 #[.val (.int (4 : Int32)), .val (.ref ca), .val (.ref b1)] [(.ref b10), (.ref b10)])) (fun tZ kZ => XS.dup X10.here hx rfl (hb hby d2_136) rfl rfl kZ) ?_
  refine own_by (S' := T10.setTop (mkF m 138 #[.val (.int (4 : Int32)), .val (.ref ca), .val (.ref b1)] [(.ref b1), (.ref b10), (.ref b10)])) (fun tZ kZ => XS.aloadN X10.here hx rfl (hb hby d2_137) rfl rfl kZ) ?_
  have hus : ∀ q ∈ [u0, u1, u2, u3], CU q := own_hust (own_hus4 cu0 cu1 cu2 cu3) 4
  have ExK10 := own_ext0 K10
  obtain ⟨_, _, ⟨T11, L11, k11, n11⟩, -, X11, ⟨Lc11, hQ11, l11, y11, z11⟩, st11⟩ := X10.specialBack hx (y := (⟨"java/lang/String", "<init>", "([C)V"⟩ : MethodName)) rfl hown (mvT hZ (hw_ hw 15 rfl)) (mvT hZ (hw_ hw 16 rfl)) (mvT hZ (hw_ hw 17 rfl)) (by decide) (backOf (W := 1) (rmSI1 l Z a0 hw [] b10 b1 k1 [u0, u1, u2, u3] (4 : Int32) cz fm h10 n0 Zs10 V_b1_10 rfl (Nat.le_of_ble_eq_true rfl) hus (Nat.le_of_ble_eq_true rfl) (W.ext ExK10) Ex_b10 F_value_b10 F_coder_b10 g_b10) hZ (hw_ hw 17 rfl) (hw_ hw 14 rfl) (by decide) (by decide)) (g := (mkF m 138 #[.val (.int (4 : Int32)), .val (.ref ca), .val (.ref b1)] [(.ref b1), (.ref b10), (.ref b10)])) rfl (by rw [hml]; rfl) (Steps.refl _) (a := b10) (argsL := [(.ref b1)]) (rest := [(.ref b10)]) (lenOf pd_26 rfl) rfl (by show 2 * 0 + _ ≤ _; exact Nat.le_of_eq rfl) (hb hby d2_138) (fun _ _ => ⟨rfl, e10, (by decide : 2 + 2 ≤ _), (by decide : 8 + 12 ≤ _)⟩)
  dsimp only [Pt.U, Pt.locs, Pt.cells, Pt.slots] at X11 l11 y11 z11 st11 hQ11
  subst l11 y11 z11
  obtain ⟨rfl, N11q, Kc11, qs11⟩ := hQ11
  have N11 := Fr.app N9 N11q
  have Zs11 := Nat.le_trans Zs10 Kc11.1
  have K11 := K10.trans Kc11 (fun x hx => by
      simp only [List.mem_cons, List.not_mem_nil, or_false] at hx
      rcases hx with rfl
      · exact Or.inr sz_b10)
  have V_b1_11 := V_b1_10.keep Kc11 (by
      simp only [List.mem_cons, List.not_mem_nil, or_false, not_or]
      exact ne_b1_b10)
  have Ex_b10_11 := Ex_b10.keep Kc11
  refine own_by (S' := T11.setTop (mkF m 141 #[.val (.int (4 : Int32)), .val (.ref ca), .val (.ref b1)] [(.ref b10)])) (fun tZ kZ => st11.trans kZ) ?_
  exact own_retA X11 hx Bd.returns rfl rfl (hb hby d2_141) Bd.notSynchronized (by decide) (by decide) ⟨b10, rfl, N11, K11, qs11⟩
theorem d50_0 : decode jdk_43_method_47_code 0 = .ok (.iload_n 2, 1) := by decide +kernel
theorem d50_1 : decode jdk_43_method_47_code 1 = .ok (.ifCond .ne 6, 3) := by decide +kernel
theorem d50_4 : decode jdk_43_method_47_code 4 = .ok (.ldc 151, 2) := by decide +kernel
theorem d50_6 : decode jdk_43_method_47_code 6 = .ok (.areturn, 1) := by decide +kernel
theorem d50_7 : decode jdk_43_method_47_code 7 = .ok (.new 1, 3) := by decide +kernel
theorem d50_10 : decode jdk_43_method_47_code 10 = .ok (.dup, 1) := by decide +kernel
theorem d50_11 : decode jdk_43_method_47_code 11 = .ok (.aload_n 0, 1) := by decide +kernel
theorem d50_12 : decode jdk_43_method_47_code 12 = .ok (.iload_n 1, 1) := by decide +kernel
theorem d50_13 : decode jdk_43_method_47_code 13 = .ok (.iload_n 1, 1) := by decide +kernel
theorem d50_14 : decode jdk_43_method_47_code 14 = .ok (.iload_n 2, 1) := by decide +kernel
theorem d50_15 : decode jdk_43_method_47_code 15 = .ok (.iadd, 1) := by decide +kernel
theorem d50_16 : decode jdk_43_method_47_code 16 = .ok (.invokestatic 232, 3) := by decide +kernel
theorem d50_19 : decode jdk_43_method_47_code 19 = .ok (.iconst 0, 1) := by decide +kernel
theorem d50_20 : decode jdk_43_method_47_code 20 = .ok (.invokespecial 112, 3) := by decide +kernel
theorem d50_23 : decode jdk_43_method_47_code 23 = .ok (.areturn, 1) := by decide +kernel
theorem ef_rmLNew (m : MethodId) (b : Addr) (n : Int32) : entryFrame m #[(.ref b), (.int (0 : Int32)), (.int n)] 3 = mkF m 0 #[.val (.ref b), .val (.int (0 : Int32)), .val (.int n)] [] := by first | (simp [entryFrame, mkF, argsToLocals, Value.category, maxLocals]; done) | rfl
set_option maxRecDepth 65536 in
set_option maxHeartbeats 40000000 in
theorem rmLNew (l : Launch) (Z : State) (a0 : Array Value) (hw : ∀ d ∈ tables_1, d.before a0 Z = true) (ws : List Jvm.Cond) (b : Addr) (kb : ClassId) (us : List Int32) (n : Int32) (E : Nat) (h0 : Heap) (n0 : Nat) (Z0 : n0 ≤ h0.size) (V_b : OwnA Z h0 b kb .byte (bL us)) (hl : us.length ≤ 4) (hal : ∀ q ∈ us, q.toInt ≤ 255) (hn : n.toInt = E) (hE1 : 1 ≤ E) (hE : E < us.length) :
    MetFree l (⟨"java/lang/StringLatin1", "newString", "([BII)Ljava/lang/String;"⟩ : MethodName) (head1 (Jvm.Cond.code (⟨"java/lang/StringLatin1", "newString", "([BII)Ljava/lang/String;"⟩ : MethodName) jdk_43_method_47_code (3 : Nat) (Option.some (Jvm.ClassFile.FieldType.object "java/lang/String")) :: ws) ({ frames := 3, cells := 2, slots := 12, locals := 72 } : Room)) (fun aZ UZ => aZ = #[(.ref b), (.int (0 : Int32)), (.int n)] ∧ Z.Warmed39 UZ.vm ∧ UZ.heap = h0) (fun _ _ _ _ _ => True) (fun _ UZ oZ VZ => ∃ vZ LZ, oZ = .returned vZ ∧ (QStr Z (us.take E) h0 n0) vZ VZ.heap LZ ∧ FrameEnd UZ oZ VZ LZ ({ frames := 3, cells := 2, slots := 12, locals := 72 } : Room).cells ({ frames := 3, cells := 2, slots := 12, locals := 72 } : Room).slots) := by
  refine MetFree.of_bodySF (plainFor_of_name pn_4) hisR ?_
  intro p e s m args below meth c s₁ Bd hml0 hP hK
  obtain ⟨rfl, hZ, hh⟩ := hP
  have hx := Bd.exec
  have hby := Bd.bytes
  have hml : c.maxLocals = 3 := hml0
  have hown : s.vm.findClass "java/lang/StringLatin1" = some m.cls := findClass_of_methodNamed Bd.named
  have hnm := (name_of_methodNamed Bd.named Bd.method).1
  have X0 : Stand p l e ({ frames := 3, cells := 2, slots := 12, locals := 72 } : Room) s m #[(.ref b), (.int (0 : Int32)), (.int n)] below meth c s₁ [] 0 0 := Stand.of_body Bd
  have e0 : s₁.heap = h0 := by rw [← hh, Bd.state]; rfl
  have N0 := Fr.nil n0
  show OwnG p e below (OwnE s (QStr Z (us.take E) h0 n0) ({ frames := 3, cells := 2, slots := 12, locals := 72 } : Room).cells ({ frames := 3, cells := 2, slots := 12, locals := 72 } : Room).slots) _
  refine own_by (S' := s₁.setTop (mkF m 0 #[.val (.ref b), .val (.int (0 : Int32)), .val (.int n)] [])) (fun tZ kZ => castTop (ef_rmLNew m b n) kZ) ?_
  refine own_by (S' := s₁.setTop (mkF m 1 #[.val (.ref b), .val (.int (0 : Int32)), .val (.int n)] [(.int n)])) (fun tZ kZ => XS.iloadN X0.here hx rfl (hb hby d50_0) rfl kZ) ?_
  refine own_by (S' := s₁.setTop (mkF m 7 #[.val (.ref b), .val (.int (0 : Int32)), .val (.int n)] [])) (fun tZ kZ => XS.ifYes X0.here hx rfl (pc0 := 1) (pc' := 7) rfl (hb hby d50_1) rfl ((if0 _ _).trans (feq (own_neq (b := 0) hn rfl (by omega))).2) (by decide) (by decide) kZ) ?_
  obtain ⟨T1, h1, X1, e1, E1, A1, D1, U1, st1⟩ := newO X0 hx hZ hown (hw_ hw 229 rfl) (hw_ hw 13 rfl) (hw_ hw 14 rfl) e0 (g := (mkF m 7 #[.val (.ref b), .val (.int (0 : Int32)), .val (.int n)] [])) rfl (hb hby d50_7) (by decide) (by decide)
  obtain ⟨b1, g1⟩ : ∃ z, z = h0.size := ⟨_, rfl⟩
  rw [← g1] at A1 D1 U1 st1
  have g_b1 : n0 ≤ b1 := Nat.le_trans Z0 (Nat.le_of_eq g1.symm)
  have sz_b1 : h0.size ≤ b1 := Nat.le_trans (Keep.refl h0 []).1 (Nat.le_of_eq g1.symm)
  have Zs1 : n0 ≤ h1.size := Nat.le_trans Z0 E1.1
  have K1 := (Keep.refl h0 []).ext E1
  have Ex_b1 := A1
  have F_value_b1 : Fld Z h1 b1 "java/lang/String" "value" "[B" .null := D1 (Or.inr (hw_ hw 27 rfl)) (ty := (.array .byte)) (by decide)
  have F_coder_b1 : Fld Z h1 b1 "java/lang/String" "coder" "B" (.int (0 : Int32)) := D1 (Or.inr (hw_ hw 28 rfl)) (ty := .byte) (by decide)
  refine own_by (S' := T1.setTop (mkF m 10 #[.val (.ref b), .val (.int (0 : Int32)), .val (.int n)] [(.ref b1)])) st1 ?_
  refine own_by (S' := T1.setTop (mkF m 11 #[.val (.ref b), .val (.int (0 : Int32)), .val (.int n)] [(.ref b1), (.ref b1)])) (fun tZ kZ => XS.dup X1.here hx rfl (hb hby d50_10) rfl rfl kZ) ?_
  refine own_by (S' := T1.setTop (mkF m 12 #[.val (.ref b), .val (.int (0 : Int32)), .val (.int n)] [(.ref b), (.ref b1), (.ref b1)])) (fun tZ kZ => XS.aloadN X1.here hx rfl (hb hby d50_11) rfl rfl kZ) ?_
  refine own_by (S' := T1.setTop (mkF m 13 #[.val (.ref b), .val (.int (0 : Int32)), .val (.int n)] [(.int (0 : Int32)), (.ref b), (.ref b1), (.ref b1)])) (fun tZ kZ => XS.iloadN X1.here hx rfl (hb hby d50_12) rfl kZ) ?_
  refine own_by (S' := T1.setTop (mkF m 14 #[.val (.ref b), .val (.int (0 : Int32)), .val (.int n)] [(.int (0 : Int32)), (.int (0 : Int32)), (.ref b), (.ref b1), (.ref b1)])) (fun tZ kZ => XS.iloadN X1.here hx rfl (hb hby d50_13) rfl kZ) ?_
  refine own_by (S' := T1.setTop (mkF m 15 #[.val (.ref b), .val (.int (0 : Int32)), .val (.int n)] [(.int n), (.int (0 : Int32)), (.int (0 : Int32)), (.ref b), (.ref b1), (.ref b1)])) (fun tZ kZ => XS.iloadN X1.here hx rfl (hb hby d50_14) rfl kZ) ?_
  refine own_by (S' := T1.setTop (mkF m 16 #[.val (.ref b), .val (.int (0 : Int32)), .val (.int n)] [(.int ((0 : Int32) + n)), (.int (0 : Int32)), (.ref b), (.ref b1), (.ref b1)])) (fun tZ kZ => XS.iadd X1.here hx rfl (hb hby d50_15) rfl kZ) ?_
  rw [own_0add]
  obtain ⟨zb, hzb⟩ := own_int (bL us).length (by rw [bL_len]; omega)
  have ExK1 := own_ext0 K1
  obtain ⟨_, _, ⟨T2, L2, k2, n2⟩, -, X2, ⟨Lc2, hQ2, l2, y2, z2⟩, st2⟩ := Jvm.LawKit.callS X1 hx (y := (⟨"java/util/Arrays", "copyOfRange", "([BII)[B"⟩ : MethodName)) hown (mvT hZ (hw_ hw 230 rfl)) (mvT hZ (hw_ hw 203 rfl)) (mvT hZ (hw_ hw 204 rfl)) (mvT hZ (hw_ hw 205 rfl)) (by decide) (backOf (W := 2) (rmCr l Z a0 hw [] b kb (bL us) n zb E h1 n0 Zs1 (V_b.ext ExK1) (bL_fit us) hn hzb (by rw [bL_len]; exact hE) (by rw [bL_len]; omega)) hZ (hw_ hw 205 rfl) (hw_ hw 204 rfl) (by decide) (by decide)) (g := (mkF m 16 #[.val (.ref b), .val (.int (0 : Int32)), .val (.int n)] [(.int n), (.int (0 : Int32)), (.ref b), (.ref b1), (.ref b1)])) rfl (by rw [hml]; rfl) (argsL := [(.ref b), (.int (0 : Int32)), (.int n)]) (rest := [(.ref b1), (.ref b1)]) (lenOf pd_20 rfl) rfl (by show 2 * 0 + _ ≤ _; exact Nat.le_of_eq rfl) (hb hby d50_16) (fun _ _ => ⟨rfl, e1, (by decide : 1 + 1 ≤ _), (by decide : 4 + 8 ≤ _)⟩)
  dsimp only [Pt.U, Pt.locs, Pt.cells, Pt.slots] at X2 l2 y2 z2 st2 hQ2
  subst l2 y2 z2
  obtain ⟨bq, kq, rfl, N2q, Kc2, szq, Vq⟩ := hQ2
  have N2 := Fr.app N0 N2q
  have Zs2 := Nat.le_trans Zs1 Kc2.1
  have Ec2 := own_ext0 Kc2
  have K2 := K1.ext Ec2
  have Ex_b1_2 := Ex_b1.ext Ec2
  have F_value_b1_2 := F_value_b1.ext Ec2
  have F_coder_b1_2 := F_coder_b1.ext Ec2
  refine own_by (S' := T2.setTop (mkF m 19 #[.val (.ref b), .val (.int (0 : Int32)), .val (.int n)] [(.ref bq), (.ref b1), (.ref b1)])) (fun tZ kZ => st2 _ kZ) ?_
  rw [bL_take] at Vq
  have n_qx : bq ≠ b1 := Nat.ne_of_gt (Nat.lt_of_lt_of_le Ex_b1.lt szq)
  refine own_by (S' := T2.setTop (mkF m 20 #[.val (.ref b), .val (.int (0 : Int32)), .val (.int n)] [(.int (0 : Int32)), (.ref bq), (.ref b1), (.ref b1)])) (fun tZ kZ => XS.iconst X2.here hx rfl (hb hby d50_19) kZ) ?_
  obtain ⟨_, _, ⟨T3, L3, k3, n3⟩, -, X3, ⟨Lc3, hQ3, l3, y3, z3⟩, st3⟩ := X2.specialBack hx (y := (⟨"java/lang/String", "<init>", "([BB)V"⟩ : MethodName)) rfl hown (mvT hZ (hw_ hw 231 rfl)) (mvT hZ (hw_ hw 223 rfl)) (mvT hZ (hw_ hw 224 rfl)) (by decide) (backOf (W := 1) (rmSB l Z a0 hw [] b1 bq kq (0 : Int32) (us.take E) T2.heap n0 Zs2 Ex_b1_2 F_value_b1_2 F_coder_b1_2 g_b1 n_qx (Or.inl ⟨rfl, Vq, fun q hq => hal q (List.mem_of_mem_take hq)⟩)) hZ (hw_ hw 224 rfl) (hw_ hw 14 rfl) (by decide) (by decide)) (g := (mkF m 20 #[.val (.ref b), .val (.int (0 : Int32)), .val (.int n)] [(.int (0 : Int32)), (.ref bq), (.ref b1), (.ref b1)])) rfl (by rw [hml]; rfl) (Steps.refl _) (a := b1) (argsL := [(.ref bq), (.int (0 : Int32))]) (rest := [(.ref b1)]) (lenOf pd_27 rfl) rfl (by show 2 * 0 + _ ≤ _; exact Nat.le_of_eq rfl) (hb hby d50_20) (fun _ _ => ⟨rfl, rfl, (by decide : 2 + 0 ≤ _), (by decide : 12 + 0 ≤ _)⟩)
  dsimp only [Pt.U, Pt.locs, Pt.cells, Pt.slots] at X3 l3 y3 z3 st3 hQ3
  subst l3 y3 z3
  obtain ⟨rfl, N3q, Kc3, qs3⟩ := hQ3
  have N3 := Fr.app N2 N3q
  have Zs3 := Nat.le_trans Zs2 Kc3.1
  have K3 := K2.trans Kc3 (fun x hx => by
      simp only [List.mem_cons, List.not_mem_nil, or_false] at hx
      rcases hx with rfl
      · exact Or.inr sz_b1)
  have Ex_b1_3 := Ex_b1_2.keep Kc3
  refine own_by (S' := T3.setTop (mkF m 23 #[.val (.ref b), .val (.int (0 : Int32)), .val (.int n)] [(.ref b1)])) (fun tZ kZ => st3.trans kZ) ?_
  exact own_retA X3 hx Bd.returns rfl rfl (hb hby d50_23) Bd.notSynchronized (by decide) (by decide) ⟨b1, rfl, N3, K3, qs3⟩
theorem d38_0 : decode jdk_52_method_69_code 0 = .ok (.iload_n 2, 1) := by decide +kernel
theorem d38_1 : decode jdk_52_method_69_code 1 = .ok (.ifCond .ne 7, 3) := by decide +kernel
theorem d38_4 : decode jdk_52_method_69_code 4 = .ok (.ldc_w 295, 3) := by decide +kernel
theorem d38_7 : decode jdk_52_method_69_code 7 = .ok (.areturn, 1) := by decide +kernel
theorem d38_8 : decode jdk_52_method_69_code 8 = .ok (.getstatic 251, 3) := by decide +kernel
theorem d38_11 : decode jdk_52_method_69_code 11 = .ok (.ifCond .eq 28, 3) := by decide +kernel
theorem d38_14 : decode jdk_52_method_69_code 14 = .ok (.aload_n 0, 1) := by decide +kernel
theorem d38_15 : decode jdk_52_method_69_code 15 = .ok (.iload_n 1, 1) := by decide +kernel
theorem d38_16 : decode jdk_52_method_69_code 16 = .ok (.iload_n 2, 1) := by decide +kernel
theorem d38_17 : decode jdk_52_method_69_code 17 = .ok (.invokestatic 257, 3) := by decide +kernel
theorem d38_20 : decode jdk_52_method_69_code 20 = .ok (.astore_n 3, 1) := by decide +kernel
theorem d38_21 : decode jdk_52_method_69_code 21 = .ok (.aload_n 3, 1) := by decide +kernel
theorem d38_22 : decode jdk_52_method_69_code 22 = .ok (.iload_n 2, 1) := by decide +kernel
theorem d38_23 : decode jdk_52_method_69_code 23 = .ok (.invokestatic 259, 3) := by decide +kernel
theorem d38_26 : decode jdk_52_method_69_code 26 = .ok (.istore 4, 2) := by decide +kernel
theorem d38_28 : decode jdk_52_method_69_code 28 = .ok (.new 3, 3) := by decide +kernel
theorem d38_31 : decode jdk_52_method_69_code 31 = .ok (.dup, 1) := by decide +kernel
theorem d38_32 : decode jdk_52_method_69_code 32 = .ok (.aload_n 3, 1) := by decide +kernel
theorem d38_33 : decode jdk_52_method_69_code 33 = .ok (.iload 4, 2) := by decide +kernel
theorem d38_35 : decode jdk_52_method_69_code 35 = .ok (.invokespecial 263, 3) := by decide +kernel
theorem d38_38 : decode jdk_52_method_69_code 38 = .ok (.areturn, 1) := by decide +kernel
theorem d38_39 : decode jdk_52_method_69_code 39 = .ok (.iload_n 1, 1) := by decide +kernel
theorem d38_40 : decode jdk_52_method_69_code 40 = .ok (.iload_n 2, 1) := by decide +kernel
theorem d38_41 : decode jdk_52_method_69_code 41 = .ok (.iadd, 1) := by decide +kernel
theorem d38_42 : decode jdk_52_method_69_code 42 = .ok (.istore_n 3, 1) := by decide +kernel
theorem d38_43 : decode jdk_52_method_69_code 43 = .ok (.new 3, 3) := by decide +kernel
theorem d38_46 : decode jdk_52_method_69_code 46 = .ok (.dup, 1) := by decide +kernel
theorem d38_47 : decode jdk_52_method_69_code 47 = .ok (.aload_n 0, 1) := by decide +kernel
theorem d38_48 : decode jdk_52_method_69_code 48 = .ok (.iload_n 1, 1) := by decide +kernel
theorem d38_49 : decode jdk_52_method_69_code 49 = .ok (.iconst 1, 1) := by decide +kernel
theorem d38_50 : decode jdk_52_method_69_code 50 = .ok (.ishl, 1) := by decide +kernel
theorem d38_51 : decode jdk_52_method_69_code 51 = .ok (.iload_n 3, 1) := by decide +kernel
theorem d38_52 : decode jdk_52_method_69_code 52 = .ok (.iconst 1, 1) := by decide +kernel
theorem d38_53 : decode jdk_52_method_69_code 53 = .ok (.ishl, 1) := by decide +kernel
theorem d38_54 : decode jdk_52_method_69_code 54 = .ok (.invokestatic 126, 3) := by decide +kernel
theorem d38_57 : decode jdk_52_method_69_code 57 = .ok (.iconst 1, 1) := by decide +kernel
theorem d38_58 : decode jdk_52_method_69_code 58 = .ok (.invokespecial 263, 3) := by decide +kernel
theorem d38_61 : decode jdk_52_method_69_code 61 = .ok (.areturn, 1) := by decide +kernel
theorem ef_rmUNew (m : MethodId) (b : Addr) (n : Int32) : entryFrame m #[(.ref b), (.int (0 : Int32)), (.int n)] 5 = mkF m 0 #[.val (.ref b), .val (.int (0 : Int32)), .val (.int n), .unset, .unset] [] := by first | (simp [entryFrame, mkF, argsToLocals, Value.category, maxLocals]; done) | rfl
set_option maxRecDepth 65536 in
set_option maxHeartbeats 40000000 in
theorem rmUNew (l : Launch) (Z : State) (a0 : Array Value) (hw : ∀ d ∈ tables_1, d.before a0 Z = true) (ws : List Jvm.Cond) (b : Addr) (kb : ClassId) (us : List Int32) (n : Int32) (E : Nat) (cz : Int32) (fm : Value) (h0 : Heap) (n0 : Nat) (Z0 : n0 ≤ h0.size) (V_b : OwnA Z h0 b kb .byte (bU us)) (hl : us.length ≤ 4) (hus : ∀ q ∈ us, CU q) (hn : n.toInt = E) (hE1 : 1 ≤ E) (hE : E < us.length) (W : OwnW Z h0 cz fm) :
    MetFree l (⟨"java/lang/StringUTF16", "newString", "([BII)Ljava/lang/String;"⟩ : MethodName) (head1 (Jvm.Cond.code (⟨"java/lang/StringUTF16", "newString", "([BII)Ljava/lang/String;"⟩ : MethodName) jdk_52_method_69_code (5 : Nat) (Option.some (Jvm.ClassFile.FieldType.object "java/lang/String")) :: ws) ({ frames := 5, cells := 3, slots := 16, locals := 87 } : Room)) (fun aZ UZ => aZ = #[(.ref b), (.int (0 : Int32)), (.int n)] ∧ Z.Warmed39 UZ.vm ∧ UZ.heap = h0) (fun _ _ _ _ _ => True) (fun _ UZ oZ VZ => ∃ vZ LZ, oZ = .returned vZ ∧ (QStr Z (us.take E) h0 n0) vZ VZ.heap LZ ∧ FrameEnd UZ oZ VZ LZ ({ frames := 5, cells := 3, slots := 16, locals := 87 } : Room).cells ({ frames := 5, cells := 3, slots := 16, locals := 87 } : Room).slots) := by
  refine MetFree.of_bodySF (plainFor_of_name pn_3) hisR ?_
  intro p e s m args below meth c s₁ Bd hml0 hP hK
  obtain ⟨rfl, hZ, hh⟩ := hP
  have hx := Bd.exec
  have hby := Bd.bytes
  have hml : c.maxLocals = 5 := hml0
  have hown : s.vm.findClass "java/lang/StringUTF16" = some m.cls := findClass_of_methodNamed Bd.named
  have hnm := (name_of_methodNamed Bd.named Bd.method).1
  have X0 : Stand p l e ({ frames := 5, cells := 3, slots := 16, locals := 87 } : Room) s m #[(.ref b), (.int (0 : Int32)), (.int n)] below meth c s₁ [] 0 0 := Stand.of_body Bd
  have e0 : s₁.heap = h0 := by rw [← hh, Bd.state]; rfl
  have N0 := Fr.nil n0
  show OwnG p e below (OwnE s (QStr Z (us.take E) h0 n0) ({ frames := 5, cells := 3, slots := 16, locals := 87 } : Room).cells ({ frames := 5, cells := 3, slots := 16, locals := 87 } : Room).slots) _
  refine own_by (S' := s₁.setTop (mkF m 0 #[.val (.ref b), .val (.int (0 : Int32)), .val (.int n), .unset, .unset] [])) (fun tZ kZ => castTop (ef_rmUNew m b n) kZ) ?_
  obtain ⟨Sc, hcz, Sf, rf, Sa, Shi, Slo⟩ := id W
  obtain ⟨z0, hz0⟩ := own_int us.length (by omega)
  have hlE : (us.take E).length = E := by rw [List.length_take]; omega
  have hnE : n.toInt = ((us.take E).length : Int) := by rw [hlE]; exact hn
  refine own_by (S' := s₁.setTop (mkF m 1 #[.val (.ref b), .val (.int (0 : Int32)), .val (.int n), .unset, .unset] [(.int n)])) (fun tZ kZ => XS.iloadN X0.here hx rfl (hb hby d38_0) rfl kZ) ?_
  refine own_by (S' := s₁.setTop (mkF m 8 #[.val (.ref b), .val (.int (0 : Int32)), .val (.int n), .unset, .unset] [])) (fun tZ kZ => XS.ifYes X0.here hx rfl (pc0 := 1) (pc' := 8) rfl (hb hby d38_1) rfl ((if0 _ _).trans (feq (own_neq (b := 0) hn rfl (by omega))).2) (by decide) (by decide) kZ) ?_
  obtain ⟨T1, X1, e1, st1⟩ := getS2 X0 hx hZ hown (host := "") (Or.inl (hw_ hw 186 rfl)) Via.refl e0 Sc (g := (mkF m 8 #[.val (.ref b), .val (.int (0 : Int32)), .val (.int n), .unset, .unset] [])) rfl (hb hby d38_8)
  refine own_by (S' := T1.setTop (mkF m 11 #[.val (.ref b), .val (.int (0 : Int32)), .val (.int n), .unset, .unset] [(.int cz)])) st1 ?_
  refine own_by (S' := T1.setTop (mkF m 14 #[.val (.ref b), .val (.int (0 : Int32)), .val (.int n), .unset, .unset] [])) (fun tZ kZ => XS.ifNo X1.here hx rfl (hb hby d38_11) rfl ((if0 _ _).trans (feq hcz).1) kZ) ?_
  refine own_by (S' := T1.setTop (mkF m 15 #[.val (.ref b), .val (.int (0 : Int32)), .val (.int n), .unset, .unset] [(.ref b)])) (fun tZ kZ => XS.aloadN X1.here hx rfl (hb hby d38_14) rfl rfl kZ) ?_
  refine own_by (S' := T1.setTop (mkF m 16 #[.val (.ref b), .val (.int (0 : Int32)), .val (.int n), .unset, .unset] [(.int (0 : Int32)), (.ref b)])) (fun tZ kZ => XS.iloadN X1.here hx rfl (hb hby d38_15) rfl kZ) ?_
  refine own_by (S' := T1.setTop (mkF m 17 #[.val (.ref b), .val (.int (0 : Int32)), .val (.int n), .unset, .unset] [(.int n), (.int (0 : Int32)), (.ref b)])) (fun tZ kZ => XS.iloadN X1.here hx rfl (hb hby d38_16) rfl kZ) ?_
  obtain ⟨_, _, ⟨T2, L2, k2, n2⟩, -, X2, ⟨Lc2, hQ2, l2, y2, z2⟩, st2⟩ := Jvm.LawKit.callS X1 hx (y := (⟨"java/lang/StringUTF16", "compress", "([BII)[B"⟩ : MethodName)) hown (mvT hZ (hw_ hw 187 rfl)) (mvT hZ (hw_ hw 188 rfl)) (mvT hZ (hw_ hw 70 rfl)) (mvT hZ (hw_ hw 189 rfl)) (by decide) (backOf (W := 0) (rmC3B l Z a0 hw [] b kb us E z0 n cz fm h0 n0 Z0 V_b hz0 hn hE hl hus W) hZ (hw_ hw 189 rfl) (hw_ hw 70 rfl) (by decide) (by decide)) (g := (mkF m 17 #[.val (.ref b), .val (.int (0 : Int32)), .val (.int n), .unset, .unset] [(.int n), (.int (0 : Int32)), (.ref b)])) rfl (by rw [hml]; rfl) (argsL := [(.ref b), (.int (0 : Int32)), (.int n)]) (rest := []) (lenOf pd_20 rfl) rfl (by show 2 * 0 + _ ≤ _; exact Nat.le_of_eq rfl) (hb hby d38_17) (fun _ _ => ⟨rfl, e1, (by decide : 0 + 2 ≤ _), (by decide : 0 + 12 ≤ _)⟩)
  dsimp only [Pt.U, Pt.locs, Pt.cells, Pt.slots] at X2 l2 y2 z2 st2 hQ2
  subst l2 y2 z2
  obtain ⟨d, kd, rfl, N2q, Kc2, szd, hdc⟩ := hQ2
  have N2 := Fr.app N0 N2q
  have Zs2 := Nat.le_trans Z0 Kc2.1
  have Ec2 := own_ext0 Kc2
  have K2 := (Keep.refl h0 []).ext Ec2
  refine own_by (S' := T2.setTop (mkF m 20 #[.val (.ref b), .val (.int (0 : Int32)), .val (.int n), .unset, .unset] [(.ref d)])) (fun tZ kZ => st2 _ kZ) ?_
  refine own_by (S' := T2.setTop (mkF m 21 #[.val (.ref b), .val (.int (0 : Int32)), .val (.int n), .val (.ref d), .unset] [])) (fun tZ kZ => XS.astoreN X2.here hx rfl (hb hby d38_20) rfl rfl (l' := #[.val (.ref b), .val (.int (0 : Int32)), .val (.int n), .val (.ref d), .unset]) rfl kZ) ?_
  refine own_by (S' := T2.setTop (mkF m 22 #[.val (.ref b), .val (.int (0 : Int32)), .val (.int n), .val (.ref d), .unset] [(.ref d)])) (fun tZ kZ => XS.aloadN X2.here hx rfl (hb hby d38_21) rfl rfl kZ) ?_
  refine own_by (S' := T2.setTop (mkF m 23 #[.val (.ref b), .val (.int (0 : Int32)), .val (.int n), .val (.ref d), .unset] [(.int n), (.ref d)])) (fun tZ kZ => XS.iloadN X2.here hx rfl (hb hby d38_22) rfl kZ) ?_
  rcases hdc with ⟨V_d, hal⟩ | V_d
  · obtain ⟨_, _, ⟨T3, L3, k3, n3⟩, -, X3, ⟨Lc3, hQ3, l3, y3, z3⟩, st3⟩ := Jvm.LawKit.callS X2 hx (y := (⟨"java/lang/StringUTF16", "coderFromArrayLen", "([BI)B"⟩ : MethodName)) hown (mvT hZ (hw_ hw 220 rfl)) (mvT hZ (hw_ hw 95 rfl)) (mvT hZ (hw_ hw 70 rfl)) (mvT hZ (hw_ hw 96 rfl)) (by decide) (backOf (W := 0) (rmCfl l Z a0 hw [] d kd (bL (us.take E)) n n 0 T2.heap n0 Zs2 V_d (by rw [bL_len, own_tnc hnE]) (own_nneg hnE) (own_cf0 _) rfl) hZ (hw_ hw 96 rfl) (hw_ hw 70 rfl) (by decide) (by decide)) (g := (mkF m 23 #[.val (.ref b), .val (.int (0 : Int32)), .val (.int n), .val (.ref d), .unset] [(.int n), (.ref d)])) rfl (by rw [hml]; rfl) (argsL := [(.ref d), (.int n)]) (rest := []) (lenOf pd_24 rfl) rfl (by show 2 * 0 + _ ≤ _; exact Nat.le_of_eq rfl) (hb hby d38_23) (fun _ _ => ⟨rfl, rfl, (by decide : 2 + 0 ≤ _), (by decide : 12 + 0 ≤ _)⟩)
    dsimp only [Pt.U, Pt.locs, Pt.cells, Pt.slots] at X3 l3 y3 z3 st3 hQ3
    subst l3 y3 z3
    obtain ⟨rfl, N3q, heq3⟩ := hQ3
    have N3 := Fr.app N2 N3q
    refine own_by (S' := T3.setTop (mkF m 26 #[.val (.ref b), .val (.int (0 : Int32)), .val (.int n), .val (.ref d), .unset] [(.int (0 : Int32))])) (fun tZ kZ => st3 _ kZ) ?_
    refine own_by (S' := T3.setTop (mkF m 28 #[.val (.ref b), .val (.int (0 : Int32)), .val (.int n), .val (.ref d), .val (.int (0 : Int32))] [])) (fun tZ kZ => XS.istore X3.here hx rfl (hb hby d38_26) rfl (l' := #[.val (.ref b), .val (.int (0 : Int32)), .val (.int n), .val (.ref d), .val (.int (0 : Int32))]) rfl kZ) ?_
    obtain ⟨T4, h4, X4, e4, E4, A4, D4, U4, st4⟩ := newO X3 hx hZ hown (hw_ hw 221 rfl) (hw_ hw 13 rfl) (hw_ hw 14 rfl) heq3 (g := (mkF m 28 #[.val (.ref b), .val (.int (0 : Int32)), .val (.int n), .val (.ref d), .val (.int (0 : Int32))] [])) rfl (hb hby d38_28) (by decide) (by decide)
    obtain ⟨b4, g4⟩ : ∃ z, z = T2.heap.size := ⟨_, rfl⟩
    rw [← g4] at A4 D4 U4 st4
    have ne_d_b4 : d ≠ b4 := Nat.ne_of_lt (Nat.lt_of_lt_of_le V_d.lt (Nat.le_of_eq g4.symm))
    have g_b4 : n0 ≤ b4 := Nat.le_trans Zs2 (Nat.le_of_eq g4.symm)
    have sz_b4 : h0.size ≤ b4 := Nat.le_trans K2.1 (Nat.le_of_eq g4.symm)
    have V_d_4 := V_d.ext E4
    have Zs4 : n0 ≤ h4.size := Nat.le_trans Zs2 E4.1
    have K4 := K2.ext E4
    have Ex_b4 := A4
    have F_value_b4 : Fld Z h4 b4 "java/lang/String" "value" "[B" .null := D4 (Or.inr (hw_ hw 27 rfl)) (ty := (.array .byte)) (by decide)
    have F_coder_b4 : Fld Z h4 b4 "java/lang/String" "coder" "B" (.int (0 : Int32)) := D4 (Or.inr (hw_ hw 28 rfl)) (ty := .byte) (by decide)
    refine own_by (S' := T4.setTop (mkF m 31 #[.val (.ref b), .val (.int (0 : Int32)), .val (.int n), .val (.ref d), .val (.int (0 : Int32))] [(.ref b4)])) st4 ?_
    refine own_by (S' := T4.setTop (mkF m 32 #[.val (.ref b), .val (.int (0 : Int32)), .val (.int n), .val (.ref d), .val (.int (0 : Int32))] [(.ref b4), (.ref b4)])) (fun tZ kZ => XS.dup X4.here hx rfl (hb hby d38_31) rfl rfl kZ) ?_
    refine own_by (S' := T4.setTop (mkF m 33 #[.val (.ref b), .val (.int (0 : Int32)), .val (.int n), .val (.ref d), .val (.int (0 : Int32))] [(.ref d), (.ref b4), (.ref b4)])) (fun tZ kZ => XS.aloadN X4.here hx rfl (hb hby d38_32) rfl rfl kZ) ?_
    refine own_by (S' := T4.setTop (mkF m 35 #[.val (.ref b), .val (.int (0 : Int32)), .val (.int n), .val (.ref d), .val (.int (0 : Int32))] [(.int (0 : Int32)), (.ref d), (.ref b4), (.ref b4)])) (fun tZ kZ => XS.iload X4.here hx rfl (hb hby d38_33) rfl kZ) ?_
    obtain ⟨_, _, ⟨T5, L5, k5, n5⟩, -, X5, ⟨Lc5, hQ5, l5, y5, z5⟩, st5⟩ := X4.specialBack hx (y := (⟨"java/lang/String", "<init>", "([BB)V"⟩ : MethodName)) rfl hown (mvT hZ (hw_ hw 222 rfl)) (mvT hZ (hw_ hw 223 rfl)) (mvT hZ (hw_ hw 224 rfl)) (by decide) (backOf (W := 1) (rmSB l Z a0 hw [] b4 d kd (0 : Int32) (us.take E) h4 n0 Zs4 Ex_b4 F_value_b4 F_coder_b4 g_b4 ne_d_b4 (Or.inl ⟨rfl, V_d_4, hal⟩)) hZ (hw_ hw 224 rfl) (hw_ hw 14 rfl) (by decide) (by decide)) (g := (mkF m 35 #[.val (.ref b), .val (.int (0 : Int32)), .val (.int n), .val (.ref d), .val (.int (0 : Int32))] [(.int (0 : Int32)), (.ref d), (.ref b4), (.ref b4)])) rfl (by rw [hml]; rfl) (Steps.refl _) (a := b4) (argsL := [(.ref d), (.int (0 : Int32))]) (rest := [(.ref b4)]) (lenOf pd_27 rfl) rfl (by show 2 * 0 + _ ≤ _; exact Nat.le_of_eq rfl) (hb hby d38_35) (fun _ _ => ⟨rfl, e4, (by decide : 3 + 0 ≤ _), (by decide : 16 + 0 ≤ _)⟩)
    dsimp only [Pt.U, Pt.locs, Pt.cells, Pt.slots] at X5 l5 y5 z5 st5 hQ5
    subst l5 y5 z5
    obtain ⟨rfl, N5q, Kc5, qs5⟩ := hQ5
    have N5 := Fr.app N3 N5q
    have Zs5 := Nat.le_trans Zs4 Kc5.1
    have K5 := K4.trans Kc5 (fun x hx => by
        simp only [List.mem_cons, List.not_mem_nil, or_false] at hx
        rcases hx with rfl
        · exact Or.inr sz_b4)
    have V_d_5 := V_d_4.keep Kc5 (by
        simp only [List.mem_cons, List.not_mem_nil, or_false, not_or]
        exact ne_d_b4)
    have Ex_b4_5 := Ex_b4.keep Kc5
    refine own_by (S' := T5.setTop (mkF m 38 #[.val (.ref b), .val (.int (0 : Int32)), .val (.int n), .val (.ref d), .val (.int (0 : Int32))] [(.ref b4)])) (fun tZ kZ => st5.trans kZ) ?_
    exact own_retA X5 hx Bd.returns rfl rfl (hb hby d38_38) Bd.notSynchronized (by decide) (by decide) ⟨b4, rfl, N5, K5, qs5⟩
  · obtain ⟨zb, hzb⟩ := own_int (2 * (us.take E).length) (by omega)
    obtain ⟨_, _, ⟨T6, L6, k6, n6⟩, -, X6, ⟨Lc6, hQ6, l6, y6, z6⟩, st6⟩ := Jvm.LawKit.callS X2 hx (y := (⟨"java/lang/StringUTF16", "coderFromArrayLen", "([BI)B"⟩ : MethodName)) hown (mvT hZ (hw_ hw 220 rfl)) (mvT hZ (hw_ hw 95 rfl)) (mvT hZ (hw_ hw 70 rfl)) (mvT hZ (hw_ hw 96 rfl)) (by decide) (backOf (W := 0) (rmCfl l Z a0 hw [] d kd (bU (us.take E)) n zb 1 T2.heap n0 Zs2 V_d (by rw [bU_len, own_tnc hzb]) (own_nneg hzb) (own_cf1 hnE hzb (by omega) (by omega)) rfl) hZ (hw_ hw 96 rfl) (hw_ hw 70 rfl) (by decide) (by decide)) (g := (mkF m 23 #[.val (.ref b), .val (.int (0 : Int32)), .val (.int n), .val (.ref d), .unset] [(.int n), (.ref d)])) rfl (by rw [hml]; rfl) (argsL := [(.ref d), (.int n)]) (rest := []) (lenOf pd_24 rfl) rfl (by show 2 * 0 + _ ≤ _; exact Nat.le_of_eq rfl) (hb hby d38_23) (fun _ _ => ⟨rfl, rfl, (by decide : 2 + 0 ≤ _), (by decide : 12 + 0 ≤ _)⟩)
    dsimp only [Pt.U, Pt.locs, Pt.cells, Pt.slots] at X6 l6 y6 z6 st6 hQ6
    subst l6 y6 z6
    obtain ⟨rfl, N6q, heq6⟩ := hQ6
    have N6 := Fr.app N2 N6q
    refine own_by (S' := T6.setTop (mkF m 26 #[.val (.ref b), .val (.int (0 : Int32)), .val (.int n), .val (.ref d), .unset] [(.int (1 : Int32))])) (fun tZ kZ => st6 _ kZ) ?_
    refine own_by (S' := T6.setTop (mkF m 28 #[.val (.ref b), .val (.int (0 : Int32)), .val (.int n), .val (.ref d), .val (.int (1 : Int32))] [])) (fun tZ kZ => XS.istore X6.here hx rfl (hb hby d38_26) rfl (l' := #[.val (.ref b), .val (.int (0 : Int32)), .val (.int n), .val (.ref d), .val (.int (1 : Int32))]) rfl kZ) ?_
    obtain ⟨T7, h7, X7, e7, E7, A7, D7, U7, st7⟩ := newO X6 hx hZ hown (hw_ hw 221 rfl) (hw_ hw 13 rfl) (hw_ hw 14 rfl) heq6 (g := (mkF m 28 #[.val (.ref b), .val (.int (0 : Int32)), .val (.int n), .val (.ref d), .val (.int (1 : Int32))] [])) rfl (hb hby d38_28) (by decide) (by decide)
    obtain ⟨b7, g7⟩ : ∃ z, z = T2.heap.size := ⟨_, rfl⟩
    rw [← g7] at A7 D7 U7 st7
    have ne_d_b7 : d ≠ b7 := Nat.ne_of_lt (Nat.lt_of_lt_of_le V_d.lt (Nat.le_of_eq g7.symm))
    have g_b7 : n0 ≤ b7 := Nat.le_trans Zs2 (Nat.le_of_eq g7.symm)
    have sz_b7 : h0.size ≤ b7 := Nat.le_trans K2.1 (Nat.le_of_eq g7.symm)
    have V_d_7 := V_d.ext E7
    have Zs7 : n0 ≤ h7.size := Nat.le_trans Zs2 E7.1
    have K7 := K2.ext E7
    have Ex_b7 := A7
    have F_value_b7 : Fld Z h7 b7 "java/lang/String" "value" "[B" .null := D7 (Or.inr (hw_ hw 27 rfl)) (ty := (.array .byte)) (by decide)
    have F_coder_b7 : Fld Z h7 b7 "java/lang/String" "coder" "B" (.int (0 : Int32)) := D7 (Or.inr (hw_ hw 28 rfl)) (ty := .byte) (by decide)
    refine own_by (S' := T7.setTop (mkF m 31 #[.val (.ref b), .val (.int (0 : Int32)), .val (.int n), .val (.ref d), .val (.int (1 : Int32))] [(.ref b7)])) st7 ?_
    refine own_by (S' := T7.setTop (mkF m 32 #[.val (.ref b), .val (.int (0 : Int32)), .val (.int n), .val (.ref d), .val (.int (1 : Int32))] [(.ref b7), (.ref b7)])) (fun tZ kZ => XS.dup X7.here hx rfl (hb hby d38_31) rfl rfl kZ) ?_
    refine own_by (S' := T7.setTop (mkF m 33 #[.val (.ref b), .val (.int (0 : Int32)), .val (.int n), .val (.ref d), .val (.int (1 : Int32))] [(.ref d), (.ref b7), (.ref b7)])) (fun tZ kZ => XS.aloadN X7.here hx rfl (hb hby d38_32) rfl rfl kZ) ?_
    refine own_by (S' := T7.setTop (mkF m 35 #[.val (.ref b), .val (.int (0 : Int32)), .val (.int n), .val (.ref d), .val (.int (1 : Int32))] [(.int (1 : Int32)), (.ref d), (.ref b7), (.ref b7)])) (fun tZ kZ => XS.iload X7.here hx rfl (hb hby d38_33) rfl kZ) ?_
    obtain ⟨_, _, ⟨T8, L8, k8, n8⟩, -, X8, ⟨Lc8, hQ8, l8, y8, z8⟩, st8⟩ := X7.specialBack hx (y := (⟨"java/lang/String", "<init>", "([BB)V"⟩ : MethodName)) rfl hown (mvT hZ (hw_ hw 222 rfl)) (mvT hZ (hw_ hw 223 rfl)) (mvT hZ (hw_ hw 224 rfl)) (by decide) (backOf (W := 1) (rmSB l Z a0 hw [] b7 d kd (1 : Int32) (us.take E) h7 n0 Zs7 Ex_b7 F_value_b7 F_coder_b7 g_b7 ne_d_b7 (Or.inr ⟨rfl, V_d_7⟩)) hZ (hw_ hw 224 rfl) (hw_ hw 14 rfl) (by decide) (by decide)) (g := (mkF m 35 #[.val (.ref b), .val (.int (0 : Int32)), .val (.int n), .val (.ref d), .val (.int (1 : Int32))] [(.int (1 : Int32)), (.ref d), (.ref b7), (.ref b7)])) rfl (by rw [hml]; rfl) (Steps.refl _) (a := b7) (argsL := [(.ref d), (.int (1 : Int32))]) (rest := [(.ref b7)]) (lenOf pd_27 rfl) rfl (by show 2 * 0 + _ ≤ _; exact Nat.le_of_eq rfl) (hb hby d38_35) (fun _ _ => ⟨rfl, e7, (by decide : 3 + 0 ≤ _), (by decide : 16 + 0 ≤ _)⟩)
    dsimp only [Pt.U, Pt.locs, Pt.cells, Pt.slots] at X8 l8 y8 z8 st8 hQ8
    subst l8 y8 z8
    obtain ⟨rfl, N8q, Kc8, qs8⟩ := hQ8
    have N8 := Fr.app N6 N8q
    have Zs8 := Nat.le_trans Zs7 Kc8.1
    have K8 := K7.trans Kc8 (fun x hx => by
        simp only [List.mem_cons, List.not_mem_nil, or_false] at hx
        rcases hx with rfl
        · exact Or.inr sz_b7)
    have V_d_8 := V_d_7.keep Kc8 (by
        simp only [List.mem_cons, List.not_mem_nil, or_false, not_or]
        exact ne_d_b7)
    have Ex_b7_8 := Ex_b7.keep Kc8
    refine own_by (S' := T8.setTop (mkF m 38 #[.val (.ref b), .val (.int (0 : Int32)), .val (.int n), .val (.ref d), .val (.int (1 : Int32))] [(.ref b7)])) (fun tZ kZ => st8.trans kZ) ?_
    exact own_retA X8 hx Bd.returns rfl rfl (hb hby d38_38) Bd.notSynchronized (by decide) (by decide) ⟨b7, rfl, N8, K8, qs8⟩
theorem d36_0 : decode jdk_42_method_92_code 0 = .ok (.aload_n 0, 1) := by decide +kernel
theorem d36_1 : decode jdk_42_method_92_code 1 = .ok (.invokevirtual 505, 3) := by decide +kernel
theorem d36_4 : decode jdk_42_method_92_code 4 = .ok (.istore_n 3, 1) := by decide +kernel
theorem d36_5 : decode jdk_42_method_92_code 5 = .ok (.iload_n 1, 1) := by decide +kernel
theorem d36_6 : decode jdk_42_method_92_code 6 = .ok (.iload_n 2, 1) := by decide +kernel
theorem d36_7 : decode jdk_42_method_92_code 7 = .ok (.iload_n 3, 1) := by decide +kernel
theorem d36_8 : decode jdk_42_method_92_code 8 = .ok (.invokestatic 521, 3) := by decide +kernel
theorem d36_11 : decode jdk_42_method_92_code 11 = .ok (.iload_n 1, 1) := by decide +kernel
theorem d36_12 : decode jdk_42_method_92_code 12 = .ok (.ifCond .ne 10, 3) := by decide +kernel
theorem d36_15 : decode jdk_42_method_92_code 15 = .ok (.iload_n 2, 1) := by decide +kernel
theorem d36_16 : decode jdk_42_method_92_code 16 = .ok (.iload_n 3, 1) := by decide +kernel
theorem d36_17 : decode jdk_42_method_92_code 17 = .ok (.if_icmp .ne 5, 3) := by decide +kernel
theorem d36_20 : decode jdk_42_method_92_code 20 = .ok (.aload_n 0, 1) := by decide +kernel
theorem d36_21 : decode jdk_42_method_92_code 21 = .ok (.areturn, 1) := by decide +kernel
theorem d36_22 : decode jdk_42_method_92_code 22 = .ok (.iload_n 2, 1) := by decide +kernel
theorem d36_23 : decode jdk_42_method_92_code 23 = .ok (.iload_n 1, 1) := by decide +kernel
theorem d36_24 : decode jdk_42_method_92_code 24 = .ok (.isub, 1) := by decide +kernel
theorem d36_25 : decode jdk_42_method_92_code 25 = .ok (.istore 4, 2) := by decide +kernel
theorem d36_27 : decode jdk_42_method_92_code 27 = .ok (.aload_n 0, 1) := by decide +kernel
theorem d36_28 : decode jdk_42_method_92_code 28 = .ok (.invokevirtual 492, 3) := by decide +kernel
theorem d36_31 : decode jdk_42_method_92_code 31 = .ok (.ifCond .eq 16, 3) := by decide +kernel
theorem d36_34 : decode jdk_42_method_92_code 34 = .ok (.aload_n 0, 1) := by decide +kernel
theorem d36_35 : decode jdk_42_method_92_code 35 = .ok (.getfield 9, 3) := by decide +kernel
theorem d36_38 : decode jdk_42_method_92_code 38 = .ok (.iload_n 1, 1) := by decide +kernel
theorem d36_39 : decode jdk_42_method_92_code 39 = .ok (.iload 4, 2) := by decide +kernel
theorem d36_41 : decode jdk_42_method_92_code 41 = .ok (.invokestatic 685, 3) := by decide +kernel
theorem d36_44 : decode jdk_42_method_92_code 44 = .ok (.goto 13, 3) := by decide +kernel
theorem d36_47 : decode jdk_42_method_92_code 47 = .ok (.aload_n 0, 1) := by decide +kernel
theorem d36_48 : decode jdk_42_method_92_code 48 = .ok (.getfield 9, 3) := by decide +kernel
theorem d36_51 : decode jdk_42_method_92_code 51 = .ok (.iload_n 1, 1) := by decide +kernel
theorem d36_52 : decode jdk_42_method_92_code 52 = .ok (.iload 4, 2) := by decide +kernel
theorem d36_54 : decode jdk_42_method_92_code 54 = .ok (.invokestatic 689, 3) := by decide +kernel
theorem d36_57 : decode jdk_42_method_92_code 57 = .ok (.areturn, 1) := by decide +kernel
theorem ef_rmSub (m : MethodId) (r : Addr) (ee : Int32) : entryFrame m #[(.ref r), (.int (0 : Int32)), (.int ee)] 5 = mkF m 0 #[.val (.ref r), .val (.int (0 : Int32)), .val (.int ee), .unset, .unset] [] := by first | (simp [entryFrame, mkF, argsToLocals, Value.category, maxLocals]; done) | rfl
set_option maxRecDepth 65536 in
set_option maxHeartbeats 40000000 in
theorem rmSub (l : Launch) (Z : State) (a0 : Array Value) (hw : ∀ d ∈ tables_1, d.before a0 Z = true) (ws : List Jvm.Cond) (r : Addr) (us : List Int32) (n ee : Int32) (E : Nat) (cz : Int32) (fm : Value) (h0 : Heap) (n0 : Nat) (Z0 : n0 ≤ h0.size) (S : OwnStr Z h0 r us) (hl : us.length ≤ 4) (W : OwnW Z h0 cz fm) (hn : n.toInt = us.length) (hus : ∀ q ∈ us, CU q) (he : ee.toInt = E) (hE1 : 1 ≤ E) (hE : E < us.length) :
    MetFree l (⟨"java/lang/String", "substring", "(II)Ljava/lang/String;"⟩ : MethodName) (head1 (Jvm.Cond.code (⟨"java/lang/String", "substring", "(II)Ljava/lang/String;"⟩ : MethodName) jdk_42_method_92_code (5 : Nat) (Option.some (Jvm.ClassFile.FieldType.object "java/lang/String")) :: ws) ({ frames := 6, cells := 3, slots := 16, locals := 103 } : Room)) (fun aZ UZ => aZ = #[(.ref r), (.int (0 : Int32)), (.int ee)] ∧ Z.Warmed39 UZ.vm ∧ UZ.heap = h0) (fun _ _ _ _ _ => True) (fun _ UZ oZ VZ => ∃ vZ LZ, oZ = .returned vZ ∧ (QStr Z (us.take E) h0 n0) vZ VZ.heap LZ ∧ FrameEnd UZ oZ VZ LZ ({ frames := 6, cells := 3, slots := 16, locals := 103 } : Room).cells ({ frames := 6, cells := 3, slots := 16, locals := 103 } : Room).slots) := by
  refine MetFree.of_bodySF (plainFor_of_name pn_1) hisR ?_
  intro p e s m args below meth c s₁ Bd hml0 hP hK
  obtain ⟨rfl, hZ, hh⟩ := hP
  have hx := Bd.exec
  have hby := Bd.bytes
  have hml : c.maxLocals = 5 := hml0
  have hown : s.vm.findClass "java/lang/String" = some m.cls := findClass_of_methodNamed Bd.named
  have hnm := (name_of_methodNamed Bd.named Bd.method).1
  have X0 : Stand p l e ({ frames := 6, cells := 3, slots := 16, locals := 103 } : Room) s m #[(.ref r), (.int (0 : Int32)), (.int ee)] below meth c s₁ [] 0 0 := Stand.of_body Bd
  have e0 : s₁.heap = h0 := by rw [← hh, Bd.state]; rfl
  have N0 := Fr.nil n0
  show OwnG p e below (OwnE s (QStr Z (us.take E) h0 n0) ({ frames := 6, cells := 3, slots := 16, locals := 103 } : Room).cells ({ frames := 6, cells := 3, slots := 16, locals := 103 } : Room).slots) _
  refine own_by (S' := s₁.setTop (mkF m 0 #[.val (.ref r), .val (.int (0 : Int32)), .val (.int ee), .unset, .unset] [])) (fun tZ kZ => castTop (ef_rmSub m r ee) kZ) ?_
  obtain ⟨Ex, bb, kb, Vv, hcs⟩ := id S
  obtain ⟨Sc, hcz, Sf, rf, Sa, Shi, Slo⟩ := id W
  refine own_by (S' := s₁.setTop (mkF m 1 #[.val (.ref r), .val (.int (0 : Int32)), .val (.int ee), .unset, .unset] [(.ref r)])) (fun tZ kZ => XS.aloadN X0.here hx rfl (hb hby d36_0) rfl rfl kZ) ?_
  obtain ⟨cq1, kq1, q1a, q1b, q1c⟩ := isOf hZ e0 S.1
  obtain ⟨_, _, ⟨T1, L1, k1, n1⟩, -, X1, ⟨Lc1, hQ1, l1, y1, z1⟩, st1⟩ := X0.virtualBack hx (y := (⟨"java/lang/String", "length", "()I"⟩ : MethodName)) (z := (⟨"java/lang/String", "length", "()I"⟩ : MethodName)) hown (mvT hZ (hw_ hw 53 rfl)) (mvT hZ (hw_ hw 38 rfl)) (notFace_of_selects (args := #[]) (mvT hZ (hw_ hw 40 rfl))) (mvT hZ (hw_ hw 40 rfl)) (mvT hZ (hw_ hw 39 rfl)) (by decide) (backOf (W := 0) (rmLen l Z a0 hw [] r us n cz fm h0 n0 Z0 hn S hl W) hZ (hw_ hw 41 rfl) (hw_ hw 14 rfl) (by decide) (by decide)) q1a q1c (g := (mkF m 1 #[.val (.ref r), .val (.int (0 : Int32)), .val (.int ee), .unset, .unset] [(.ref r)])) rfl (by rw [hml]; rfl) (Steps.refl _) (argsL := []) (rest := []) (lenOf pd_10 rfl) rfl (by show 2 * 0 + _ ≤ _; exact Nat.le_of_eq rfl) (hb hby d36_1) (fun _ _ => ⟨rfl, e0, (by decide : 0 + 0 ≤ _), (by decide : 0 + 0 ≤ _)⟩)
  dsimp only [Pt.U, Pt.locs, Pt.cells, Pt.slots] at X1 l1 y1 z1 st1 hQ1
  subst l1 y1 z1
  obtain ⟨rfl, N1q, heq1⟩ := hQ1
  have N1 := Fr.app N0 N1q
  refine own_by (S' := T1.setTop (mkF m 4 #[.val (.ref r), .val (.int (0 : Int32)), .val (.int ee), .unset, .unset] [(.int n)])) (fun tZ kZ => st1.trans kZ) ?_
  refine own_by (S' := T1.setTop (mkF m 5 #[.val (.ref r), .val (.int (0 : Int32)), .val (.int ee), .val (.int n), .unset] [])) (fun tZ kZ => XS.istoreN X1.here hx rfl (hb hby d36_4) rfl (l' := #[.val (.ref r), .val (.int (0 : Int32)), .val (.int ee), .val (.int n), .unset]) rfl kZ) ?_
  refine own_by (S' := T1.setTop (mkF m 6 #[.val (.ref r), .val (.int (0 : Int32)), .val (.int ee), .val (.int n), .unset] [(.int (0 : Int32))])) (fun tZ kZ => XS.iloadN X1.here hx rfl (hb hby d36_5) rfl kZ) ?_
  refine own_by (S' := T1.setTop (mkF m 7 #[.val (.ref r), .val (.int (0 : Int32)), .val (.int ee), .val (.int n), .unset] [(.int ee), (.int (0 : Int32))])) (fun tZ kZ => XS.iloadN X1.here hx rfl (hb hby d36_6) rfl kZ) ?_
  refine own_by (S' := T1.setTop (mkF m 8 #[.val (.ref r), .val (.int (0 : Int32)), .val (.int ee), .val (.int n), .unset] [(.int n), (.int ee), (.int (0 : Int32))])) (fun tZ kZ => XS.iloadN X1.here hx rfl (hb hby d36_7) rfl kZ) ?_
  obtain ⟨_, _, ⟨T2, L2, k2, n2⟩, -, X2, ⟨Lc2, hQ2, l2, y2, z2⟩, st2⟩ := Jvm.LawKit.callS X1 hx (y := (⟨"java/lang/String", "checkBoundsBeginEnd", "(III)V"⟩ : MethodName)) hown (mvT hZ (hw_ hw 165 rfl)) (mvT hZ (hw_ hw 166 rfl)) (mvT hZ (hw_ hw 14 rfl)) (mvT hZ (hw_ hw 167 rfl)) (by decide) (backOf (W := 0) (rmCBE l Z a0 hw [] (0 : Int32) ee n cz fm h0 n0 Z0 (by decide) (own_nneg he) (by rw [own_lt hn he]; omega) W) hZ (hw_ hw 167 rfl) (hw_ hw 14 rfl) (by decide) (by decide)) (g := (mkF m 8 #[.val (.ref r), .val (.int (0 : Int32)), .val (.int ee), .val (.int n), .unset] [(.int n), (.int ee), (.int (0 : Int32))])) rfl (by rw [hml]; rfl) (argsL := [(.int (0 : Int32)), (.int ee), (.int n)]) (rest := []) (lenOf pd_28 rfl) rfl (by show 2 * 0 + _ ≤ _; exact Nat.le_of_eq rfl) (hb hby d36_8) (fun _ _ => ⟨rfl, heq1, (by decide : 0 + 0 ≤ _), (by decide : 0 + 0 ≤ _)⟩)
  dsimp only [Pt.U, Pt.locs, Pt.cells, Pt.slots] at X2 l2 y2 z2 st2 hQ2
  subst l2 y2 z2
  obtain ⟨rfl, N2q, heq2⟩ := hQ2
  have N2 := Fr.app N1 N2q
  refine own_by (S' := T2.setTop (mkF m 11 #[.val (.ref r), .val (.int (0 : Int32)), .val (.int ee), .val (.int n), .unset] [])) (fun tZ kZ => st2 _ kZ) ?_
  refine own_by (S' := T2.setTop (mkF m 12 #[.val (.ref r), .val (.int (0 : Int32)), .val (.int ee), .val (.int n), .unset] [(.int (0 : Int32))])) (fun tZ kZ => XS.iloadN X2.here hx rfl (hb hby d36_11) rfl kZ) ?_
  refine own_by (S' := T2.setTop (mkF m 15 #[.val (.ref r), .val (.int (0 : Int32)), .val (.int ee), .val (.int n), .unset] [])) (fun tZ kZ => XS.ifNo X2.here hx rfl (hb hby d36_12) rfl ((if0 _ _).trans (teq rfl).2) kZ) ?_
  refine own_by (S' := T2.setTop (mkF m 16 #[.val (.ref r), .val (.int (0 : Int32)), .val (.int ee), .val (.int n), .unset] [(.int ee)])) (fun tZ kZ => XS.iloadN X2.here hx rfl (hb hby d36_15) rfl kZ) ?_
  refine own_by (S' := T2.setTop (mkF m 17 #[.val (.ref r), .val (.int (0 : Int32)), .val (.int ee), .val (.int n), .unset] [(.int n), (.int ee)])) (fun tZ kZ => XS.iloadN X2.here hx rfl (hb hby d36_16) rfl kZ) ?_
  refine own_by (S' := T2.setTop (mkF m 22 #[.val (.ref r), .val (.int (0 : Int32)), .val (.int ee), .val (.int n), .unset] [])) (fun tZ kZ => XS.icmpYes X2.here hx rfl (pc0 := 17) (pc' := 22) rfl (hb hby d36_17) rfl (feq (own_neq he hn (by omega))).2 (by decide) (by decide) kZ) ?_
  refine own_by (S' := T2.setTop (mkF m 23 #[.val (.ref r), .val (.int (0 : Int32)), .val (.int ee), .val (.int n), .unset] [(.int ee)])) (fun tZ kZ => XS.iloadN X2.here hx rfl (hb hby d36_22) rfl kZ) ?_
  refine own_by (S' := T2.setTop (mkF m 24 #[.val (.ref r), .val (.int (0 : Int32)), .val (.int ee), .val (.int n), .unset] [(.int (0 : Int32)), (.int ee)])) (fun tZ kZ => XS.iloadN X2.here hx rfl (hb hby d36_23) rfl kZ) ?_
  refine own_by (S' := T2.setTop (mkF m 25 #[.val (.ref r), .val (.int (0 : Int32)), .val (.int ee), .val (.int n), .unset] [(.int (ee - (0 : Int32)))])) (fun tZ kZ => XS.isub X2.here hx rfl (hb hby d36_24) rfl kZ) ?_
  rw [own_sub0]
  refine own_by (S' := T2.setTop (mkF m 27 #[.val (.ref r), .val (.int (0 : Int32)), .val (.int ee), .val (.int n), .val (.int ee)] [])) (fun tZ kZ => XS.istore X2.here hx rfl (hb hby d36_25) rfl (l' := #[.val (.ref r), .val (.int (0 : Int32)), .val (.int ee), .val (.int n), .val (.int ee)]) rfl kZ) ?_
  refine own_by (S' := T2.setTop (mkF m 28 #[.val (.ref r), .val (.int (0 : Int32)), .val (.int ee), .val (.int n), .val (.int ee)] [(.ref r)])) (fun tZ kZ => XS.aloadN X2.here hx rfl (hb hby d36_27) rfl rfl kZ) ?_
  rcases hcs with ⟨Cc, V_b, hal⟩ | ⟨Cc, V_b⟩
  · obtain ⟨cq3, kq3, q3a, q3b, q3c⟩ := isOf hZ heq2 Ex
    obtain ⟨_, _, ⟨T3, L3, k3, n3⟩, -, X3, ⟨Lc3, hQ3, l3, y3, z3⟩, st3⟩ := X2.virtualBack hx (y := (⟨"java/lang/String", "isLatin1", "()Z"⟩ : MethodName)) (z := (⟨"java/lang/String", "isLatin1", "()Z"⟩ : MethodName)) hown (mvT hZ (hw_ hw 62 rfl)) (mvT hZ (hw_ hw 63 rfl)) (notFace_of_selects (args := #[]) (mvT hZ (hw_ hw 65 rfl))) (mvT hZ (hw_ hw 65 rfl)) (mvT hZ (hw_ hw 64 rfl)) (by decide) (backOf (W := 0) (rmIsL0 l Z a0 hw [] r cz h0 n0 Z0 Cc Sc hcz) hZ (hw_ hw 66 rfl) (hw_ hw 14 rfl) (by decide) (by decide)) q3a q3c (g := (mkF m 28 #[.val (.ref r), .val (.int (0 : Int32)), .val (.int ee), .val (.int n), .val (.int ee)] [(.ref r)])) rfl (by rw [hml]; rfl) (Steps.refl _) (argsL := []) (rest := []) (lenOf pd_7 rfl) rfl (by show 2 * 0 + _ ≤ _; exact Nat.le_of_eq rfl) (hb hby d36_28) (fun _ _ => ⟨rfl, heq2, (by decide : 0 + 0 ≤ _), (by decide : 0 + 0 ≤ _)⟩)
    dsimp only [Pt.U, Pt.locs, Pt.cells, Pt.slots] at X3 l3 y3 z3 st3 hQ3
    subst l3 y3 z3
    obtain ⟨rfl, N3q, heq3⟩ := hQ3
    have N3 := Fr.app N2 N3q
    refine own_by (S' := T3.setTop (mkF m 31 #[.val (.ref r), .val (.int (0 : Int32)), .val (.int ee), .val (.int n), .val (.int ee)] [(.int (1 : Int32))])) (fun tZ kZ => st3.trans kZ) ?_
    refine own_by (S' := T3.setTop (mkF m 34 #[.val (.ref r), .val (.int (0 : Int32)), .val (.int ee), .val (.int n), .val (.int ee)] [])) (fun tZ kZ => XS.ifNo X3.here hx rfl (hb hby d36_31) rfl ((if0 _ _).trans (feq (by decide)).1) kZ) ?_
    refine own_by (S' := T3.setTop (mkF m 35 #[.val (.ref r), .val (.int (0 : Int32)), .val (.int ee), .val (.int n), .val (.int ee)] [(.ref r)])) (fun tZ kZ => XS.aloadN X3.here hx rfl (hb hby d36_34) rfl rfl kZ) ?_
    obtain ⟨T4, X4, e4, st4⟩ := getF X3 hx hZ hown (host := "") (Or.inl (hw_ hw 31 rfl)) Via.refl heq3 Vv (g := (mkF m 35 #[.val (.ref r), .val (.int (0 : Int32)), .val (.int ee), .val (.int n), .val (.int ee)] [(.ref r)])) rfl rfl (hb hby d36_35)
    refine own_by (S' := T4.setTop (mkF m 38 #[.val (.ref r), .val (.int (0 : Int32)), .val (.int ee), .val (.int n), .val (.int ee)] [(.ref bb)])) st4 ?_
    refine own_by (S' := T4.setTop (mkF m 39 #[.val (.ref r), .val (.int (0 : Int32)), .val (.int ee), .val (.int n), .val (.int ee)] [(.int (0 : Int32)), (.ref bb)])) (fun tZ kZ => XS.iloadN X4.here hx rfl (hb hby d36_38) rfl kZ) ?_
    refine own_by (S' := T4.setTop (mkF m 41 #[.val (.ref r), .val (.int (0 : Int32)), .val (.int ee), .val (.int n), .val (.int ee)] [(.int ee), (.int (0 : Int32)), (.ref bb)])) (fun tZ kZ => XS.iload X4.here hx rfl (hb hby d36_39) rfl kZ) ?_
    obtain ⟨_, _, ⟨T5, L5, k5, n5⟩, -, X5, ⟨Lc5, hQ5, l5, y5, z5⟩, st5⟩ := Jvm.LawKit.callS X4 hx (y := (⟨"java/lang/StringLatin1", "newString", "([BII)Ljava/lang/String;"⟩ : MethodName)) hown (mvT hZ (hw_ hw 225 rfl)) (mvT hZ (hw_ hw 226 rfl)) (mvT hZ (hw_ hw 175 rfl)) (mvT hZ (hw_ hw 227 rfl)) (by decide) (backOf (W := 0) (rmLNew l Z a0 hw [] bb kb us ee E h0 n0 Z0 V_b hl hal he hE1 hE) hZ (hw_ hw 227 rfl) (hw_ hw 175 rfl) (by decide) (by decide)) (g := (mkF m 41 #[.val (.ref r), .val (.int (0 : Int32)), .val (.int ee), .val (.int n), .val (.int ee)] [(.int ee), (.int (0 : Int32)), (.ref bb)])) rfl (by rw [hml]; rfl) (argsL := [(.ref bb), (.int (0 : Int32)), (.int ee)]) (rest := []) (lenOf pd_29 rfl) rfl (by show 2 * 0 + _ ≤ _; exact Nat.le_of_eq rfl) (hb hby d36_41) (fun _ _ => ⟨rfl, e4, (by decide : 0 + 2 ≤ _), (by decide : 0 + 12 ≤ _)⟩)
    dsimp only [Pt.U, Pt.locs, Pt.cells, Pt.slots] at X5 l5 y5 z5 st5 hQ5
    subst l5 y5 z5
    obtain ⟨rr, rfl, N5q, Kc5, qs5⟩ := hQ5
    have N5 := Fr.app N3 N5q
    have Zs5 := Nat.le_trans Z0 Kc5.1
    have Ec5 := own_ext0 Kc5
    have K5 := (Keep.refl h0 []).ext Ec5
    refine own_by (S' := T5.setTop (mkF m 44 #[.val (.ref r), .val (.int (0 : Int32)), .val (.int ee), .val (.int n), .val (.int ee)] [(.ref rr)])) (fun tZ kZ => st5 _ kZ) ?_
    refine own_by (S' := T5.setTop (mkF m 57 #[.val (.ref r), .val (.int (0 : Int32)), .val (.int ee), .val (.int n), .val (.int ee)] [(.ref rr)])) (fun tZ kZ => XS.goto X5.here hx rfl (pc0 := 44) (pc' := 57) rfl (hb hby d36_44) (by decide) (by decide) kZ) ?_
    exact own_retA X5 hx Bd.returns rfl rfl (hb hby d36_57) Bd.notSynchronized (by decide) (by decide) ⟨rr, rfl, N5, K5, qs5⟩
  · obtain ⟨cq6, kq6, q6a, q6b, q6c⟩ := isOf hZ heq2 Ex
    obtain ⟨_, _, ⟨T6, L6, k6, n6⟩, -, X6, ⟨Lc6, hQ6, l6, y6, z6⟩, st6⟩ := X2.virtualBack hx (y := (⟨"java/lang/String", "isLatin1", "()Z"⟩ : MethodName)) (z := (⟨"java/lang/String", "isLatin1", "()Z"⟩ : MethodName)) hown (mvT hZ (hw_ hw 62 rfl)) (mvT hZ (hw_ hw 63 rfl)) (notFace_of_selects (args := #[]) (mvT hZ (hw_ hw 65 rfl))) (mvT hZ (hw_ hw 65 rfl)) (mvT hZ (hw_ hw 64 rfl)) (by decide) (backOf (W := 0) (rmIsL1 l Z a0 hw [] r cz h0 n0 Z0 Cc Sc hcz) hZ (hw_ hw 66 rfl) (hw_ hw 14 rfl) (by decide) (by decide)) q6a q6c (g := (mkF m 28 #[.val (.ref r), .val (.int (0 : Int32)), .val (.int ee), .val (.int n), .val (.int ee)] [(.ref r)])) rfl (by rw [hml]; rfl) (Steps.refl _) (argsL := []) (rest := []) (lenOf pd_7 rfl) rfl (by show 2 * 0 + _ ≤ _; exact Nat.le_of_eq rfl) (hb hby d36_28) (fun _ _ => ⟨rfl, heq2, (by decide : 0 + 0 ≤ _), (by decide : 0 + 0 ≤ _)⟩)
    dsimp only [Pt.U, Pt.locs, Pt.cells, Pt.slots] at X6 l6 y6 z6 st6 hQ6
    subst l6 y6 z6
    obtain ⟨rfl, N6q, heq6⟩ := hQ6
    have N6 := Fr.app N2 N6q
    refine own_by (S' := T6.setTop (mkF m 31 #[.val (.ref r), .val (.int (0 : Int32)), .val (.int ee), .val (.int n), .val (.int ee)] [(.int (0 : Int32))])) (fun tZ kZ => st6.trans kZ) ?_
    refine own_by (S' := T6.setTop (mkF m 47 #[.val (.ref r), .val (.int (0 : Int32)), .val (.int ee), .val (.int n), .val (.int ee)] [])) (fun tZ kZ => XS.ifYes X6.here hx rfl (pc0 := 31) (pc' := 47) rfl (hb hby d36_31) rfl ((if0 _ _).trans (teq rfl).1) (by decide) (by decide) kZ) ?_
    refine own_by (S' := T6.setTop (mkF m 48 #[.val (.ref r), .val (.int (0 : Int32)), .val (.int ee), .val (.int n), .val (.int ee)] [(.ref r)])) (fun tZ kZ => XS.aloadN X6.here hx rfl (hb hby d36_47) rfl rfl kZ) ?_
    obtain ⟨T7, X7, e7, st7⟩ := getF X6 hx hZ hown (host := "") (Or.inl (hw_ hw 31 rfl)) Via.refl heq6 Vv (g := (mkF m 48 #[.val (.ref r), .val (.int (0 : Int32)), .val (.int ee), .val (.int n), .val (.int ee)] [(.ref r)])) rfl rfl (hb hby d36_48)
    refine own_by (S' := T7.setTop (mkF m 51 #[.val (.ref r), .val (.int (0 : Int32)), .val (.int ee), .val (.int n), .val (.int ee)] [(.ref bb)])) st7 ?_
    refine own_by (S' := T7.setTop (mkF m 52 #[.val (.ref r), .val (.int (0 : Int32)), .val (.int ee), .val (.int n), .val (.int ee)] [(.int (0 : Int32)), (.ref bb)])) (fun tZ kZ => XS.iloadN X7.here hx rfl (hb hby d36_51) rfl kZ) ?_
    refine own_by (S' := T7.setTop (mkF m 54 #[.val (.ref r), .val (.int (0 : Int32)), .val (.int ee), .val (.int n), .val (.int ee)] [(.int ee), (.int (0 : Int32)), (.ref bb)])) (fun tZ kZ => XS.iload X7.here hx rfl (hb hby d36_52) rfl kZ) ?_
    obtain ⟨_, _, ⟨T8, L8, k8, n8⟩, -, X8, ⟨Lc8, hQ8, l8, y8, z8⟩, st8⟩ := Jvm.LawKit.callS X7 hx (y := (⟨"java/lang/StringUTF16", "newString", "([BII)Ljava/lang/String;"⟩ : MethodName)) hown (mvT hZ (hw_ hw 169 rfl)) (mvT hZ (hw_ hw 170 rfl)) (mvT hZ (hw_ hw 70 rfl)) (mvT hZ (hw_ hw 171 rfl)) (by decide) (backOf (W := 0) (rmUNew l Z a0 hw [] bb kb us ee E cz fm h0 n0 Z0 V_b hl hus he hE1 hE W) hZ (hw_ hw 171 rfl) (hw_ hw 70 rfl) (by decide) (by decide)) (g := (mkF m 54 #[.val (.ref r), .val (.int (0 : Int32)), .val (.int ee), .val (.int n), .val (.int ee)] [(.int ee), (.int (0 : Int32)), (.ref bb)])) rfl (by rw [hml]; rfl) (argsL := [(.ref bb), (.int (0 : Int32)), (.int ee)]) (rest := []) (lenOf pd_29 rfl) rfl (by show 2 * 0 + _ ≤ _; exact Nat.le_of_eq rfl) (hb hby d36_54) (fun _ _ => ⟨rfl, e7, (by decide : 0 + 3 ≤ _), (by decide : 0 + 16 ≤ _)⟩)
    dsimp only [Pt.U, Pt.locs, Pt.cells, Pt.slots] at X8 l8 y8 z8 st8 hQ8
    subst l8 y8 z8
    obtain ⟨rr, rfl, N8q, Kc8, qs8⟩ := hQ8
    have N8 := Fr.app N6 N8q
    have Zs8 := Nat.le_trans Z0 Kc8.1
    have Ec8 := own_ext0 Kc8
    have K8 := (Keep.refl h0 []).ext Ec8
    refine own_by (S' := T8.setTop (mkF m 57 #[.val (.ref r), .val (.int (0 : Int32)), .val (.int ee), .val (.int n), .val (.int ee)] [(.ref rr)])) (fun tZ kZ => st8 _ kZ) ?_
    exact own_retA X8 hx Bd.returns rfl rfl (hb hby d36_57) Bd.notSynchronized (by decide) (by decide) ⟨rr, rfl, N8, K8, qs8⟩
theorem d6_0 : decode prog_25_method_2_code 0 = .ok (.aload_n 0, 1) := by decide +kernel
theorem d6_1 : decode prog_25_method_2_code 1 = .ok (.astore_n 2, 1) := by decide +kernel
theorem d6_2 : decode prog_25_method_2_code 2 = .ok (.aload_n 0, 1) := by decide +kernel
theorem d6_3 : decode prog_25_method_2_code 3 = .ok (.iconst 0, 1) := by decide +kernel
theorem d6_4 : decode prog_25_method_2_code 4 = .ok (.aload_n 0, 1) := by decide +kernel
theorem d6_5 : decode prog_25_method_2_code 5 = .ok (.invokevirtual 7, 3) := by decide +kernel
theorem d6_8 : decode prog_25_method_2_code 8 = .ok (.invokevirtual 13, 3) := by decide +kernel
theorem d6_11 : decode prog_25_method_2_code 11 = .ok (.iload_n 1, 1) := by decide +kernel
theorem d6_12 : decode prog_25_method_2_code 12 = .ok (.if_icmp .le 15, 3) := by decide +kernel
theorem d6_15 : decode prog_25_method_2_code 15 = .ok (.aload_n 0, 1) := by decide +kernel
theorem d6_16 : decode prog_25_method_2_code 16 = .ok (.iconst 0, 1) := by decide +kernel
theorem d6_17 : decode prog_25_method_2_code 17 = .ok (.aload_n 0, 1) := by decide +kernel
theorem d6_18 : decode prog_25_method_2_code 18 = .ok (.iconst 0, 1) := by decide +kernel
theorem d6_19 : decode prog_25_method_2_code 19 = .ok (.iload_n 1, 1) := by decide +kernel
theorem d6_20 : decode prog_25_method_2_code 20 = .ok (.invokevirtual 17, 3) := by decide +kernel
theorem d6_23 : decode prog_25_method_2_code 23 = .ok (.invokevirtual 20, 3) := by decide +kernel
theorem d6_26 : decode prog_25_method_2_code 26 = .ok (.astore_n 2, 1) := by decide +kernel
theorem d6_27 : decode prog_25_method_2_code 27 = .ok (.aload_n 2, 1) := by decide +kernel
theorem d6_28 : decode prog_25_method_2_code 28 = .ok (.areturn, 1) := by decide +kernel
theorem pn_8 : plainName "com/example/idpd/idpd/Texts" = true := by first | (simp [plainName, overriddenIn]; done) | decide +kernel
theorem ef_rmPre (m : MethodId) (r : Addr) (mm : Int32) : entryFrame m #[(.ref r), (.int mm)] 3 = mkF m 0 #[.val (.ref r), .val (.int mm), .unset] [] := by first | (simp [entryFrame, mkF, argsToLocals, Value.category, maxLocals]; done) | rfl
set_option maxRecDepth 65536 in
set_option maxHeartbeats 40000000 in
theorem rmPre (l : Launch) (Z : State) (a0 : Array Value) (hw : ∀ d ∈ tables_1, d.before a0 Z = true) (ws : List Jvm.Cond) (r : Addr) (us : List Int32) (n mm : Int32) (M : Nat) (cz : Int32) (fm : Value) (h0 : Heap) (n0 : Nat) (Z0 : n0 ≤ h0.size) (S : OwnStr Z h0 r us) (hl : us.length ≤ 4) (W : OwnW Z h0 cz fm) (hn : n.toInt = us.length) (hus : ∀ q ∈ us, CU q) (hm : mm.toInt = M) (hor : us.length = 0 ∨ 1 ≤ M) :
    MetFree l (⟨"com/example/idpd/idpd/Texts", "prefix", "(Ljava/lang/String;I)Ljava/lang/String;"⟩ : MethodName) (head1 (Jvm.Cond.code (⟨"com/example/idpd/idpd/Texts", "prefix", "(Ljava/lang/String;I)Ljava/lang/String;"⟩ : MethodName) prog_25_method_2_code (3 : Nat) (Option.some (Jvm.ClassFile.FieldType.object "java/lang/String")) :: ws) ({ frames := 7, cells := 3, slots := 16, locals := 119 } : Room)) (fun aZ UZ => aZ = #[(.ref r), (.int mm)] ∧ Z.Warmed39 UZ.vm ∧ UZ.heap = h0) (fun _ _ _ _ _ => True) (fun _ UZ oZ VZ => ∃ vZ LZ, oZ = .returned vZ ∧ (QStr Z (us.take (tE (pr us) us.length M 4)) h0 n0) vZ VZ.heap LZ ∧ FrameEnd UZ oZ VZ LZ ({ frames := 7, cells := 3, slots := 16, locals := 119 } : Room).cells ({ frames := 7, cells := 3, slots := 16, locals := 119 } : Room).slots) := by
  refine MetFree.of_bodySF (plainFor_of_name pn_8) hisR ?_
  intro p e s m args below meth c s₁ Bd hml0 hP hK
  obtain ⟨rfl, hZ, hh⟩ := hP
  have hx := Bd.exec
  have hby := Bd.bytes
  have hml : c.maxLocals = 3 := hml0
  have hown : s.vm.findClass "com/example/idpd/idpd/Texts" = some m.cls := findClass_of_methodNamed Bd.named
  have hnm := (name_of_methodNamed Bd.named Bd.method).1
  have X0 : Stand p l e ({ frames := 7, cells := 3, slots := 16, locals := 119 } : Room) s m #[(.ref r), (.int mm)] below meth c s₁ [] 0 0 := Stand.of_body Bd
  have e0 : s₁.heap = h0 := by rw [← hh, Bd.state]; rfl
  have N0 := Fr.nil n0
  show OwnG p e below (OwnE s (QStr Z (us.take (tE (pr us) us.length M 4)) h0 n0) ({ frames := 7, cells := 3, slots := 16, locals := 119 } : Room).cells ({ frames := 7, cells := 3, slots := 16, locals := 119 } : Room).slots) _
  refine own_by (S' := s₁.setTop (mkF m 0 #[.val (.ref r), .val (.int mm), .unset] [])) (fun tZ kZ => castTop (ef_rmPre m r mm) kZ) ?_
  have hT := tMain (pr us) (m := M) hl
  refine own_by (S' := s₁.setTop (mkF m 1 #[.val (.ref r), .val (.int mm), .unset] [(.ref r)])) (fun tZ kZ => XS.aloadN X0.here hx rfl (hb hby d6_0) rfl rfl kZ) ?_
  refine own_by (S' := s₁.setTop (mkF m 2 #[.val (.ref r), .val (.int mm), .val (.ref r)] [])) (fun tZ kZ => XS.astoreN X0.here hx rfl (hb hby d6_1) rfl rfl (l' := #[.val (.ref r), .val (.int mm), .val (.ref r)]) rfl kZ) ?_
  refine own_by (S' := s₁.setTop (mkF m 3 #[.val (.ref r), .val (.int mm), .val (.ref r)] [(.ref r)])) (fun tZ kZ => XS.aloadN X0.here hx rfl (hb hby d6_2) rfl rfl kZ) ?_
  refine own_by (S' := s₁.setTop (mkF m 4 #[.val (.ref r), .val (.int mm), .val (.ref r)] [(.int (0 : Int32)), (.ref r)])) (fun tZ kZ => XS.iconst X0.here hx rfl (hb hby d6_3) kZ) ?_
  refine own_by (S' := s₁.setTop (mkF m 5 #[.val (.ref r), .val (.int mm), .val (.ref r)] [(.ref r), (.int (0 : Int32)), (.ref r)])) (fun tZ kZ => XS.aloadN X0.here hx rfl (hb hby d6_4) rfl rfl kZ) ?_
  obtain ⟨cq1, kq1, q1a, q1b, q1c⟩ := isOf hZ e0 S.1
  obtain ⟨_, _, ⟨T1, L1, k1, n1⟩, -, X1, ⟨Lc1, hQ1, l1, y1, z1⟩, st1⟩ := X0.virtualBack hx (y := (⟨"java/lang/String", "length", "()I"⟩ : MethodName)) (z := (⟨"java/lang/String", "length", "()I"⟩ : MethodName)) hown (mvT hZ (hw_ hw 37 rfl)) (mvT hZ (hw_ hw 38 rfl)) (notFace_of_selects (args := #[]) (mvT hZ (hw_ hw 40 rfl))) (mvT hZ (hw_ hw 40 rfl)) (mvT hZ (hw_ hw 39 rfl)) (by decide) (backOf (W := 2) (rmLen l Z a0 hw [] r us n cz fm h0 n0 Z0 hn S hl W) hZ (hw_ hw 41 rfl) (hw_ hw 14 rfl) (by decide) (by decide)) q1a q1c (g := (mkF m 5 #[.val (.ref r), .val (.int mm), .val (.ref r)] [(.ref r), (.int (0 : Int32)), (.ref r)])) rfl (by rw [hml]; rfl) (Steps.refl _) (argsL := []) (rest := [(.int (0 : Int32)), (.ref r)]) (lenOf pd_10 rfl) rfl (by show 2 * 0 + _ ≤ _; exact Nat.le_of_eq rfl) (hb hby d6_5) (fun _ _ => ⟨rfl, e0, (by decide : 0 + 0 ≤ _), (by decide : 0 + 0 ≤ _)⟩)
  dsimp only [Pt.U, Pt.locs, Pt.cells, Pt.slots] at X1 l1 y1 z1 st1 hQ1
  subst l1 y1 z1
  obtain ⟨rfl, N1q, heq1⟩ := hQ1
  have N1 := Fr.app N0 N1q
  refine own_by (S' := T1.setTop (mkF m 8 #[.val (.ref r), .val (.int mm), .val (.ref r)] [(.int n), (.int (0 : Int32)), (.ref r)])) (fun tZ kZ => st1.trans kZ) ?_
  obtain ⟨cq2, kq2, q2a, q2b, q2c⟩ := isOf hZ heq1 S.1
  obtain ⟨_, _, ⟨T2, L2, k2, n2⟩, -, X2, ⟨Lc2, hQ2, l2, y2, z2⟩, st2⟩ := X1.virtualBack hx (y := (⟨"java/lang/String", "codePointCount", "(II)I"⟩ : MethodName)) (z := (⟨"java/lang/String", "codePointCount", "(II)I"⟩ : MethodName)) hown (mvT hZ (hw_ hw 48 rfl)) (mvT hZ (hw_ hw 49 rfl)) (notFace_of_selects (args := #[]) (mvT hZ (hw_ hw 51 rfl))) (mvT hZ (hw_ hw 51 rfl)) (mvT hZ (hw_ hw 50 rfl)) (by decide) (backOf (W := 0) (rmCp l Z a0 hw [] r us n cz fm h0 n0 Z0 S hl W hn hus) hZ (hw_ hw 52 rfl) (hw_ hw 14 rfl) (by decide) (by decide)) q2a q2c (g := (mkF m 8 #[.val (.ref r), .val (.int mm), .val (.ref r)] [(.int n), (.int (0 : Int32)), (.ref r)])) rfl (by rw [hml]; rfl) (Steps.refl _) (argsL := [(.int (0 : Int32)), (.int n)]) (rest := []) (lenOf pd_19 rfl) rfl (by show 2 * 0 + _ ≤ _; exact Nat.le_of_eq rfl) (hb hby d6_8) (fun _ _ => ⟨rfl, heq1, (by decide : 0 + 0 ≤ _), (by decide : 0 + 0 ≤ _)⟩)
  dsimp only [Pt.U, Pt.locs, Pt.cells, Pt.slots] at X2 l2 y2 z2 st2 hQ2
  subst l2 y2 z2
  obtain ⟨zr, rfl, hzr, N2q, heq2⟩ := hQ2
  have N2 := Fr.app N1 N2q
  refine own_by (S' := T2.setTop (mkF m 11 #[.val (.ref r), .val (.int mm), .val (.ref r)] [(.int zr)])) (fun tZ kZ => st2.trans kZ) ?_
  refine own_by (S' := T2.setTop (mkF m 12 #[.val (.ref r), .val (.int mm), .val (.ref r)] [(.int mm), (.int zr)])) (fun tZ kZ => XS.iloadN X2.here hx rfl (hb hby d6_11) rfl kZ) ?_
  by_cases dg1 : mm < zr
  · refine own_by (S' := T2.setTop (mkF m 15 #[.val (.ref r), .val (.int mm), .val (.ref r)] [])) (fun tZ kZ => XS.icmpNo X2.here hx rfl (hb hby d6_12) rfl (tlt dg1).2.2.2 kZ) ?_
    rw [own_lt hm hzr] at dg1
    obtain ⟨hM3, hO, hEl⟩ := hT.2 (by omega)
    have hE1 := tE_pos (pr us) (n := us.length) (m := M) (by omega) (by omega)
    refine own_by (S' := T2.setTop (mkF m 16 #[.val (.ref r), .val (.int mm), .val (.ref r)] [(.ref r)])) (fun tZ kZ => XS.aloadN X2.here hx rfl (hb hby d6_15) rfl rfl kZ) ?_
    refine own_by (S' := T2.setTop (mkF m 17 #[.val (.ref r), .val (.int mm), .val (.ref r)] [(.int (0 : Int32)), (.ref r)])) (fun tZ kZ => XS.iconst X2.here hx rfl (hb hby d6_16) kZ) ?_
    refine own_by (S' := T2.setTop (mkF m 18 #[.val (.ref r), .val (.int mm), .val (.ref r)] [(.ref r), (.int (0 : Int32)), (.ref r)])) (fun tZ kZ => XS.aloadN X2.here hx rfl (hb hby d6_17) rfl rfl kZ) ?_
    refine own_by (S' := T2.setTop (mkF m 19 #[.val (.ref r), .val (.int mm), .val (.ref r)] [(.int (0 : Int32)), (.ref r), (.int (0 : Int32)), (.ref r)])) (fun tZ kZ => XS.iconst X2.here hx rfl (hb hby d6_18) kZ) ?_
    refine own_by (S' := T2.setTop (mkF m 20 #[.val (.ref r), .val (.int mm), .val (.ref r)] [(.int mm), (.int (0 : Int32)), (.ref r), (.int (0 : Int32)), (.ref r)])) (fun tZ kZ => XS.iloadN X2.here hx rfl (hb hby d6_19) rfl kZ) ?_
    obtain ⟨cq3, kq3, q3a, q3b, q3c⟩ := isOf hZ heq2 S.1
    obtain ⟨_, _, ⟨T3, L3, k3, n3⟩, -, X3, ⟨Lc3, hQ3, l3, y3, z3⟩, st3⟩ := X2.virtualBack hx (y := (⟨"java/lang/String", "offsetByCodePoints", "(II)I"⟩ : MethodName)) (z := (⟨"java/lang/String", "offsetByCodePoints", "(II)I"⟩ : MethodName)) hown (mvT hZ (hw_ hw 145 rfl)) (mvT hZ (hw_ hw 146 rfl)) (notFace_of_selects (args := #[]) (mvT hZ (hw_ hw 148 rfl))) (mvT hZ (hw_ hw 148 rfl)) (mvT hZ (hw_ hw 147 rfl)) (by decide) (backOf (W := 2) (rmOfs l Z a0 hw [] r us n mm M _ cz fm h0 n0 Z0 S hl W hn hus hm hO) hZ (hw_ hw 149 rfl) (hw_ hw 14 rfl) (by decide) (by decide)) q3a q3c (g := (mkF m 20 #[.val (.ref r), .val (.int mm), .val (.ref r)] [(.int mm), (.int (0 : Int32)), (.ref r), (.int (0 : Int32)), (.ref r)])) rfl (by rw [hml]; rfl) (Steps.refl _) (argsL := [(.int (0 : Int32)), (.int mm)]) (rest := [(.int (0 : Int32)), (.ref r)]) (lenOf pd_19 rfl) rfl (by show 2 * 0 + _ ≤ _; exact Nat.le_of_eq rfl) (hb hby d6_20) (fun _ _ => ⟨rfl, heq2, (by decide : 0 + 0 ≤ _), (by decide : 0 + 0 ≤ _)⟩)
    dsimp only [Pt.U, Pt.locs, Pt.cells, Pt.slots] at X3 l3 y3 z3 st3 hQ3
    subst l3 y3 z3
    obtain ⟨ee, rfl, hee, N3q, heq3⟩ := hQ3
    have N3 := Fr.app N2 N3q
    refine own_by (S' := T3.setTop (mkF m 23 #[.val (.ref r), .val (.int mm), .val (.ref r)] [(.int ee), (.int (0 : Int32)), (.ref r)])) (fun tZ kZ => st3.trans kZ) ?_
    obtain ⟨cq4, kq4, q4a, q4b, q4c⟩ := isOf hZ heq3 S.1
    obtain ⟨_, _, ⟨T4, L4, k4, n4⟩, -, X4, ⟨Lc4, hQ4, l4, y4, z4⟩, st4⟩ := X3.virtualBack hx (y := (⟨"java/lang/String", "substring", "(II)Ljava/lang/String;"⟩ : MethodName)) (z := (⟨"java/lang/String", "substring", "(II)Ljava/lang/String;"⟩ : MethodName)) hown (mvT hZ (hw_ hw 160 rfl)) (mvT hZ (hw_ hw 161 rfl)) (notFace_of_selects (args := #[]) (mvT hZ (hw_ hw 163 rfl))) (mvT hZ (hw_ hw 163 rfl)) (mvT hZ (hw_ hw 162 rfl)) (by decide) (backOf (W := 0) (rmSub l Z a0 hw [] r us n ee _ cz fm h0 n0 Z0 S hl W hn hus hee hE1 hEl) hZ (hw_ hw 164 rfl) (hw_ hw 14 rfl) (by decide) (by decide)) q4a q4c (g := (mkF m 23 #[.val (.ref r), .val (.int mm), .val (.ref r)] [(.int ee), (.int (0 : Int32)), (.ref r)])) rfl (by rw [hml]; rfl) (Steps.refl _) (argsL := [(.int (0 : Int32)), (.int ee)]) (rest := []) (lenOf pd_30 rfl) rfl (by show 2 * 0 + _ ≤ _; exact Nat.le_of_eq rfl) (hb hby d6_23) (fun _ _ => ⟨rfl, heq3, (by decide : 0 + 3 ≤ _), (by decide : 0 + 16 ≤ _)⟩)
    dsimp only [Pt.U, Pt.locs, Pt.cells, Pt.slots] at X4 l4 y4 z4 st4 hQ4
    subst l4 y4 z4
    obtain ⟨rr, rfl, N4q, Kc4, qs4⟩ := hQ4
    have N4 := Fr.app N3 N4q
    have Zs4 := Nat.le_trans Z0 Kc4.1
    have Ec4 := own_ext0 Kc4
    have K4 := (Keep.refl h0 []).ext Ec4
    refine own_by (S' := T4.setTop (mkF m 26 #[.val (.ref r), .val (.int mm), .val (.ref r)] [(.ref rr)])) (fun tZ kZ => st4.trans kZ) ?_
    refine own_by (S' := T4.setTop (mkF m 27 #[.val (.ref r), .val (.int mm), .val (.ref rr)] [])) (fun tZ kZ => XS.astoreN X4.here hx rfl (hb hby d6_26) rfl rfl (l' := #[.val (.ref r), .val (.int mm), .val (.ref rr)]) rfl kZ) ?_
    refine own_by (S' := T4.setTop (mkF m 28 #[.val (.ref r), .val (.int mm), .val (.ref rr)] [(.ref rr)])) (fun tZ kZ => XS.aloadN X4.here hx rfl (hb hby d6_27) rfl rfl kZ) ?_
    exact own_retA X4 hx Bd.returns rfl rfl (hb hby d6_28) Bd.notSynchronized (by decide) (by decide) ⟨rr, rfl, N4, K4, qs4⟩
  · refine own_by (S' := T2.setTop (mkF m 27 #[.val (.ref r), .val (.int mm), .val (.ref r)] [])) (fun tZ kZ => XS.icmpYes X2.here hx rfl (pc0 := 12) (pc' := 27) rfl (hb hby d6_12) rfl (flt dg1).2.2.2 (by decide) (by decide) kZ) ?_
    rw [own_lt hm hzr] at dg1
    have hE := hT.1 (by omega)
    refine own_by (S' := T2.setTop (mkF m 28 #[.val (.ref r), .val (.int mm), .val (.ref r)] [(.ref r)])) (fun tZ kZ => XS.aloadN X2.here hx rfl (hb hby d6_27) rfl rfl kZ) ?_
    exact own_retA X2 hx Bd.returns rfl rfl (hb hby d6_28) Bd.notSynchronized (by decide) (by decide) (show QStr Z (us.take (tE (pr us) us.length M 4)) h0 n0 _ T2.heap _ from by rw [heq2]; exact ⟨r, rfl, N2, Keep.refl h0 [], by rw [hE, List.take_length]; exact S⟩)
theorem ef_rmSI4H (m : MethodId) (x : Addr) (src : Addr) : entryFrame m #[(.ref x), (.ref src), (.int (0 : Int32)), (.int (0 : Int32)), .null] 6 = mkF m 0 #[.val (.ref x), .val (.ref src), .val (.int (0 : Int32)), .val (.int (0 : Int32)), .val .null, .unset] [] := by first | (simp [entryFrame, mkF, argsToLocals, Value.category, maxLocals]; done) | rfl
set_option maxRecDepth 65536 in
set_option maxHeartbeats 40000000 in
theorem rmSI4H (l : Launch) (Z : State) (a0 : Array Value) (hw : ∀ d ∈ tables_1, d.before a0 Z = true) (ws : List Jvm.Cond) (x src : Addr) (h0 : Heap) (n0 : Nat) (Z0 : n0 ≤ h0.size) (EZ : Ext Z.heap h0) (HC : ∀ q ∈ consts_1, Jvm.Lit.constHeld Z q.1 q.2) (hcw : Jvm.Lit.compactW.before a0 Z = true) (Ex_x : Exa Z h0 x "java/lang/String") (F_value_x : Fld Z h0 x "java/lang/String" "value" "[B" .null) (F_coder_x : Fld Z h0 x "java/lang/String" "coder" "B" (.int 0)) (g_x : n0 ≤ x) :
    MetFree l (⟨"java/lang/String", "<init>", "([CIILjava/lang/Void;)V"⟩ : MethodName) (head1 (Jvm.Cond.code (⟨"java/lang/String", "<init>", "([CIILjava/lang/Void;)V"⟩ : MethodName) jdk_42_method_149_code (6 : Nat) (Option.none : Option Jvm.ClassFile.FieldType) :: ws) ({ frames := 1, cells := 2, slots := 4, locals := 12 } : Room)) (fun aZ UZ => aZ = #[(.ref x), (.ref src), (.int (0 : Int32)), (.int (0 : Int32)), .null] ∧ Z.WarmedH UZ.vm ∧ UZ.heap = h0) (fun _ _ _ _ _ => True) (fun _ UZ oZ VZ => ∃ vZ LZ, oZ = .returned vZ ∧ ((QIni Z x [] h0 n0) vZ VZ.heap LZ ∧ True) ∧ ReturnedEndW UZ oZ VZ LZ ({ frames := 1, cells := 2, slots := 4, locals := 12 } : Room).cells ({ frames := 1, cells := 2, slots := 4, locals := 12 } : Room).slots) := by
  refine MetFree.of_bodySF (plainFor_of_name pn_1) hisR ?_
  intro p e s m args below meth c s₁ Bd hml0 hP hK
  obtain ⟨rfl, hZH, hh⟩ := hP
  have hZ : Z.Warmed39 s.vm := hZH.wide
  have hx := Bd.exec
  have hby := Bd.bytes
  have hml : c.maxLocals = 6 := hml0
  have hown : s.vm.findClass "java/lang/String" = some m.cls := findClass_of_methodNamed Bd.named
  have hnm := (name_of_methodNamed Bd.named Bd.method).1
  have X0 : Stand p l e ({ frames := 1, cells := 2, slots := 4, locals := 12 } : Room) (s.setVm s.vm) m #[(.ref x), (.ref src), (.int (0 : Int32)), (.int (0 : Int32)), .null] below meth c s₁ [] 0 0 := Stand.of_body Bd
  have e0 : s₁.heap = h0 := by rw [← hh, Bd.state]; rfl
  have N0 := Fr.nil n0
  show OwnG p e below (OwnEV s (QIni Z x [] h0 n0) (fun _ => True) ({ frames := 1, cells := 2, slots := 4, locals := 12 } : Room).cells ({ frames := 1, cells := 2, slots := 4, locals := 12 } : Room).slots) _
  refine own_by (S' := s₁.setTop (mkF m 0 #[.val (.ref x), .val (.ref src), .val (.int (0 : Int32)), .val (.int (0 : Int32)), .val .null, .unset] [])) (fun tZ kZ => castTop (ef_rmSI4H m x src) kZ) ?_
  have hS0 : s.Since s.vm 0 := State.WarmedH.since (State.WarmedH.refl s) 0
  have hk0 : 0 ≤ h0.size := Nat.zero_le _
  have hZ0 : Z.Warmed39 (s.setVm s.vm).vm := hZ
  have hown0 : (s.setVm s.vm).vm.findClass "java/lang/String" = some m.cls := hown
  have hZH0 : Z.WarmedH (s.setVm s.vm).vm := hZH
  have hI0 : IB Z (s.setVm s.vm).vm [] := own_ib0 hZH
  refine own_by (S' := s₁.setTop (mkF m 1 #[.val (.ref x), .val (.ref src), .val (.int (0 : Int32)), .val (.int (0 : Int32)), .val .null, .unset] [(.ref x)])) (fun tZ kZ => XS.aloadN X0.here hx rfl (hb hby d4_0) rfl rfl kZ) ?_
  obtain ⟨T1, X1, e1, st1⟩ := initO X0 hx hZ0 hown0 (hw_ hw 22 rfl) (hw_ hw 23 rfl) (hw_ hw 24 rfl) e0 (g := (mkF m 1 #[.val (.ref x), .val (.ref src), .val (.int (0 : Int32)), .val (.int (0 : Int32)), .val .null, .unset] [(.ref x)])) rfl (by rw [hml]; rfl) rfl (hb hby d4_1) (by decide) (W := 0) (by show 2 * 0 + _ ≤ _; exact Nat.le_of_eq rfl) (by decide)
  refine own_by (S' := T1.setTop (mkF m 4 #[.val (.ref x), .val (.ref src), .val (.int (0 : Int32)), .val (.int (0 : Int32)), .val .null, .unset] [])) st1 ?_
  refine own_by (S' := T1.setTop (mkF m 5 #[.val (.ref x), .val (.ref src), .val (.int (0 : Int32)), .val (.int (0 : Int32)), .val .null, .unset] [(.int (0 : Int32))])) (fun tZ kZ => XS.iloadN X1.here hx rfl (hb hby d4_4) rfl kZ) ?_
  refine own_by (S' := T1.setTop (mkF m 8 #[.val (.ref x), .val (.ref src), .val (.int (0 : Int32)), .val (.int (0 : Int32)), .val .null, .unset] [])) (fun tZ kZ => XS.ifNo X1.here hx rfl (hb hby d4_5) rfl ((if0 _ _).trans (teq rfl).2) kZ) ?_
  refine own_by (S' := T1.setTop (mkF m 9 #[.val (.ref x), .val (.ref src), .val (.int (0 : Int32)), .val (.int (0 : Int32)), .val .null, .unset] [(.ref x)])) (fun tZ kZ => XS.aloadN X1.here hx rfl (hb hby d4_8) rfl rfl kZ) ?_
  obtain ⟨lt, T2, h2, k2, t_lt, kc_lt, X2, e2, E2, hS2, hk2, hZ2, hown2, Ge_lt, Co_lt, Va_lt, Ar_lt, -, -, hI2, Li_lt, st2⟩ := ldcSVL X1 hx hZ0 hown0 (hw_ hw 25 rfl) (own_str hw) e1 hS0 hk0 (Fr.nil _) (fun bZ cZ qZ => by rw [hh]; exact EZ.2 bZ cZ qZ) hI0 (by decide) (HC ("java/lang/String", 7) (List.mem_of_getElem? (i := 0) rfl)) hcw (vs := []) (z := 0) ⟨by decide +kernel, by decide +kernel⟩ (by decide) (by decide) (g := (mkF m 9 #[.val (.ref x), .val (.ref src), .val (.int (0 : Int32)), .val (.int (0 : Int32)), .val .null, .unset] [(.ref x)])) rfl (hb hby d4_9) (n := 0) (by decide) (by decide) (by decide) (by decide)
  have Ex_x_2 := Ex_x.ext E2
  have F_value_x_2 := F_value_x.ext E2
  have F_coder_x_2 := F_coder_x.ext E2
  have Zs2 : n0 ≤ h2.size := Nat.le_trans Z0 E2.1
  have K2 := (Keep.refl h0 [x]).ext E2
  refine own_by (S' := T2.setTop (mkF m 11 #[.val (.ref x), .val (.ref src), .val (.int (0 : Int32)), .val (.int (0 : Int32)), .val .null, .unset] [(.ref lt), (.ref x)])) st2 ?_
  have V_t_lt := OwnA.ofArv Ar_lt rfl
  have ne_lx : lt ≠ x := fun q => by
    rw [q] at Va_lt
    have r := own_fldOne F_value_x_2 Va_lt
    cases r
  have ne_tx : t_lt ≠ x := fun q => Exa.neArv Ex_x_2 Ar_lt (hw_ hw 13 rfl) q.symm
  obtain ⟨T3, X3, e3, st3⟩ := getF X2 hx hZ2 hown2 (host := "") (Or.inl (hw_ hw 31 rfl)) Via.refl e2 Va_lt (g := (mkF m 11 #[.val (.ref x), .val (.ref src), .val (.int (0 : Int32)), .val (.int (0 : Int32)), .val .null, .unset] [(.ref lt), (.ref x)])) rfl rfl (hb hby d4_11)
  refine own_by (S' := T3.setTop (mkF m 14 #[.val (.ref x), .val (.ref src), .val (.int (0 : Int32)), .val (.int (0 : Int32)), .val .null, .unset] [(.ref t_lt), (.ref x)])) st3 ?_
  obtain ⟨T4, h4, X4, e4, W4, st4⟩ := putF X3 hx hZ2 hown2 (host := "") (Or.inl (hw_ hw 31 rfl)) Via.refl e3 F_value_x_2 Ex_x_2 (Or.inr ⟨(hw_ hw 27 rfl), rfl, hnm⟩) (hw_ hw 13 rfl) (ty := (.array .byte)) (by decide) rfl rfl (g := (mkF m 14 #[.val (.ref x), .val (.ref src), .val (.int (0 : Int32)), .val (.int (0 : Int32)), .val .null, .unset] [(.ref t_lt), (.ref x)])) rfl rfl (hb hby d4_14)
  have N4 := Fr.snoc X4 N0 g_x
  have Ex_x_4 := Ex_x_2.wr W4
  have F_value_x_4 := F_value_x_2.same W4
  have F_coder_x_4 := F_coder_x_2.other W4 (Or.inr (slot_ne (Or.inr (hw_ hw 28 rfl)) (Or.inr (hw_ hw 27 rfl)) (by decide) (t := .byte) (t' := (.array .byte)) (by decide) (by decide)))
  have Ge_lt_4 := Ge_lt.wr W4
  have Co_lt_4 := Co_lt.other W4 (Or.inl ne_lx)
  have Va_lt_4 := Va_lt.other W4 (Or.inl ne_lx)
  have V_t_lt_4 := V_t_lt.other W4 ne_tx
  have Zs4 : n0 ≤ h4.size := Nat.le_trans Zs2 (Keep.of_wr W4).1
  have hk4 := Nat.le_trans hk2 (Keep.of_wr W4).1
  have K4 := K2.wr W4 (Or.inl (List.mem_of_getElem? (i := 0) rfl))
  refine own_by (S' := T4.setTop (mkF m 17 #[.val (.ref x), .val (.ref src), .val (.int (0 : Int32)), .val (.int (0 : Int32)), .val .null, .unset] [])) st4 ?_
  refine own_by (S' := T4.setTop (mkF m 18 #[.val (.ref x), .val (.ref src), .val (.int (0 : Int32)), .val (.int (0 : Int32)), .val .null, .unset] [(.ref x)])) (fun tZ kZ => XS.aloadN X4.here hx rfl (hb hby d4_17) rfl rfl kZ) ?_
  refine own_by (S' := T4.setTop (mkF m 20 #[.val (.ref x), .val (.ref src), .val (.int (0 : Int32)), .val (.int (0 : Int32)), .val .null, .unset] [(.ref lt), (.ref x)])) (ldcAgain X4 hx hZ2 hown2 (hw_ hw 25 rfl) Li_lt (g := (mkF m 18 #[.val (.ref x), .val (.ref src), .val (.int (0 : Int32)), .val (.int (0 : Int32)), .val .null, .unset] [(.ref x)])) rfl (hb hby d4_18)) ?_
  obtain ⟨T5, X5, e5, st5⟩ := getF X4 hx hZ2 hown2 (host := "") (Or.inl (hw_ hw 32 rfl)) Via.refl e4 Co_lt_4 (g := (mkF m 20 #[.val (.ref x), .val (.ref src), .val (.int (0 : Int32)), .val (.int (0 : Int32)), .val .null, .unset] [(.ref lt), (.ref x)])) rfl rfl (hb hby d4_20)
  refine own_by (S' := T5.setTop (mkF m 23 #[.val (.ref x), .val (.ref src), .val (.int (0 : Int32)), .val (.int (0 : Int32)), .val .null, .unset] [(.int (0 : Int32)), (.ref x)])) st5 ?_
  obtain ⟨T6, h6, X6, e6, W6, st6⟩ := putFN X5 hx hZ2 hown2 (hw_ hw 32 rfl) Via.refl e5 F_coder_x_4 Ex_x_4 (Or.inr ⟨(hw_ hw 28 rfl), rfl, hnm⟩) (hw_ hw 13 rfl) (ty := .byte) (v' := (.int (0 : Int32))) (by decide) rfl rfl (g := (mkF m 23 #[.val (.ref x), .val (.ref src), .val (.int (0 : Int32)), .val (.int (0 : Int32)), .val .null, .unset] [(.int (0 : Int32)), (.ref x)])) rfl rfl (hb hby d4_23)
  have N6 := Fr.snoc X6 N4 g_x
  have Ex_x_6 := Ex_x_4.wr W6
  have F_value_x_6 := F_value_x_4.other W6 (Or.inr (slot_ne (Or.inr (hw_ hw 27 rfl)) (Or.inr (hw_ hw 28 rfl)) (by decide) (t := (.array .byte)) (t' := .byte) (by decide) (by decide)))
  have F_coder_x_6 := F_coder_x_4.same W6
  have Ge_lt_6 := Ge_lt_4.wr W6
  have Co_lt_6 := Co_lt_4.other W6 (Or.inl ne_lx)
  have Va_lt_6 := Va_lt_4.other W6 (Or.inl ne_lx)
  have V_t_lt_6 := V_t_lt_4.other W6 ne_tx
  have Zs6 : n0 ≤ h6.size := Nat.le_trans Zs4 (Keep.of_wr W6).1
  have hk6 := Nat.le_trans hk4 (Keep.of_wr W6).1
  have K6 := K4.wr W6 (Or.inl (List.mem_of_getElem? (i := 0) rfl))
  refine own_by (S' := T6.setTop (mkF m 26 #[.val (.ref x), .val (.ref src), .val (.int (0 : Int32)), .val (.int (0 : Int32)), .val .null, .unset] [])) st6 ?_
  exact own_ret0V X6 hS2 (by rw [e6]; exact hk6) hx Bd.returns (hb hby d4_26) Bd.notSynchronized (by decide) (by decide) (show QIni Z x [] h0 n0 _ T6.heap _ from by rw [e6]; exact ⟨rfl, N6, K6, Ex_x_6, t_lt, kc_lt, F_value_x_6, Or.inl ⟨F_coder_x_6, V_t_lt_6, fun q hq => absurd hq (by simp)⟩⟩) trivial
theorem ef_rmSI1H (m : MethodId) (x : Addr) (src : Addr) : entryFrame m #[(.ref x), (.ref src)] 2 = mkF m 0 #[.val (.ref x), .val (.ref src)] [] := by first | (simp [entryFrame, mkF, argsToLocals, Value.category, maxLocals]; done) | rfl
set_option maxRecDepth 65536 in
set_option maxHeartbeats 40000000 in
theorem rmSI1H (l : Launch) (Z : State) (a0 : Array Value) (hw : ∀ d ∈ tables_1, d.before a0 Z = true) (ws : List Jvm.Cond) (x src : Addr) (ks : ClassId) (h0 : Heap) (n0 : Nat) (Z0 : n0 ≤ h0.size) (V_src : OwnA Z h0 src ks .char []) (EZ : Ext Z.heap h0) (HC : ∀ q ∈ consts_1, Jvm.Lit.constHeld Z q.1 q.2) (hcw : Jvm.Lit.compactW.before a0 Z = true) (Ex_x : Exa Z h0 x "java/lang/String") (F_value_x : Fld Z h0 x "java/lang/String" "value" "[B" .null) (F_coder_x : Fld Z h0 x "java/lang/String" "coder" "B" (.int 0)) (g_x : n0 ≤ x) :
    MetFree l (⟨"java/lang/String", "<init>", "([C)V"⟩ : MethodName) (head1 (Jvm.Cond.code (⟨"java/lang/String", "<init>", "([C)V"⟩ : MethodName) jdk_42_method_3_code (2 : Nat) (Option.none : Option Jvm.ClassFile.FieldType) :: ws) ({ frames := 2, cells := 2, slots := 4, locals := 29 } : Room)) (fun aZ UZ => aZ = #[(.ref x), (.ref src)] ∧ Z.WarmedH UZ.vm ∧ UZ.heap = h0) (fun _ _ _ _ _ => True) (fun _ UZ oZ VZ => ∃ vZ LZ, oZ = .returned vZ ∧ ((QIni Z x [] h0 n0) vZ VZ.heap LZ ∧ True) ∧ ReturnedEndW UZ oZ VZ LZ ({ frames := 2, cells := 2, slots := 4, locals := 29 } : Room).cells ({ frames := 2, cells := 2, slots := 4, locals := 29 } : Room).slots) := by
  refine MetFree.of_bodySF (plainFor_of_name pn_1) hisR ?_
  intro p e s m args below meth c s₁ Bd hml0 hP hK
  obtain ⟨rfl, hZH, hh⟩ := hP
  have hZ : Z.Warmed39 s.vm := hZH.wide
  have hx := Bd.exec
  have hby := Bd.bytes
  have hml : c.maxLocals = 2 := hml0
  have hown : s.vm.findClass "java/lang/String" = some m.cls := findClass_of_methodNamed Bd.named
  have hnm := (name_of_methodNamed Bd.named Bd.method).1
  have X0 : Stand p l e ({ frames := 2, cells := 2, slots := 4, locals := 29 } : Room) (s.setVm s.vm) m #[(.ref x), (.ref src)] below meth c s₁ [] 0 0 := Stand.of_body Bd
  have e0 : s₁.heap = h0 := by rw [← hh, Bd.state]; rfl
  have N0 := Fr.nil n0
  show OwnG p e below (OwnEV s (QIni Z x [] h0 n0) (fun _ => True) ({ frames := 2, cells := 2, slots := 4, locals := 29 } : Room).cells ({ frames := 2, cells := 2, slots := 4, locals := 29 } : Room).slots) _
  refine own_by (S' := s₁.setTop (mkF m 0 #[.val (.ref x), .val (.ref src)] [])) (fun tZ kZ => castTop (ef_rmSI1H m x src) kZ) ?_
  have hS0 : s.Since s.vm 0 := State.WarmedH.since (State.WarmedH.refl s) 0
  have hk0 : 0 ≤ h0.size := Nat.zero_le _
  have hZ0 : Z.Warmed39 (s.setVm s.vm).vm := hZ
  have hown0 : (s.setVm s.vm).vm.findClass "java/lang/String" = some m.cls := hown
  have hZH0 : Z.WarmedH (s.setVm s.vm).vm := hZH
  have hI0 : IB Z (s.setVm s.vm).vm [] := own_ib0 hZH
  refine own_by (S' := s₁.setTop (mkF m 1 #[.val (.ref x), .val (.ref src)] [(.ref x)])) (fun tZ kZ => XS.aloadN X0.here hx rfl (hb hby d3_0) rfl rfl kZ) ?_
  refine own_by (S' := s₁.setTop (mkF m 2 #[.val (.ref x), .val (.ref src)] [(.ref src), (.ref x)])) (fun tZ kZ => XS.aloadN X0.here hx rfl (hb hby d3_1) rfl rfl kZ) ?_
  refine own_by (S' := s₁.setTop (mkF m 3 #[.val (.ref x), .val (.ref src)] [(.int (0 : Int32)), (.ref src), (.ref x)])) (fun tZ kZ => XS.iconst X0.here hx rfl (hb hby d3_2) kZ) ?_
  refine own_by (S' := s₁.setTop (mkF m 4 #[.val (.ref x), .val (.ref src)] [(.ref src), (.int (0 : Int32)), (.ref src), (.ref x)])) (fun tZ kZ => XS.aloadN X0.here hx rfl (hb hby d3_3) rfl rfl kZ) ?_
  obtain ⟨cc1, Ar1, hc1, hl1⟩ := id V_src
  refine own_by (S' := s₁.setTop (mkF m 5 #[.val (.ref x), .val (.ref src)] [(.int (0 : Int32)), (.int (0 : Int32)), (.ref src), (.ref x)])) (fun tZ kZ => X0.arraylength hx (by rw [e0]; exact Ar1.1) (State.isArrayOf_alike hZ0.alike Ar1.2.1) (g := (mkF m 4 #[.val (.ref x), .val (.ref src)] [(.ref src), (.int (0 : Int32)), (.ref src), (.ref x)])) rfl rfl (hb hby d3_4) _ (by rw [len_of (OwnA.size (z := (0 : Int32)) hl1 rfl) (by decide)]; exact kZ)) ?_
  refine own_by (S' := s₁.setTop (mkF m 6 #[.val (.ref x), .val (.ref src)] [.null, (.int (0 : Int32)), (.int (0 : Int32)), (.ref src), (.ref x)])) (fun tZ kZ => XS.aconstNull X0.here hx rfl (hb hby d3_5) kZ) ?_
  obtain ⟨_, _, ⟨T2, L2, k2, n2⟩, -, X2, hS2, hg2, ⟨Lc2, hQ2, l2, y2, z2⟩, st2⟩ := X0.specialBackS hx (y := (⟨"java/lang/String", "<init>", "([CIILjava/lang/Void;)V"⟩ : MethodName)) rfl hown0 (mvT hZ0 (hw_ hw 18 rfl)) (mvT hZ0 (hw_ hw 19 rfl)) (mvT hZ0 (hw_ hw 21 rfl)) (by decide) (own_backH (Q := QIni Z x [] h0 n0) (I := fun _ => True) (W := 0) (rmSI4H l Z a0 hw [] x src h0 n0 Z0 EZ HC hcw Ex_x F_value_x F_coder_x g_x) hZH0 (hw_ hw 21 rfl) (hw_ hw 14 rfl) (by decide) (by decide)) (g := (mkF m 6 #[.val (.ref x), .val (.ref src)] [.null, (.int (0 : Int32)), (.int (0 : Int32)), (.ref src), (.ref x)])) rfl (by rw [hml]; rfl) (Steps.refl _) (a := x) (argsL := [(.ref src), (.int (0 : Int32)), (.int (0 : Int32)), .null]) (rest := []) (lenOf pd_25 rfl) rfl (by show 2 * 0 + _ ≤ _; exact Nat.le_of_eq rfl) (hb hby d3_6) (fun _ _ => ⟨rfl, e0, (by decide : 0 + 2 ≤ _), (by decide : 0 + 4 ≤ _)⟩)
  dsimp only [Pt.U, Pt.locs, Pt.cells, Pt.slots] at X2 l2 y2 z2 st2 hQ2 hS2 hg2
  subst l2 y2 z2
  obtain ⟨⟨rfl, N2q, Kc2, qs2⟩, -⟩ := hQ2
  have N2 := Fr.app N0 N2q
  obtain ⟨X2, hS2, hZ2, hown2⟩ := rebS hS0 hk0 X2 hS2 (by rw [← e0]; exact hg2) hZ0 hown0
  have Zs2 := Nat.le_trans Z0 Kc2.1
  have K2 := (Keep.refl h0 [x]).trans Kc2 (fun x hx => by
      simp only [List.mem_cons, List.not_mem_nil, or_false] at hx
      rcases hx with rfl
      · exact Or.inl (List.mem_of_getElem? (i := 0) rfl))
  refine own_by (S' := T2.setTop (mkF m 9 #[.val (.ref x), .val (.ref src)] [])) (fun tZ kZ => st2.trans kZ) ?_
  exact own_ret0V X2 hS2 (Nat.le_refl _) hx Bd.returns (hb hby d3_9) Bd.notSynchronized (by decide) (by decide) ⟨rfl, N2, K2, qs2⟩ trivial
theorem ef_rmMakeH (m : MethodId) (ca : Addr) : entryFrame m #[(.int (0 : Int32)), (.ref ca)] 3 = mkF m 0 #[.val (.int (0 : Int32)), .val (.ref ca), .unset] [] := by first | (simp [entryFrame, mkF, argsToLocals, Value.category, maxLocals]; done) | rfl
set_option maxRecDepth 65536 in
set_option maxHeartbeats 40000000 in
theorem rmMakeH (l : Launch) (Z : State) (a0 : Array Value) (hw : ∀ d ∈ tables_1, d.before a0 Z = true) (ws : List Jvm.Cond) (ca : Addr) (h0 : Heap) (n0 : Nat) (Z0 : n0 ≤ h0.size) (EZ : Ext Z.heap h0) (HC : ∀ q ∈ consts_1, Jvm.Lit.constHeld Z q.1 q.2) (hcw : Jvm.Lit.compactW.before a0 Z = true) :
    MetFree l (⟨"com/example/idpd/idpd/TextsPrefixPinLaw", "make", "(I[C)Ljava/lang/String;"⟩ : MethodName) (head1 (Jvm.Cond.code (⟨"com/example/idpd/idpd/TextsPrefixPinLaw", "make", "(I[C)Ljava/lang/String;"⟩ : MethodName) method_6_code (3 : Nat) (Option.some (Jvm.ClassFile.FieldType.object "java/lang/String")) :: ws) ({ frames := 3, cells := 4, slots := 8, locals := 43 } : Room)) (fun aZ UZ => aZ = #[(.int (0 : Int32)), (.ref ca)] ∧ Z.WarmedH UZ.vm ∧ UZ.heap = h0) (fun _ _ _ _ _ => True) (fun _ UZ oZ VZ => ∃ vZ LZ, oZ = .returned vZ ∧ ((QStr Z [] h0 n0) vZ VZ.heap LZ ∧ True) ∧ ReturnedEndW UZ oZ VZ LZ ({ frames := 3, cells := 4, slots := 8, locals := 43 } : Room).cells ({ frames := 3, cells := 4, slots := 8, locals := 43 } : Room).slots) := by
  refine MetFree.of_bodySF (plainFor_of_name pn_5) hisR ?_
  intro p e s m args below meth c s₁ Bd hml0 hP hK
  obtain ⟨rfl, hZH, hh⟩ := hP
  have hZ : Z.Warmed39 s.vm := hZH.wide
  have hx := Bd.exec
  have hby := Bd.bytes
  have hml : c.maxLocals = 3 := hml0
  have hown : s.vm.findClass "com/example/idpd/idpd/TextsPrefixPinLaw" = some m.cls := findClass_of_methodNamed Bd.named
  have hnm := (name_of_methodNamed Bd.named Bd.method).1
  have X0 : Stand p l e ({ frames := 3, cells := 4, slots := 8, locals := 43 } : Room) (s.setVm s.vm) m #[(.int (0 : Int32)), (.ref ca)] below meth c s₁ [] 0 0 := Stand.of_body Bd
  have e0 : s₁.heap = h0 := by rw [← hh, Bd.state]; rfl
  have N0 := Fr.nil n0
  show OwnG p e below (OwnEV s (QStr Z [] h0 n0) (fun _ => True) ({ frames := 3, cells := 4, slots := 8, locals := 43 } : Room).cells ({ frames := 3, cells := 4, slots := 8, locals := 43 } : Room).slots) _
  refine own_by (S' := s₁.setTop (mkF m 0 #[.val (.int (0 : Int32)), .val (.ref ca), .unset] [])) (fun tZ kZ => castTop (ef_rmMakeH m ca) kZ) ?_
  have hS0 : s.Since s.vm 0 := State.WarmedH.since (State.WarmedH.refl s) 0
  have hk0 : 0 ≤ h0.size := Nat.zero_le _
  have hZ0 : Z.Warmed39 (s.setVm s.vm).vm := hZ
  have hown0 : (s.setVm s.vm).vm.findClass "com/example/idpd/idpd/TextsPrefixPinLaw" = some m.cls := hown
  have hZH0 : Z.WarmedH (s.setVm s.vm).vm := hZH
  have hI0 : IB Z (s.setVm s.vm).vm [] := own_ib0 hZH
  refine own_by (S' := s₁.setTop (mkF m 1 #[.val (.int (0 : Int32)), .val (.ref ca), .unset] [(.int (0 : Int32))])) (fun tZ kZ => XS.iloadN X0.here hx rfl (hb hby d2_0) rfl kZ) ?_
  refine own_by (S' := s₁.setTop (mkF m 4 #[.val (.int (0 : Int32)), .val (.ref ca), .unset] [])) (fun tZ kZ => XS.ifNo X0.here hx rfl (hb hby d2_1) rfl ((if0 _ _).trans (teq rfl).2) kZ) ?_
  obtain ⟨T1, h1, X1, e1, E1, A1, D1, U1, st1⟩ := newO X0 hx hZ0 hown0 (hw_ hw 12 rfl) (hw_ hw 13 rfl) (hw_ hw 14 rfl) e0 (g := (mkF m 4 #[.val (.int (0 : Int32)), .val (.ref ca), .unset] [])) rfl (hb hby d2_4) (by decide) (by decide)
  obtain ⟨b1, g1⟩ : ∃ z, z = h0.size := ⟨_, rfl⟩
  rw [← g1] at A1 D1 U1 st1
  have g_b1 : n0 ≤ b1 := Nat.le_trans Z0 (Nat.le_of_eq g1.symm)
  have sz_b1 : h0.size ≤ b1 := Nat.le_trans (Keep.refl h0 []).1 (Nat.le_of_eq g1.symm)
  have Zs1 : n0 ≤ h1.size := Nat.le_trans Z0 E1.1
  have hk1 := Nat.le_trans hk0 E1.1
  have K1 := (Keep.refl h0 []).ext E1
  have Ex_b1 := A1
  have F_value_b1 : Fld Z h1 b1 "java/lang/String" "value" "[B" .null := D1 (Or.inr (hw_ hw 27 rfl)) (ty := (.array .byte)) (by decide)
  have F_coder_b1 : Fld Z h1 b1 "java/lang/String" "coder" "B" (.int (0 : Int32)) := D1 (Or.inr (hw_ hw 28 rfl)) (ty := .byte) (by decide)
  refine own_by (S' := T1.setTop (mkF m 7 #[.val (.int (0 : Int32)), .val (.ref ca), .unset] [(.ref b1)])) st1 ?_
  refine own_by (S' := T1.setTop (mkF m 8 #[.val (.int (0 : Int32)), .val (.ref ca), .unset] [(.ref b1), (.ref b1)])) (fun tZ kZ => XS.dup X1.here hx rfl (hb hby d2_7) rfl rfl kZ) ?_
  refine own_by (S' := T1.setTop (mkF m 9 #[.val (.int (0 : Int32)), .val (.ref ca), .unset] [(.int (0 : Int32)), (.ref b1), (.ref b1)])) (fun tZ kZ => XS.iconst X1.here hx rfl (hb hby d2_8) kZ) ?_
  obtain ⟨T2, h2, k2, X2, e2, E2, A2, st2⟩ := newP X1 hx hZ0 (hw_ hw 1 rfl) e1 (g := (mkF m 9 #[.val (.int (0 : Int32)), .val (.ref ca), .unset] [(.int (0 : Int32)), (.ref b1), (.ref b1)])) rfl (hb hby d2_9) rfl (by decide) (cap := 0) (by decide) (by decide) (by decide) (by decide)
  obtain ⟨b2, g2⟩ : ∃ z, z = h1.size := ⟨_, rfl⟩
  rw [← g2] at A2 st2
  have ne_b1_b2 : b1 ≠ b2 := Nat.ne_of_lt (Nat.lt_of_lt_of_le Ex_b1.lt (Nat.le_of_eq g2.symm))
  have g_b2 : n0 ≤ b2 := Nat.le_trans Zs1 (Nat.le_of_eq g2.symm)
  have sz_b2 : h0.size ≤ b2 := Nat.le_trans K1.1 (Nat.le_of_eq g2.symm)
  have Ex_b1_2 := Ex_b1.ext E2
  have F_value_b1_2 := F_value_b1.ext E2
  have F_coder_b1_2 := F_coder_b1.ext E2
  have Zs2 : n0 ≤ h2.size := Nat.le_trans Zs1 E2.1
  have hk2 := Nat.le_trans hk1 E2.1
  have K2 := K1.ext E2
  have V_b2 := OwnA.new A2
  refine own_by (S' := T2.setTop (mkF m 11 #[.val (.int (0 : Int32)), .val (.ref ca), .unset] [(.ref b2), (.ref b1), (.ref b1)])) st2 ?_
  have ExK2 := own_ext0 K2
  obtain ⟨_, _, ⟨T3, L3, k3, n3⟩, -, X3, hS3, hg3, ⟨Lc3, hQ3, l3, y3, z3⟩, st3⟩ := X2.specialBackS hx (y := (⟨"java/lang/String", "<init>", "([C)V"⟩ : MethodName)) rfl hown0 (mvT hZ0 (hw_ hw 15 rfl)) (mvT hZ0 (hw_ hw 16 rfl)) (mvT hZ0 (hw_ hw 17 rfl)) (by decide) (own_backH (Q := QIni Z b1 [] h2 n0) (I := fun _ => True) (W := 1) (rmSI1H l Z a0 hw [] b1 b2 k2 h2 n0 Zs2 V_b2 (⟨Nat.le_trans EZ.1 ExK2.1, fun aZ cZ qZ => ExK2.2 aZ cZ (EZ.2 aZ cZ qZ)⟩) HC hcw Ex_b1_2 F_value_b1_2 F_coder_b1_2 g_b1) hZH0 (hw_ hw 17 rfl) (hw_ hw 14 rfl) (by decide) (by decide)) (g := (mkF m 11 #[.val (.int (0 : Int32)), .val (.ref ca), .unset] [(.ref b2), (.ref b1), (.ref b1)])) rfl (by rw [hml]; rfl) (Steps.refl _) (a := b1) (argsL := [(.ref b2)]) (rest := [(.ref b1)]) (lenOf pd_26 rfl) rfl (by show 2 * 0 + _ ≤ _; exact Nat.le_of_eq rfl) (hb hby d2_11) (fun _ _ => ⟨rfl, e2, (by decide : 2 + 2 ≤ _), (by decide : 4 + 4 ≤ _)⟩)
  dsimp only [Pt.U, Pt.locs, Pt.cells, Pt.slots] at X3 l3 y3 z3 st3 hQ3 hS3 hg3
  subst l3 y3 z3
  obtain ⟨⟨rfl, N3q, Kc3, qs3⟩, -⟩ := hQ3
  have N3 := Fr.app N0 N3q
  obtain ⟨X3, hS3, hZ3, hown3⟩ := rebS hS0 hk2 X3 hS3 (by rw [← e2]; exact hg3) hZ0 hown0
  have Zs3 := Nat.le_trans Zs2 Kc3.1
  have K3 := K2.trans Kc3 (fun x hx => by
      simp only [List.mem_cons, List.not_mem_nil, or_false] at hx
      rcases hx with rfl
      · exact Or.inr sz_b1)
  have Ex_b1_3 := Ex_b1_2.keep Kc3
  have V_b2_3 := V_b2.keep Kc3 (by
      simp only [List.mem_cons, List.not_mem_nil, or_false, not_or]
      exact (Ne.symm ne_b1_b2))
  refine own_by (S' := T3.setTop (mkF m 14 #[.val (.int (0 : Int32)), .val (.ref ca), .unset] [(.ref b1)])) (fun tZ kZ => st3.trans kZ) ?_
  exact own_retAV X3 hS3 (Nat.le_refl _) hx Bd.returns rfl rfl (hb hby d2_14) Bd.notSynchronized (by decide) (by decide) ⟨b1, rfl, N3, K3, qs3⟩ trivial
theorem ef_rmLNewH (m : MethodId) (b : Addr) : entryFrame m #[(.ref b), (.int (0 : Int32)), (.int (0 : Int32))] 3 = mkF m 0 #[.val (.ref b), .val (.int (0 : Int32)), .val (.int (0 : Int32))] [] := by first | (simp [entryFrame, mkF, argsToLocals, Value.category, maxLocals]; done) | rfl
set_option maxRecDepth 65536 in
set_option maxHeartbeats 40000000 in
theorem rmLNewH (l : Launch) (Z : State) (a0 : Array Value) (hw : ∀ d ∈ tables_1, d.before a0 Z = true) (ws : List Jvm.Cond) (b : Addr) (h0 : Heap) (n0 : Nat) (Z0 : n0 ≤ h0.size) (EZ : Ext Z.heap h0) (HC : ∀ q ∈ consts_1, Jvm.Lit.constHeld Z q.1 q.2) (hcw : Jvm.Lit.compactW.before a0 Z = true) :
    MetFree l (⟨"java/lang/StringLatin1", "newString", "([BII)Ljava/lang/String;"⟩ : MethodName) (head1 (Jvm.Cond.code (⟨"java/lang/StringLatin1", "newString", "([BII)Ljava/lang/String;"⟩ : MethodName) jdk_43_method_47_code (3 : Nat) (Option.some (Jvm.ClassFile.FieldType.object "java/lang/String")) :: ws) ({ frames := 0, cells := 2, slots := 4, locals := 0 } : Room)) (fun aZ UZ => aZ = #[(.ref b), (.int (0 : Int32)), (.int (0 : Int32))] ∧ Z.WarmedH UZ.vm ∧ UZ.heap = h0) (fun _ _ _ _ _ => True) (fun _ UZ oZ VZ => ∃ vZ LZ, oZ = .returned vZ ∧ ((QStr Z [] h0 n0) vZ VZ.heap LZ ∧ True) ∧ ReturnedEndW UZ oZ VZ LZ ({ frames := 0, cells := 2, slots := 4, locals := 0 } : Room).cells ({ frames := 0, cells := 2, slots := 4, locals := 0 } : Room).slots) := by
  refine MetFree.of_bodySF (plainFor_of_name pn_4) hisR ?_
  intro p e s m args below meth c s₁ Bd hml0 hP hK
  obtain ⟨rfl, hZH, hh⟩ := hP
  have hZ : Z.Warmed39 s.vm := hZH.wide
  have hx := Bd.exec
  have hby := Bd.bytes
  have hml : c.maxLocals = 3 := hml0
  have hown : s.vm.findClass "java/lang/StringLatin1" = some m.cls := findClass_of_methodNamed Bd.named
  have hnm := (name_of_methodNamed Bd.named Bd.method).1
  have X0 : Stand p l e ({ frames := 0, cells := 2, slots := 4, locals := 0 } : Room) (s.setVm s.vm) m #[(.ref b), (.int (0 : Int32)), (.int (0 : Int32))] below meth c s₁ [] 0 0 := Stand.of_body Bd
  have e0 : s₁.heap = h0 := by rw [← hh, Bd.state]; rfl
  have N0 := Fr.nil n0
  show OwnG p e below (OwnEV s (QStr Z [] h0 n0) (fun _ => True) ({ frames := 0, cells := 2, slots := 4, locals := 0 } : Room).cells ({ frames := 0, cells := 2, slots := 4, locals := 0 } : Room).slots) _
  refine own_by (S' := s₁.setTop (mkF m 0 #[.val (.ref b), .val (.int (0 : Int32)), .val (.int (0 : Int32))] [])) (fun tZ kZ => castTop (ef_rmLNewH m b) kZ) ?_
  have hS0 : s.Since s.vm 0 := State.WarmedH.since (State.WarmedH.refl s) 0
  have hk0 : 0 ≤ h0.size := Nat.zero_le _
  have hZ0 : Z.Warmed39 (s.setVm s.vm).vm := hZ
  have hown0 : (s.setVm s.vm).vm.findClass "java/lang/StringLatin1" = some m.cls := hown
  have hZH0 : Z.WarmedH (s.setVm s.vm).vm := hZH
  have hI0 : IB Z (s.setVm s.vm).vm [] := own_ib0 hZH
  refine own_by (S' := s₁.setTop (mkF m 1 #[.val (.ref b), .val (.int (0 : Int32)), .val (.int (0 : Int32))] [(.int (0 : Int32))])) (fun tZ kZ => XS.iloadN X0.here hx rfl (hb hby d50_0) rfl kZ) ?_
  refine own_by (S' := s₁.setTop (mkF m 4 #[.val (.ref b), .val (.int (0 : Int32)), .val (.int (0 : Int32))] [])) (fun tZ kZ => XS.ifNo X0.here hx rfl (hb hby d50_1) rfl ((if0 _ _).trans (teq rfl).2) kZ) ?_
  obtain ⟨lt, T1, h1, k1, t_lt, kc_lt, X1, e1, E1, hS1, hk1, hZ1, hown1, Ge_lt, Co_lt, Va_lt, Ar_lt, -, -, hI1, st1⟩ := ldcSV X0 hx hZ0 hown0 (hw_ hw 228 rfl) (own_str hw) e0 hS0 hk0 (Fr.nil _) (fun bZ cZ qZ => by rw [hh]; exact EZ.2 bZ cZ qZ) hI0 (by decide) (HC ("java/lang/StringLatin1", 151) (List.mem_of_getElem? (i := 1) rfl)) hcw (vs := []) (z := 0) ⟨by decide +kernel, by decide +kernel⟩ (by decide) (by decide) (g := (mkF m 4 #[.val (.ref b), .val (.int (0 : Int32)), .val (.int (0 : Int32))] [])) rfl (hb hby d50_4) (n := 0) (by decide) (by decide) (by decide) (by decide)
  have Zs1 : n0 ≤ h1.size := Nat.le_trans Z0 E1.1
  have K1 := (Keep.refl h0 []).ext E1
  refine own_by (S' := T1.setTop (mkF m 6 #[.val (.ref b), .val (.int (0 : Int32)), .val (.int (0 : Int32))] [(.ref lt)])) st1 ?_
  have V_t_lt := OwnA.ofArv Ar_lt rfl
  exact own_retAV X1 hS1 (by rw [e1]; exact hk1) hx Bd.returns rfl rfl (hb hby d50_6) Bd.notSynchronized (by decide) (by decide) (show QStr Z [] h0 n0 _ T1.heap _ from by rw [e1]; exact ⟨lt, rfl, N0, K1, Ge_lt, t_lt, kc_lt, Va_lt, Or.inl ⟨Co_lt, V_t_lt, fun q hq => absurd hq (by simp)⟩⟩) trivial
theorem ef_rmUNewH (m : MethodId) (b : Addr) : entryFrame m #[(.ref b), (.int (0 : Int32)), (.int (0 : Int32))] 5 = mkF m 0 #[.val (.ref b), .val (.int (0 : Int32)), .val (.int (0 : Int32)), .unset, .unset] [] := by first | (simp [entryFrame, mkF, argsToLocals, Value.category, maxLocals]; done) | rfl
set_option maxRecDepth 65536 in
set_option maxHeartbeats 40000000 in
theorem rmUNewH (l : Launch) (Z : State) (a0 : Array Value) (hw : ∀ d ∈ tables_1, d.before a0 Z = true) (ws : List Jvm.Cond) (b : Addr) (h0 : Heap) (n0 : Nat) (Z0 : n0 ≤ h0.size) (EZ : Ext Z.heap h0) (HC : ∀ q ∈ consts_1, Jvm.Lit.constHeld Z q.1 q.2) (hcw : Jvm.Lit.compactW.before a0 Z = true) :
    MetFree l (⟨"java/lang/StringUTF16", "newString", "([BII)Ljava/lang/String;"⟩ : MethodName) (head1 (Jvm.Cond.code (⟨"java/lang/StringUTF16", "newString", "([BII)Ljava/lang/String;"⟩ : MethodName) jdk_52_method_69_code (5 : Nat) (Option.some (Jvm.ClassFile.FieldType.object "java/lang/String")) :: ws) ({ frames := 0, cells := 2, slots := 4, locals := 0 } : Room)) (fun aZ UZ => aZ = #[(.ref b), (.int (0 : Int32)), (.int (0 : Int32))] ∧ Z.WarmedH UZ.vm ∧ UZ.heap = h0) (fun _ _ _ _ _ => True) (fun _ UZ oZ VZ => ∃ vZ LZ, oZ = .returned vZ ∧ ((QStr Z [] h0 n0) vZ VZ.heap LZ ∧ True) ∧ ReturnedEndW UZ oZ VZ LZ ({ frames := 0, cells := 2, slots := 4, locals := 0 } : Room).cells ({ frames := 0, cells := 2, slots := 4, locals := 0 } : Room).slots) := by
  refine MetFree.of_bodySF (plainFor_of_name pn_3) hisR ?_
  intro p e s m args below meth c s₁ Bd hml0 hP hK
  obtain ⟨rfl, hZH, hh⟩ := hP
  have hZ : Z.Warmed39 s.vm := hZH.wide
  have hx := Bd.exec
  have hby := Bd.bytes
  have hml : c.maxLocals = 5 := hml0
  have hown : s.vm.findClass "java/lang/StringUTF16" = some m.cls := findClass_of_methodNamed Bd.named
  have hnm := (name_of_methodNamed Bd.named Bd.method).1
  have X0 : Stand p l e ({ frames := 0, cells := 2, slots := 4, locals := 0 } : Room) (s.setVm s.vm) m #[(.ref b), (.int (0 : Int32)), (.int (0 : Int32))] below meth c s₁ [] 0 0 := Stand.of_body Bd
  have e0 : s₁.heap = h0 := by rw [← hh, Bd.state]; rfl
  have N0 := Fr.nil n0
  show OwnG p e below (OwnEV s (QStr Z [] h0 n0) (fun _ => True) ({ frames := 0, cells := 2, slots := 4, locals := 0 } : Room).cells ({ frames := 0, cells := 2, slots := 4, locals := 0 } : Room).slots) _
  refine own_by (S' := s₁.setTop (mkF m 0 #[.val (.ref b), .val (.int (0 : Int32)), .val (.int (0 : Int32)), .unset, .unset] [])) (fun tZ kZ => castTop (ef_rmUNewH m b) kZ) ?_
  have hS0 : s.Since s.vm 0 := State.WarmedH.since (State.WarmedH.refl s) 0
  have hk0 : 0 ≤ h0.size := Nat.zero_le _
  have hZ0 : Z.Warmed39 (s.setVm s.vm).vm := hZ
  have hown0 : (s.setVm s.vm).vm.findClass "java/lang/StringUTF16" = some m.cls := hown
  have hZH0 : Z.WarmedH (s.setVm s.vm).vm := hZH
  have hI0 : IB Z (s.setVm s.vm).vm [] := own_ib0 hZH
  refine own_by (S' := s₁.setTop (mkF m 1 #[.val (.ref b), .val (.int (0 : Int32)), .val (.int (0 : Int32)), .unset, .unset] [(.int (0 : Int32))])) (fun tZ kZ => XS.iloadN X0.here hx rfl (hb hby d38_0) rfl kZ) ?_
  refine own_by (S' := s₁.setTop (mkF m 4 #[.val (.ref b), .val (.int (0 : Int32)), .val (.int (0 : Int32)), .unset, .unset] [])) (fun tZ kZ => XS.ifNo X0.here hx rfl (hb hby d38_1) rfl ((if0 _ _).trans (teq rfl).2) kZ) ?_
  obtain ⟨lt, T1, h1, k1, t_lt, kc_lt, X1, e1, E1, hS1, hk1, hZ1, hown1, Ge_lt, Co_lt, Va_lt, V_t_lt, st1⟩ := own_ldcw X0 hx hZ0 hown0 (hw_ hw 172 rfl) (own_str hw) e0 hS0 hk0 (Fr.nil _) (fun bZ cZ qZ => by rw [hh]; exact EZ.2 bZ cZ qZ) hI0 (HC ("java/lang/StringUTF16", 295) (List.mem_of_getElem? (i := 2) rfl)) hcw (g := (mkF m 4 #[.val (.ref b), .val (.int (0 : Int32)), .val (.int (0 : Int32)), .unset, .unset] [])) rfl (hb hby d38_4) (by decide) (by decide)
  have Zs1 : n0 ≤ h1.size := Nat.le_trans Z0 E1.1
  have K1 := (Keep.refl h0 []).ext E1
  refine own_by (S' := T1.setTop (mkF m 7 #[.val (.ref b), .val (.int (0 : Int32)), .val (.int (0 : Int32)), .unset, .unset] [(.ref lt)])) st1 ?_
  exact own_retAV X1 hS1 (by rw [e1]; exact hk1) hx Bd.returns rfl rfl (hb hby d38_7) Bd.notSynchronized (by decide) (by decide) (show QStr Z [] h0 n0 _ T1.heap _ from by rw [e1]; exact ⟨lt, rfl, N0, K1, Ge_lt, t_lt, kc_lt, Va_lt, Or.inl ⟨Co_lt, V_t_lt, fun q hq => absurd hq (by simp)⟩⟩) trivial
theorem ef_rmSubH (m : MethodId) (r : Addr) : entryFrame m #[(.ref r), (.int (0 : Int32)), (.int (0 : Int32))] 5 = mkF m 0 #[.val (.ref r), .val (.int (0 : Int32)), .val (.int (0 : Int32)), .unset, .unset] [] := by first | (simp [entryFrame, mkF, argsToLocals, Value.category, maxLocals]; done) | rfl
set_option maxRecDepth 65536 in
set_option maxHeartbeats 40000000 in
theorem rmSubH (l : Launch) (Z : State) (a0 : Array Value) (hw : ∀ d ∈ tables_1, d.before a0 Z = true) (ws : List Jvm.Cond) (r : Addr) (us : List Int32) (n : Int32) (cz : Int32) (fm : Value) (h0 : Heap) (n0 : Nat) (Z0 : n0 ≤ h0.size) (EZ : Ext Z.heap h0) (HC : ∀ q ∈ consts_1, Jvm.Lit.constHeld Z q.1 q.2) (hcw : Jvm.Lit.compactW.before a0 Z = true) (S : OwnStr Z h0 r us) (hl : us.length ≤ 4) (W : OwnW Z h0 cz fm) (hn : n.toInt = us.length) (h1l : 1 ≤ us.length) :
    MetFree l (⟨"java/lang/String", "substring", "(II)Ljava/lang/String;"⟩ : MethodName) (head1 (Jvm.Cond.code (⟨"java/lang/String", "substring", "(II)Ljava/lang/String;"⟩ : MethodName) jdk_42_method_92_code (5 : Nat) (Option.some (Jvm.ClassFile.FieldType.object "java/lang/String")) :: ws) ({ frames := 2, cells := 2, slots := 4, locals := 29 } : Room)) (fun aZ UZ => aZ = #[(.ref r), (.int (0 : Int32)), (.int (0 : Int32))] ∧ Z.WarmedH UZ.vm ∧ UZ.heap = h0) (fun _ _ _ _ _ => True) (fun _ UZ oZ VZ => ∃ vZ LZ, oZ = .returned vZ ∧ ((QStr Z [] h0 n0) vZ VZ.heap LZ ∧ True) ∧ ReturnedEndW UZ oZ VZ LZ ({ frames := 2, cells := 2, slots := 4, locals := 29 } : Room).cells ({ frames := 2, cells := 2, slots := 4, locals := 29 } : Room).slots) := by
  refine MetFree.of_bodySF (plainFor_of_name pn_1) hisR ?_
  intro p e s m args below meth c s₁ Bd hml0 hP hK
  obtain ⟨rfl, hZH, hh⟩ := hP
  have hZ : Z.Warmed39 s.vm := hZH.wide
  have hx := Bd.exec
  have hby := Bd.bytes
  have hml : c.maxLocals = 5 := hml0
  have hown : s.vm.findClass "java/lang/String" = some m.cls := findClass_of_methodNamed Bd.named
  have hnm := (name_of_methodNamed Bd.named Bd.method).1
  have X0 : Stand p l e ({ frames := 2, cells := 2, slots := 4, locals := 29 } : Room) (s.setVm s.vm) m #[(.ref r), (.int (0 : Int32)), (.int (0 : Int32))] below meth c s₁ [] 0 0 := Stand.of_body Bd
  have e0 : s₁.heap = h0 := by rw [← hh, Bd.state]; rfl
  have N0 := Fr.nil n0
  show OwnG p e below (OwnEV s (QStr Z [] h0 n0) (fun _ => True) ({ frames := 2, cells := 2, slots := 4, locals := 29 } : Room).cells ({ frames := 2, cells := 2, slots := 4, locals := 29 } : Room).slots) _
  refine own_by (S' := s₁.setTop (mkF m 0 #[.val (.ref r), .val (.int (0 : Int32)), .val (.int (0 : Int32)), .unset, .unset] [])) (fun tZ kZ => castTop (ef_rmSubH m r) kZ) ?_
  have hS0 : s.Since s.vm 0 := State.WarmedH.since (State.WarmedH.refl s) 0
  have hk0 : 0 ≤ h0.size := Nat.zero_le _
  have hZ0 : Z.Warmed39 (s.setVm s.vm).vm := hZ
  have hown0 : (s.setVm s.vm).vm.findClass "java/lang/String" = some m.cls := hown
  have hZH0 : Z.WarmedH (s.setVm s.vm).vm := hZH
  have hI0 : IB Z (s.setVm s.vm).vm [] := own_ib0 hZH
  obtain ⟨Ex, bb, kb, Vv, hcs⟩ := id S
  obtain ⟨Sc, hcz, Sf, rf, Sa, Shi, Slo⟩ := id W
  refine own_by (S' := s₁.setTop (mkF m 1 #[.val (.ref r), .val (.int (0 : Int32)), .val (.int (0 : Int32)), .unset, .unset] [(.ref r)])) (fun tZ kZ => XS.aloadN X0.here hx rfl (hb hby d36_0) rfl rfl kZ) ?_
  obtain ⟨cq1, kq1, q1a, q1b, q1c⟩ := isOf hZ0 e0 S.1
  obtain ⟨_, _, ⟨T1, L1, k1, n1⟩, -, X1, ⟨Lc1, hQ1, l1, y1, z1⟩, st1⟩ := X0.virtualBack hx (y := (⟨"java/lang/String", "length", "()I"⟩ : MethodName)) (z := (⟨"java/lang/String", "length", "()I"⟩ : MethodName)) hown0 (mvT hZ0 (hw_ hw 53 rfl)) (mvT hZ0 (hw_ hw 38 rfl)) (notFace_of_selects (args := #[]) (mvT hZ0 (hw_ hw 40 rfl))) (mvT hZ0 (hw_ hw 40 rfl)) (mvT hZ0 (hw_ hw 39 rfl)) (by decide) (backOf (W := 0) (rmLen l Z a0 hw [] r us n cz fm h0 n0 Z0 hn S hl W) hZ0 (hw_ hw 41 rfl) (hw_ hw 14 rfl) (by decide) (by decide)) q1a q1c (g := (mkF m 1 #[.val (.ref r), .val (.int (0 : Int32)), .val (.int (0 : Int32)), .unset, .unset] [(.ref r)])) rfl (by rw [hml]; rfl) (Steps.refl _) (argsL := []) (rest := []) (lenOf pd_10 rfl) rfl (by show 2 * 0 + _ ≤ _; exact Nat.le_of_eq rfl) (hb hby d36_1) (fun _ _ => ⟨rfl, e0, (by decide : 0 + 0 ≤ _), (by decide : 0 + 0 ≤ _)⟩)
  dsimp only [Pt.U, Pt.locs, Pt.cells, Pt.slots] at X1 l1 y1 z1 st1 hQ1
  subst l1 y1 z1
  obtain ⟨rfl, N1q, heq1⟩ := hQ1
  have N1 := Fr.app N0 N1q
  refine own_by (S' := T1.setTop (mkF m 4 #[.val (.ref r), .val (.int (0 : Int32)), .val (.int (0 : Int32)), .unset, .unset] [(.int n)])) (fun tZ kZ => st1.trans kZ) ?_
  refine own_by (S' := T1.setTop (mkF m 5 #[.val (.ref r), .val (.int (0 : Int32)), .val (.int (0 : Int32)), .val (.int n), .unset] [])) (fun tZ kZ => XS.istoreN X1.here hx rfl (hb hby d36_4) rfl (l' := #[.val (.ref r), .val (.int (0 : Int32)), .val (.int (0 : Int32)), .val (.int n), .unset]) rfl kZ) ?_
  refine own_by (S' := T1.setTop (mkF m 6 #[.val (.ref r), .val (.int (0 : Int32)), .val (.int (0 : Int32)), .val (.int n), .unset] [(.int (0 : Int32))])) (fun tZ kZ => XS.iloadN X1.here hx rfl (hb hby d36_5) rfl kZ) ?_
  refine own_by (S' := T1.setTop (mkF m 7 #[.val (.ref r), .val (.int (0 : Int32)), .val (.int (0 : Int32)), .val (.int n), .unset] [(.int (0 : Int32)), (.int (0 : Int32))])) (fun tZ kZ => XS.iloadN X1.here hx rfl (hb hby d36_6) rfl kZ) ?_
  refine own_by (S' := T1.setTop (mkF m 8 #[.val (.ref r), .val (.int (0 : Int32)), .val (.int (0 : Int32)), .val (.int n), .unset] [(.int n), (.int (0 : Int32)), (.int (0 : Int32))])) (fun tZ kZ => XS.iloadN X1.here hx rfl (hb hby d36_7) rfl kZ) ?_
  obtain ⟨_, _, ⟨T2, L2, k2, n2⟩, -, X2, ⟨Lc2, hQ2, l2, y2, z2⟩, st2⟩ := Jvm.LawKit.callS X1 hx (y := (⟨"java/lang/String", "checkBoundsBeginEnd", "(III)V"⟩ : MethodName)) hown0 (mvT hZ0 (hw_ hw 165 rfl)) (mvT hZ0 (hw_ hw 166 rfl)) (mvT hZ0 (hw_ hw 14 rfl)) (mvT hZ0 (hw_ hw 167 rfl)) (by decide) (backOf (W := 0) (rmCBE l Z a0 hw [] (0 : Int32) (0 : Int32) n cz fm h0 n0 Z0 (by decide) (by decide) (own_nneg hn) W) hZ0 (hw_ hw 167 rfl) (hw_ hw 14 rfl) (by decide) (by decide)) (g := (mkF m 8 #[.val (.ref r), .val (.int (0 : Int32)), .val (.int (0 : Int32)), .val (.int n), .unset] [(.int n), (.int (0 : Int32)), (.int (0 : Int32))])) rfl (by rw [hml]; rfl) (argsL := [(.int (0 : Int32)), (.int (0 : Int32)), (.int n)]) (rest := []) (lenOf pd_28 rfl) rfl (by show 2 * 0 + _ ≤ _; exact Nat.le_of_eq rfl) (hb hby d36_8) (fun _ _ => ⟨rfl, heq1, (by decide : 0 + 0 ≤ _), (by decide : 0 + 0 ≤ _)⟩)
  dsimp only [Pt.U, Pt.locs, Pt.cells, Pt.slots] at X2 l2 y2 z2 st2 hQ2
  subst l2 y2 z2
  obtain ⟨rfl, N2q, heq2⟩ := hQ2
  have N2 := Fr.app N1 N2q
  refine own_by (S' := T2.setTop (mkF m 11 #[.val (.ref r), .val (.int (0 : Int32)), .val (.int (0 : Int32)), .val (.int n), .unset] [])) (fun tZ kZ => st2 _ kZ) ?_
  refine own_by (S' := T2.setTop (mkF m 12 #[.val (.ref r), .val (.int (0 : Int32)), .val (.int (0 : Int32)), .val (.int n), .unset] [(.int (0 : Int32))])) (fun tZ kZ => XS.iloadN X2.here hx rfl (hb hby d36_11) rfl kZ) ?_
  refine own_by (S' := T2.setTop (mkF m 15 #[.val (.ref r), .val (.int (0 : Int32)), .val (.int (0 : Int32)), .val (.int n), .unset] [])) (fun tZ kZ => XS.ifNo X2.here hx rfl (hb hby d36_12) rfl ((if0 _ _).trans (teq rfl).2) kZ) ?_
  refine own_by (S' := T2.setTop (mkF m 16 #[.val (.ref r), .val (.int (0 : Int32)), .val (.int (0 : Int32)), .val (.int n), .unset] [(.int (0 : Int32))])) (fun tZ kZ => XS.iloadN X2.here hx rfl (hb hby d36_15) rfl kZ) ?_
  refine own_by (S' := T2.setTop (mkF m 17 #[.val (.ref r), .val (.int (0 : Int32)), .val (.int (0 : Int32)), .val (.int n), .unset] [(.int n), (.int (0 : Int32))])) (fun tZ kZ => XS.iloadN X2.here hx rfl (hb hby d36_16) rfl kZ) ?_
  refine own_by (S' := T2.setTop (mkF m 22 #[.val (.ref r), .val (.int (0 : Int32)), .val (.int (0 : Int32)), .val (.int n), .unset] [])) (fun tZ kZ => XS.icmpYes X2.here hx rfl (pc0 := 17) (pc' := 22) rfl (hb hby d36_17) rfl (feq (own_neq (a := 0) rfl hn (by omega))).2 (by decide) (by decide) kZ) ?_
  refine own_by (S' := T2.setTop (mkF m 23 #[.val (.ref r), .val (.int (0 : Int32)), .val (.int (0 : Int32)), .val (.int n), .unset] [(.int (0 : Int32))])) (fun tZ kZ => XS.iloadN X2.here hx rfl (hb hby d36_22) rfl kZ) ?_
  refine own_by (S' := T2.setTop (mkF m 24 #[.val (.ref r), .val (.int (0 : Int32)), .val (.int (0 : Int32)), .val (.int n), .unset] [(.int (0 : Int32)), (.int (0 : Int32))])) (fun tZ kZ => XS.iloadN X2.here hx rfl (hb hby d36_23) rfl kZ) ?_
  refine own_by (S' := T2.setTop (mkF m 25 #[.val (.ref r), .val (.int (0 : Int32)), .val (.int (0 : Int32)), .val (.int n), .unset] [(.int ((0 : Int32) - (0 : Int32)))])) (fun tZ kZ => XS.isub X2.here hx rfl (hb hby d36_24) rfl kZ) ?_
  rw [show (0 : Int32) - 0 = 0 from by decide]
  refine own_by (S' := T2.setTop (mkF m 27 #[.val (.ref r), .val (.int (0 : Int32)), .val (.int (0 : Int32)), .val (.int n), .val (.int (0 : Int32))] [])) (fun tZ kZ => XS.istore X2.here hx rfl (hb hby d36_25) rfl (l' := #[.val (.ref r), .val (.int (0 : Int32)), .val (.int (0 : Int32)), .val (.int n), .val (.int (0 : Int32))]) rfl kZ) ?_
  refine own_by (S' := T2.setTop (mkF m 28 #[.val (.ref r), .val (.int (0 : Int32)), .val (.int (0 : Int32)), .val (.int n), .val (.int (0 : Int32))] [(.ref r)])) (fun tZ kZ => XS.aloadN X2.here hx rfl (hb hby d36_27) rfl rfl kZ) ?_
  rcases hcs with ⟨Cc, V_b, hal⟩ | ⟨Cc, V_b⟩
  · obtain ⟨cq3, kq3, q3a, q3b, q3c⟩ := isOf hZ0 heq2 Ex
    obtain ⟨_, _, ⟨T3, L3, k3, n3⟩, -, X3, ⟨Lc3, hQ3, l3, y3, z3⟩, st3⟩ := X2.virtualBack hx (y := (⟨"java/lang/String", "isLatin1", "()Z"⟩ : MethodName)) (z := (⟨"java/lang/String", "isLatin1", "()Z"⟩ : MethodName)) hown0 (mvT hZ0 (hw_ hw 62 rfl)) (mvT hZ0 (hw_ hw 63 rfl)) (notFace_of_selects (args := #[]) (mvT hZ0 (hw_ hw 65 rfl))) (mvT hZ0 (hw_ hw 65 rfl)) (mvT hZ0 (hw_ hw 64 rfl)) (by decide) (backOf (W := 0) (rmIsL0 l Z a0 hw [] r cz h0 n0 Z0 Cc Sc hcz) hZ0 (hw_ hw 66 rfl) (hw_ hw 14 rfl) (by decide) (by decide)) q3a q3c (g := (mkF m 28 #[.val (.ref r), .val (.int (0 : Int32)), .val (.int (0 : Int32)), .val (.int n), .val (.int (0 : Int32))] [(.ref r)])) rfl (by rw [hml]; rfl) (Steps.refl _) (argsL := []) (rest := []) (lenOf pd_7 rfl) rfl (by show 2 * 0 + _ ≤ _; exact Nat.le_of_eq rfl) (hb hby d36_28) (fun _ _ => ⟨rfl, heq2, (by decide : 0 + 0 ≤ _), (by decide : 0 + 0 ≤ _)⟩)
    dsimp only [Pt.U, Pt.locs, Pt.cells, Pt.slots] at X3 l3 y3 z3 st3 hQ3
    subst l3 y3 z3
    obtain ⟨rfl, N3q, heq3⟩ := hQ3
    have N3 := Fr.app N2 N3q
    refine own_by (S' := T3.setTop (mkF m 31 #[.val (.ref r), .val (.int (0 : Int32)), .val (.int (0 : Int32)), .val (.int n), .val (.int (0 : Int32))] [(.int (1 : Int32))])) (fun tZ kZ => st3.trans kZ) ?_
    refine own_by (S' := T3.setTop (mkF m 34 #[.val (.ref r), .val (.int (0 : Int32)), .val (.int (0 : Int32)), .val (.int n), .val (.int (0 : Int32))] [])) (fun tZ kZ => XS.ifNo X3.here hx rfl (hb hby d36_31) rfl ((if0 _ _).trans (feq (by decide)).1) kZ) ?_
    refine own_by (S' := T3.setTop (mkF m 35 #[.val (.ref r), .val (.int (0 : Int32)), .val (.int (0 : Int32)), .val (.int n), .val (.int (0 : Int32))] [(.ref r)])) (fun tZ kZ => XS.aloadN X3.here hx rfl (hb hby d36_34) rfl rfl kZ) ?_
    obtain ⟨T4, X4, e4, st4⟩ := getF X3 hx hZ0 hown0 (host := "") (Or.inl (hw_ hw 31 rfl)) Via.refl heq3 Vv (g := (mkF m 35 #[.val (.ref r), .val (.int (0 : Int32)), .val (.int (0 : Int32)), .val (.int n), .val (.int (0 : Int32))] [(.ref r)])) rfl rfl (hb hby d36_35)
    refine own_by (S' := T4.setTop (mkF m 38 #[.val (.ref r), .val (.int (0 : Int32)), .val (.int (0 : Int32)), .val (.int n), .val (.int (0 : Int32))] [(.ref bb)])) st4 ?_
    refine own_by (S' := T4.setTop (mkF m 39 #[.val (.ref r), .val (.int (0 : Int32)), .val (.int (0 : Int32)), .val (.int n), .val (.int (0 : Int32))] [(.int (0 : Int32)), (.ref bb)])) (fun tZ kZ => XS.iloadN X4.here hx rfl (hb hby d36_38) rfl kZ) ?_
    refine own_by (S' := T4.setTop (mkF m 41 #[.val (.ref r), .val (.int (0 : Int32)), .val (.int (0 : Int32)), .val (.int n), .val (.int (0 : Int32))] [(.int (0 : Int32)), (.int (0 : Int32)), (.ref bb)])) (fun tZ kZ => XS.iload X4.here hx rfl (hb hby d36_39) rfl kZ) ?_
    obtain ⟨_, _, ⟨T5, L5, k5, n5⟩, -, X5, hS5, hg5, ⟨Lc5, hQ5, l5, y5, z5⟩, st5⟩ := callSS X4 hx (y := (⟨"java/lang/StringLatin1", "newString", "([BII)Ljava/lang/String;"⟩ : MethodName)) hown0 (mvT hZ0 (hw_ hw 225 rfl)) (mvT hZ0 (hw_ hw 226 rfl)) (mvT hZ0 (hw_ hw 175 rfl)) (mvT hZ0 (hw_ hw 227 rfl)) (by decide) (own_backH (Q := QStr Z [] h0 n0) (I := fun _ => True) (W := 0) (rmLNewH l Z a0 hw [] bb h0 n0 Z0 EZ HC hcw) hZH0 (hw_ hw 227 rfl) (hw_ hw 175 rfl) (by decide) (by decide)) (g := (mkF m 41 #[.val (.ref r), .val (.int (0 : Int32)), .val (.int (0 : Int32)), .val (.int n), .val (.int (0 : Int32))] [(.int (0 : Int32)), (.int (0 : Int32)), (.ref bb)])) rfl (by rw [hml]; rfl) (argsL := [(.ref bb), (.int (0 : Int32)), (.int (0 : Int32))]) (rest := []) (lenOf pd_29 rfl) rfl (by show 2 * 0 + _ ≤ _; exact Nat.le_of_eq rfl) (hb hby d36_41) (fun _ _ => ⟨rfl, e4, (by decide : 0 + 2 ≤ _), (by decide : 0 + 4 ≤ _)⟩)
    dsimp only [Pt.U, Pt.locs, Pt.cells, Pt.slots] at X5 l5 y5 z5 st5 hQ5 hS5 hg5
    subst l5 y5 z5
    obtain ⟨⟨rr, rfl, N5q, Kc5, qs5⟩, -⟩ := hQ5
    have N5 := Fr.app N3 N5q
    obtain ⟨X5, hS5, hZ5, hown5⟩ := rebS hS0 hk0 X5 hS5 (by rw [← e4]; exact hg5) hZ0 hown0
    have Zs5 := Nat.le_trans Z0 Kc5.1
    have Ec5 := own_ext0 Kc5
    have K5 := (Keep.refl h0 []).ext Ec5
    refine own_by (S' := T5.setTop (mkF m 44 #[.val (.ref r), .val (.int (0 : Int32)), .val (.int (0 : Int32)), .val (.int n), .val (.int (0 : Int32))] [(.ref rr)])) (fun tZ kZ => st5.trans kZ) ?_
    refine own_by (S' := T5.setTop (mkF m 57 #[.val (.ref r), .val (.int (0 : Int32)), .val (.int (0 : Int32)), .val (.int n), .val (.int (0 : Int32))] [(.ref rr)])) (fun tZ kZ => XS.goto X5.here hx rfl (pc0 := 44) (pc' := 57) rfl (hb hby d36_44) (by decide) (by decide) kZ) ?_
    exact own_retAV X5 hS5 (Nat.le_refl _) hx Bd.returns rfl rfl (hb hby d36_57) Bd.notSynchronized (by decide) (by decide) ⟨rr, rfl, N5, K5, qs5⟩ trivial
  · obtain ⟨cq6, kq6, q6a, q6b, q6c⟩ := isOf hZ0 heq2 Ex
    obtain ⟨_, _, ⟨T6, L6, k6, n6⟩, -, X6, ⟨Lc6, hQ6, l6, y6, z6⟩, st6⟩ := X2.virtualBack hx (y := (⟨"java/lang/String", "isLatin1", "()Z"⟩ : MethodName)) (z := (⟨"java/lang/String", "isLatin1", "()Z"⟩ : MethodName)) hown0 (mvT hZ0 (hw_ hw 62 rfl)) (mvT hZ0 (hw_ hw 63 rfl)) (notFace_of_selects (args := #[]) (mvT hZ0 (hw_ hw 65 rfl))) (mvT hZ0 (hw_ hw 65 rfl)) (mvT hZ0 (hw_ hw 64 rfl)) (by decide) (backOf (W := 0) (rmIsL1 l Z a0 hw [] r cz h0 n0 Z0 Cc Sc hcz) hZ0 (hw_ hw 66 rfl) (hw_ hw 14 rfl) (by decide) (by decide)) q6a q6c (g := (mkF m 28 #[.val (.ref r), .val (.int (0 : Int32)), .val (.int (0 : Int32)), .val (.int n), .val (.int (0 : Int32))] [(.ref r)])) rfl (by rw [hml]; rfl) (Steps.refl _) (argsL := []) (rest := []) (lenOf pd_7 rfl) rfl (by show 2 * 0 + _ ≤ _; exact Nat.le_of_eq rfl) (hb hby d36_28) (fun _ _ => ⟨rfl, heq2, (by decide : 0 + 0 ≤ _), (by decide : 0 + 0 ≤ _)⟩)
    dsimp only [Pt.U, Pt.locs, Pt.cells, Pt.slots] at X6 l6 y6 z6 st6 hQ6
    subst l6 y6 z6
    obtain ⟨rfl, N6q, heq6⟩ := hQ6
    have N6 := Fr.app N2 N6q
    refine own_by (S' := T6.setTop (mkF m 31 #[.val (.ref r), .val (.int (0 : Int32)), .val (.int (0 : Int32)), .val (.int n), .val (.int (0 : Int32))] [(.int (0 : Int32))])) (fun tZ kZ => st6.trans kZ) ?_
    refine own_by (S' := T6.setTop (mkF m 47 #[.val (.ref r), .val (.int (0 : Int32)), .val (.int (0 : Int32)), .val (.int n), .val (.int (0 : Int32))] [])) (fun tZ kZ => XS.ifYes X6.here hx rfl (pc0 := 31) (pc' := 47) rfl (hb hby d36_31) rfl ((if0 _ _).trans (teq rfl).1) (by decide) (by decide) kZ) ?_
    refine own_by (S' := T6.setTop (mkF m 48 #[.val (.ref r), .val (.int (0 : Int32)), .val (.int (0 : Int32)), .val (.int n), .val (.int (0 : Int32))] [(.ref r)])) (fun tZ kZ => XS.aloadN X6.here hx rfl (hb hby d36_47) rfl rfl kZ) ?_
    obtain ⟨T7, X7, e7, st7⟩ := getF X6 hx hZ0 hown0 (host := "") (Or.inl (hw_ hw 31 rfl)) Via.refl heq6 Vv (g := (mkF m 48 #[.val (.ref r), .val (.int (0 : Int32)), .val (.int (0 : Int32)), .val (.int n), .val (.int (0 : Int32))] [(.ref r)])) rfl rfl (hb hby d36_48)
    refine own_by (S' := T7.setTop (mkF m 51 #[.val (.ref r), .val (.int (0 : Int32)), .val (.int (0 : Int32)), .val (.int n), .val (.int (0 : Int32))] [(.ref bb)])) st7 ?_
    refine own_by (S' := T7.setTop (mkF m 52 #[.val (.ref r), .val (.int (0 : Int32)), .val (.int (0 : Int32)), .val (.int n), .val (.int (0 : Int32))] [(.int (0 : Int32)), (.ref bb)])) (fun tZ kZ => XS.iloadN X7.here hx rfl (hb hby d36_51) rfl kZ) ?_
    refine own_by (S' := T7.setTop (mkF m 54 #[.val (.ref r), .val (.int (0 : Int32)), .val (.int (0 : Int32)), .val (.int n), .val (.int (0 : Int32))] [(.int (0 : Int32)), (.int (0 : Int32)), (.ref bb)])) (fun tZ kZ => XS.iload X7.here hx rfl (hb hby d36_52) rfl kZ) ?_
    obtain ⟨_, _, ⟨T8, L8, k8, n8⟩, -, X8, hS8, hg8, ⟨Lc8, hQ8, l8, y8, z8⟩, st8⟩ := callSS X7 hx (y := (⟨"java/lang/StringUTF16", "newString", "([BII)Ljava/lang/String;"⟩ : MethodName)) hown0 (mvT hZ0 (hw_ hw 169 rfl)) (mvT hZ0 (hw_ hw 170 rfl)) (mvT hZ0 (hw_ hw 70 rfl)) (mvT hZ0 (hw_ hw 171 rfl)) (by decide) (own_backH (Q := QStr Z [] h0 n0) (I := fun _ => True) (W := 0) (rmUNewH l Z a0 hw [] bb h0 n0 Z0 EZ HC hcw) hZH0 (hw_ hw 171 rfl) (hw_ hw 70 rfl) (by decide) (by decide)) (g := (mkF m 54 #[.val (.ref r), .val (.int (0 : Int32)), .val (.int (0 : Int32)), .val (.int n), .val (.int (0 : Int32))] [(.int (0 : Int32)), (.int (0 : Int32)), (.ref bb)])) rfl (by rw [hml]; rfl) (argsL := [(.ref bb), (.int (0 : Int32)), (.int (0 : Int32))]) (rest := []) (lenOf pd_29 rfl) rfl (by show 2 * 0 + _ ≤ _; exact Nat.le_of_eq rfl) (hb hby d36_54) (fun _ _ => ⟨rfl, e7, (by decide : 0 + 2 ≤ _), (by decide : 0 + 4 ≤ _)⟩)
    dsimp only [Pt.U, Pt.locs, Pt.cells, Pt.slots] at X8 l8 y8 z8 st8 hQ8 hS8 hg8
    subst l8 y8 z8
    obtain ⟨⟨rr, rfl, N8q, Kc8, qs8⟩, -⟩ := hQ8
    have N8 := Fr.app N6 N8q
    obtain ⟨X8, hS8, hZ8, hown8⟩ := rebS hS0 hk0 X8 hS8 (by rw [← e7]; exact hg8) hZ0 hown0
    have Zs8 := Nat.le_trans Z0 Kc8.1
    have Ec8 := own_ext0 Kc8
    have K8 := (Keep.refl h0 []).ext Ec8
    refine own_by (S' := T8.setTop (mkF m 57 #[.val (.ref r), .val (.int (0 : Int32)), .val (.int (0 : Int32)), .val (.int n), .val (.int (0 : Int32))] [(.ref rr)])) (fun tZ kZ => st8.trans kZ) ?_
    exact own_retAV X8 hS8 (Nat.le_refl _) hx Bd.returns rfl rfl (hb hby d36_57) Bd.notSynchronized (by decide) (by decide) ⟨rr, rfl, N8, K8, qs8⟩ trivial
theorem ef_rmPreH (m : MethodId) (r : Addr) (mm : Int32) : entryFrame m #[(.ref r), (.int mm)] 3 = mkF m 0 #[.val (.ref r), .val (.int mm), .unset] [] := by first | (simp [entryFrame, mkF, argsToLocals, Value.category, maxLocals]; done) | rfl
set_option maxRecDepth 65536 in
set_option maxHeartbeats 40000000 in
theorem rmPreH (l : Launch) (Z : State) (a0 : Array Value) (hw : ∀ d ∈ tables_1, d.before a0 Z = true) (ws : List Jvm.Cond) (r : Addr) (us : List Int32) (n mm : Int32) (cz : Int32) (fm : Value) (h0 : Heap) (n0 : Nat) (Z0 : n0 ≤ h0.size) (EZ : Ext Z.heap h0) (HC : ∀ q ∈ consts_1, Jvm.Lit.constHeld Z q.1 q.2) (hcw : Jvm.Lit.compactW.before a0 Z = true) (S : OwnStr Z h0 r us) (hl : us.length ≤ 4) (W : OwnW Z h0 cz fm) (hn : n.toInt = us.length) (hus : ∀ q ∈ us, CU q) (hm : mm.toInt = ((0 : Nat) : Int)) (h1l : 1 ≤ us.length) :
    MetFree l (⟨"com/example/idpd/idpd/Texts", "prefix", "(Ljava/lang/String;I)Ljava/lang/String;"⟩ : MethodName) (head1 (Jvm.Cond.code (⟨"com/example/idpd/idpd/Texts", "prefix", "(Ljava/lang/String;I)Ljava/lang/String;"⟩ : MethodName) prog_25_method_2_code (3 : Nat) (Option.some (Jvm.ClassFile.FieldType.object "java/lang/String")) :: ws) ({ frames := 7, cells := 2, slots := 4, locals := 99 } : Room)) (fun aZ UZ => aZ = #[(.ref r), (.int mm)] ∧ Z.WarmedH UZ.vm ∧ UZ.heap = h0) (fun _ _ _ _ _ => True) (fun _ UZ oZ VZ => ∃ vZ LZ, oZ = .returned vZ ∧ ((QStr Z [] h0 n0) vZ VZ.heap LZ ∧ True) ∧ ReturnedEndW UZ oZ VZ LZ ({ frames := 7, cells := 2, slots := 4, locals := 99 } : Room).cells ({ frames := 7, cells := 2, slots := 4, locals := 99 } : Room).slots) := by
  refine MetFree.of_bodySF (plainFor_of_name pn_8) hisR ?_
  intro p e s m args below meth c s₁ Bd hml0 hP hK
  obtain ⟨rfl, hZH, hh⟩ := hP
  have hZ : Z.Warmed39 s.vm := hZH.wide
  have hx := Bd.exec
  have hby := Bd.bytes
  have hml : c.maxLocals = 3 := hml0
  have hown : s.vm.findClass "com/example/idpd/idpd/Texts" = some m.cls := findClass_of_methodNamed Bd.named
  have hnm := (name_of_methodNamed Bd.named Bd.method).1
  have X0 : Stand p l e ({ frames := 7, cells := 2, slots := 4, locals := 99 } : Room) (s.setVm s.vm) m #[(.ref r), (.int mm)] below meth c s₁ [] 0 0 := Stand.of_body Bd
  have e0 : s₁.heap = h0 := by rw [← hh, Bd.state]; rfl
  have N0 := Fr.nil n0
  show OwnG p e below (OwnEV s (QStr Z [] h0 n0) (fun _ => True) ({ frames := 7, cells := 2, slots := 4, locals := 99 } : Room).cells ({ frames := 7, cells := 2, slots := 4, locals := 99 } : Room).slots) _
  refine own_by (S' := s₁.setTop (mkF m 0 #[.val (.ref r), .val (.int mm), .unset] [])) (fun tZ kZ => castTop (ef_rmPreH m r mm) kZ) ?_
  have hS0 : s.Since s.vm 0 := State.WarmedH.since (State.WarmedH.refl s) 0
  have hk0 : 0 ≤ h0.size := Nat.zero_le _
  have hZ0 : Z.Warmed39 (s.setVm s.vm).vm := hZ
  have hown0 : (s.setVm s.vm).vm.findClass "com/example/idpd/idpd/Texts" = some m.cls := hown
  have hZH0 : Z.WarmedH (s.setVm s.vm).vm := hZH
  have hI0 : IB Z (s.setVm s.vm).vm [] := own_ib0 hZH
  have hO : tOff (pr us) us.length 0 4 0 0 = (0, 0) := tOff_e (fun q => by omega)
  have hcp := tCp_pos (pr us) hl h1l
  refine own_by (S' := s₁.setTop (mkF m 1 #[.val (.ref r), .val (.int mm), .unset] [(.ref r)])) (fun tZ kZ => XS.aloadN X0.here hx rfl (hb hby d6_0) rfl rfl kZ) ?_
  refine own_by (S' := s₁.setTop (mkF m 2 #[.val (.ref r), .val (.int mm), .val (.ref r)] [])) (fun tZ kZ => XS.astoreN X0.here hx rfl (hb hby d6_1) rfl rfl (l' := #[.val (.ref r), .val (.int mm), .val (.ref r)]) rfl kZ) ?_
  refine own_by (S' := s₁.setTop (mkF m 3 #[.val (.ref r), .val (.int mm), .val (.ref r)] [(.ref r)])) (fun tZ kZ => XS.aloadN X0.here hx rfl (hb hby d6_2) rfl rfl kZ) ?_
  refine own_by (S' := s₁.setTop (mkF m 4 #[.val (.ref r), .val (.int mm), .val (.ref r)] [(.int (0 : Int32)), (.ref r)])) (fun tZ kZ => XS.iconst X0.here hx rfl (hb hby d6_3) kZ) ?_
  refine own_by (S' := s₁.setTop (mkF m 5 #[.val (.ref r), .val (.int mm), .val (.ref r)] [(.ref r), (.int (0 : Int32)), (.ref r)])) (fun tZ kZ => XS.aloadN X0.here hx rfl (hb hby d6_4) rfl rfl kZ) ?_
  obtain ⟨cq1, kq1, q1a, q1b, q1c⟩ := isOf hZ0 e0 S.1
  obtain ⟨_, _, ⟨T1, L1, k1, n1⟩, -, X1, ⟨Lc1, hQ1, l1, y1, z1⟩, st1⟩ := X0.virtualBack hx (y := (⟨"java/lang/String", "length", "()I"⟩ : MethodName)) (z := (⟨"java/lang/String", "length", "()I"⟩ : MethodName)) hown0 (mvT hZ0 (hw_ hw 37 rfl)) (mvT hZ0 (hw_ hw 38 rfl)) (notFace_of_selects (args := #[]) (mvT hZ0 (hw_ hw 40 rfl))) (mvT hZ0 (hw_ hw 40 rfl)) (mvT hZ0 (hw_ hw 39 rfl)) (by decide) (backOf (W := 2) (rmLen l Z a0 hw [] r us n cz fm h0 n0 Z0 hn S hl W) hZ0 (hw_ hw 41 rfl) (hw_ hw 14 rfl) (by decide) (by decide)) q1a q1c (g := (mkF m 5 #[.val (.ref r), .val (.int mm), .val (.ref r)] [(.ref r), (.int (0 : Int32)), (.ref r)])) rfl (by rw [hml]; rfl) (Steps.refl _) (argsL := []) (rest := [(.int (0 : Int32)), (.ref r)]) (lenOf pd_10 rfl) rfl (by show 2 * 0 + _ ≤ _; exact Nat.le_of_eq rfl) (hb hby d6_5) (fun _ _ => ⟨rfl, e0, (by decide : 0 + 0 ≤ _), (by decide : 0 + 0 ≤ _)⟩)
  dsimp only [Pt.U, Pt.locs, Pt.cells, Pt.slots] at X1 l1 y1 z1 st1 hQ1
  subst l1 y1 z1
  obtain ⟨rfl, N1q, heq1⟩ := hQ1
  have N1 := Fr.app N0 N1q
  refine own_by (S' := T1.setTop (mkF m 8 #[.val (.ref r), .val (.int mm), .val (.ref r)] [(.int n), (.int (0 : Int32)), (.ref r)])) (fun tZ kZ => st1.trans kZ) ?_
  obtain ⟨cq2, kq2, q2a, q2b, q2c⟩ := isOf hZ0 heq1 S.1
  obtain ⟨_, _, ⟨T2, L2, k2, n2⟩, -, X2, ⟨Lc2, hQ2, l2, y2, z2⟩, st2⟩ := X1.virtualBack hx (y := (⟨"java/lang/String", "codePointCount", "(II)I"⟩ : MethodName)) (z := (⟨"java/lang/String", "codePointCount", "(II)I"⟩ : MethodName)) hown0 (mvT hZ0 (hw_ hw 48 rfl)) (mvT hZ0 (hw_ hw 49 rfl)) (notFace_of_selects (args := #[]) (mvT hZ0 (hw_ hw 51 rfl))) (mvT hZ0 (hw_ hw 51 rfl)) (mvT hZ0 (hw_ hw 50 rfl)) (by decide) (backOf (W := 0) (rmCp l Z a0 hw [] r us n cz fm h0 n0 Z0 S hl W hn hus) hZ0 (hw_ hw 52 rfl) (hw_ hw 14 rfl) (by decide) (by decide)) q2a q2c (g := (mkF m 8 #[.val (.ref r), .val (.int mm), .val (.ref r)] [(.int n), (.int (0 : Int32)), (.ref r)])) rfl (by rw [hml]; rfl) (Steps.refl _) (argsL := [(.int (0 : Int32)), (.int n)]) (rest := []) (lenOf pd_19 rfl) rfl (by show 2 * 0 + _ ≤ _; exact Nat.le_of_eq rfl) (hb hby d6_8) (fun _ _ => ⟨rfl, heq1, (by decide : 0 + 0 ≤ _), (by decide : 0 + 0 ≤ _)⟩)
  dsimp only [Pt.U, Pt.locs, Pt.cells, Pt.slots] at X2 l2 y2 z2 st2 hQ2
  subst l2 y2 z2
  obtain ⟨zr, rfl, hzr, N2q, heq2⟩ := hQ2
  have N2 := Fr.app N1 N2q
  refine own_by (S' := T2.setTop (mkF m 11 #[.val (.ref r), .val (.int mm), .val (.ref r)] [(.int zr)])) (fun tZ kZ => st2.trans kZ) ?_
  refine own_by (S' := T2.setTop (mkF m 12 #[.val (.ref r), .val (.int mm), .val (.ref r)] [(.int mm), (.int zr)])) (fun tZ kZ => XS.iloadN X2.here hx rfl (hb hby d6_11) rfl kZ) ?_
  refine own_by (S' := T2.setTop (mkF m 15 #[.val (.ref r), .val (.int mm), .val (.ref r)] [])) (fun tZ kZ => XS.icmpNo X2.here hx rfl (hb hby d6_12) rfl (tlt ((own_lt hm hzr).mpr (by omega))).2.2.2 kZ) ?_
  refine own_by (S' := T2.setTop (mkF m 16 #[.val (.ref r), .val (.int mm), .val (.ref r)] [(.ref r)])) (fun tZ kZ => XS.aloadN X2.here hx rfl (hb hby d6_15) rfl rfl kZ) ?_
  refine own_by (S' := T2.setTop (mkF m 17 #[.val (.ref r), .val (.int mm), .val (.ref r)] [(.int (0 : Int32)), (.ref r)])) (fun tZ kZ => XS.iconst X2.here hx rfl (hb hby d6_16) kZ) ?_
  refine own_by (S' := T2.setTop (mkF m 18 #[.val (.ref r), .val (.int mm), .val (.ref r)] [(.ref r), (.int (0 : Int32)), (.ref r)])) (fun tZ kZ => XS.aloadN X2.here hx rfl (hb hby d6_17) rfl rfl kZ) ?_
  refine own_by (S' := T2.setTop (mkF m 19 #[.val (.ref r), .val (.int mm), .val (.ref r)] [(.int (0 : Int32)), (.ref r), (.int (0 : Int32)), (.ref r)])) (fun tZ kZ => XS.iconst X2.here hx rfl (hb hby d6_18) kZ) ?_
  refine own_by (S' := T2.setTop (mkF m 20 #[.val (.ref r), .val (.int mm), .val (.ref r)] [(.int mm), (.int (0 : Int32)), (.ref r), (.int (0 : Int32)), (.ref r)])) (fun tZ kZ => XS.iloadN X2.here hx rfl (hb hby d6_19) rfl kZ) ?_
  obtain ⟨cq3, kq3, q3a, q3b, q3c⟩ := isOf hZ0 heq2 S.1
  obtain ⟨_, _, ⟨T3, L3, k3, n3⟩, -, X3, ⟨Lc3, hQ3, l3, y3, z3⟩, st3⟩ := X2.virtualBack hx (y := (⟨"java/lang/String", "offsetByCodePoints", "(II)I"⟩ : MethodName)) (z := (⟨"java/lang/String", "offsetByCodePoints", "(II)I"⟩ : MethodName)) hown0 (mvT hZ0 (hw_ hw 145 rfl)) (mvT hZ0 (hw_ hw 146 rfl)) (notFace_of_selects (args := #[]) (mvT hZ0 (hw_ hw 148 rfl))) (mvT hZ0 (hw_ hw 148 rfl)) (mvT hZ0 (hw_ hw 147 rfl)) (by decide) (backOf (W := 2) (rmOfs l Z a0 hw [] r us n mm 0 0 cz fm h0 n0 Z0 S hl W hn hus hm hO) hZ0 (hw_ hw 149 rfl) (hw_ hw 14 rfl) (by decide) (by decide)) q3a q3c (g := (mkF m 20 #[.val (.ref r), .val (.int mm), .val (.ref r)] [(.int mm), (.int (0 : Int32)), (.ref r), (.int (0 : Int32)), (.ref r)])) rfl (by rw [hml]; rfl) (Steps.refl _) (argsL := [(.int (0 : Int32)), (.int mm)]) (rest := [(.int (0 : Int32)), (.ref r)]) (lenOf pd_19 rfl) rfl (by show 2 * 0 + _ ≤ _; exact Nat.le_of_eq rfl) (hb hby d6_20) (fun _ _ => ⟨rfl, heq2, (by decide : 0 + 0 ≤ _), (by decide : 0 + 0 ≤ _)⟩)
  dsimp only [Pt.U, Pt.locs, Pt.cells, Pt.slots] at X3 l3 y3 z3 st3 hQ3
  subst l3 y3 z3
  obtain ⟨ee, rfl, hee, N3q, heq3⟩ := hQ3
  have N3 := Fr.app N2 N3q
  refine own_by (S' := T3.setTop (mkF m 23 #[.val (.ref r), .val (.int mm), .val (.ref r)] [(.int ee), (.int (0 : Int32)), (.ref r)])) (fun tZ kZ => st3.trans kZ) ?_
  obtain rfl : ee = 0 := own_eq hee rfl
  obtain ⟨cq4, kq4, q4a, q4b, q4c⟩ := isOf hZ0 heq3 S.1
  obtain ⟨_, _, ⟨T4, L4, k4, n4⟩, -, X4, hS4, hg4, ⟨Lc4, hQ4, l4, y4, z4⟩, st4⟩ := X3.virtualBackS hx (y := (⟨"java/lang/String", "substring", "(II)Ljava/lang/String;"⟩ : MethodName)) (z := (⟨"java/lang/String", "substring", "(II)Ljava/lang/String;"⟩ : MethodName)) hown0 (mvT hZ0 (hw_ hw 160 rfl)) (mvT hZ0 (hw_ hw 161 rfl)) (notFace_of_selects (args := #[]) (mvT hZ0 (hw_ hw 163 rfl))) (mvT hZ0 (hw_ hw 163 rfl)) (mvT hZ0 (hw_ hw 162 rfl)) (by decide) (own_backH (Q := QStr Z [] h0 n0) (I := fun _ => True) (W := 0) (rmSubH l Z a0 hw [] r us n cz fm h0 n0 Z0 EZ HC hcw S hl W hn h1l) hZH0 (hw_ hw 164 rfl) (hw_ hw 14 rfl) (by decide) (by decide)) q4a q4c (g := (mkF m 23 #[.val (.ref r), .val (.int mm), .val (.ref r)] [(.int (0 : Int32)), (.int (0 : Int32)), (.ref r)])) rfl (by rw [hml]; rfl) (Steps.refl _) (argsL := [(.int (0 : Int32)), (.int (0 : Int32))]) (rest := []) (lenOf pd_30 rfl) rfl (by show 2 * 0 + _ ≤ _; exact Nat.le_of_eq rfl) (hb hby d6_23) (fun _ _ => ⟨rfl, heq3, (by decide : 0 + 2 ≤ _), (by decide : 0 + 4 ≤ _)⟩)
  dsimp only [Pt.U, Pt.locs, Pt.cells, Pt.slots] at X4 l4 y4 z4 st4 hQ4 hS4 hg4
  subst l4 y4 z4
  obtain ⟨⟨rr, rfl, N4q, Kc4, qs4⟩, -⟩ := hQ4
  have N4 := Fr.app N3 N4q
  obtain ⟨X4, hS4, hZ4, hown4⟩ := rebS hS0 hk0 X4 hS4 (by rw [← heq3]; exact hg4) hZ0 hown0
  have Zs4 := Nat.le_trans Z0 Kc4.1
  have Ec4 := own_ext0 Kc4
  have K4 := (Keep.refl h0 []).ext Ec4
  refine own_by (S' := T4.setTop (mkF m 26 #[.val (.ref r), .val (.int mm), .val (.ref r)] [(.ref rr)])) (fun tZ kZ => st4.trans kZ) ?_
  refine own_by (S' := T4.setTop (mkF m 27 #[.val (.ref r), .val (.int mm), .val (.ref rr)] [])) (fun tZ kZ => XS.astoreN X4.here hx rfl (hb hby d6_26) rfl rfl (l' := #[.val (.ref r), .val (.int mm), .val (.ref rr)]) rfl kZ) ?_
  refine own_by (S' := T4.setTop (mkF m 28 #[.val (.ref r), .val (.int mm), .val (.ref rr)] [(.ref rr)])) (fun tZ kZ => XS.aloadN X4.here hx rfl (hb hby d6_27) rfl rfl kZ) ?_
  exact own_retAV X4 hS4 (Nat.le_refl _) hx Bd.returns rfl rfl (hb hby d6_28) Bd.notSynchronized (by decide) (by decide) ⟨rr, rfl, N4, K4, qs4⟩ trivial
def Q0 (h0 : Heap) (n0 : Nat) (v : Option Value) (h : Heap) (L : List Loc) : Prop := v = some (.int 1) ∧ Fr n0 L
theorem ef_rm0 (m : MethodId) (p1 : Int32) (p2 : Int32) (p3 : Int32) (p4 : Int32) (p5 : Int32) (p6 : Int32) : entryFrame m #[(.int p1), (.int p2), (.int p3), (.int p4), (.int p5), (.int p6)] maxLocals = mkF m 0 #[.val (.int p1), .val (.int p2), .val (.int p3), .val (.int p4), .val (.int p5), .val (.int p6), .unset, .unset, .unset, .unset, .unset, .unset, .unset] [] := by first | (simp [entryFrame, mkF, argsToLocals, Value.category, maxLocals]; done) | rfl
set_option maxRecDepth 65536 in
set_option maxHeartbeats 40000000 in
theorem rm0 (l : Launch) (Z : State) (a0 : Array Value) (hw : ∀ d ∈ tables_1, d.before a0 Z = true) (ws : List Jvm.Cond) (p1 p2 p3 p4 p5 p6 : Int32) (cz : Int32) (fm : Value) (h0 : Heap) (n0 : Nat) (Z0 : n0 ≤ h0.size) (EZ : Ext Z.heap h0) (HC : ∀ q ∈ consts_1, Jvm.Lit.constHeld Z q.1 q.2) (hcw : Jvm.Lit.compactW.before a0 Z = true) (W : OwnW Z h0 cz fm) :
    MetFree l x (head1 (Jvm.Cond.code x code maxLocals ret :: ws) room_1) (fun aZ UZ => aZ = #[(.int p1), (.int p2), (.int p3), (.int p4), (.int p5), (.int p6)] ∧ UZ = Z ∧ UZ.heap = h0) (fun _ _ _ _ _ => True) (fun _ UZ oZ VZ => ∃ vZ LZ, oZ = .returned vZ ∧ (Q0  h0 n0) vZ VZ.heap LZ ∧ ReturnedEndW UZ oZ VZ LZ room_1.cells room_1.slots) := by
  refine MetFree.of_bodySF (plainFor_of_name pn_5) hisR ?_
  intro p e s m args below meth c s₁ Bd hml0 hP hK
  obtain ⟨rfl, hU, hh⟩ := hP
  have hZ : Z.Warmed39 s.vm := by rw [hU]; exact State.Warmed39.refl Z
  have hx := Bd.exec
  have hby := Bd.bytes
  have hml : c.maxLocals = 13 := hml0
  have hown : s.vm.findClass "com/example/idpd/idpd/TextsPrefixPinLaw" = some m.cls := findClass_of_methodNamed Bd.named
  have hnm := (name_of_methodNamed Bd.named Bd.method).1
  have X0 : Stand p l e room_1 (s.setVm s.vm) m #[(.int p1), (.int p2), (.int p3), (.int p4), (.int p5), (.int p6)] below meth c s₁ [] 0 0 := Stand.of_body Bd
  have e0 : s₁.heap = h0 := by rw [← hh, Bd.state]; rfl
  have N0 := Fr.nil n0
  show OwnG p e below (OwnEW s (Q0  h0 n0) room_1.cells room_1.slots) _
  refine own_by (S' := s₁.setTop (mkF m 0 #[.val (.int p1), .val (.int p2), .val (.int p3), .val (.int p4), .val (.int p5), .val (.int p6), .unset, .unset, .unset, .unset, .unset, .unset, .unset] [])) (fun tZ kZ => castTop (ef_rm0 m p1 p2 p3 p4 p5 p6) kZ) ?_
  have hS0 : s.Since s.vm 0 := State.WarmedH.since (State.WarmedH.refl s) 0
  have hk0 : 0 ≤ h0.size := Nat.zero_le _
  have hZ0 : Z.Warmed39 (s.setVm s.vm).vm := hZ
  have hown0 : (s.setVm s.vm).vm.findClass "com/example/idpd/idpd/TextsPrefixPinLaw" = some m.cls := hown
  have hZH0 : Z.WarmedH (s.setVm s.vm).vm := by
    show Z.WarmedH s.vm
    rw [hU]; exact State.WarmedH.refl Z
  obtain ⟨M, hm0⟩ := own_mm p2
  refine own_by (S' := s₁.setTop (mkF m 1 #[.val (.int p1), .val (.int p2), .val (.int p3), .val (.int p4), .val (.int p5), .val (.int p6), .unset, .unset, .unset, .unset, .unset, .unset, .unset] [(.int p1)])) (fun tZ kZ => XS.iloadN X0.here hx rfl (hb hby at_0) rfl kZ) ?_
  refine own_by (S' := s₁.setTop (mkF m 3 #[.val (.int p1), .val (.int p2), .val (.int p3), .val (.int p4), .val (.int p5), .val (.int p6), .unset, .unset, .unset, .unset, .unset, .unset, .unset] [(.int (2147483647 : Int32)), (.int p1)])) (fun tZ kZ => X0.ldcInt hx hown0 (mvT hZ0 (hw_ hw 0 rfl)) (g := (mkF m 1 #[.val (.int p1), .val (.int p2), .val (.int p3), .val (.int p4), .val (.int p5), .val (.int p6), .unset, .unset, .unset, .unset, .unset, .unset, .unset] [(.int p1)])) rfl (hb hby at_1) _ kZ) ?_
  refine own_by (S' := s₁.setTop (mkF m 4 #[.val (.int p1), .val (.int p2), .val (.int p3), .val (.int p4), .val (.int p5), .val (.int p6), .unset, .unset, .unset, .unset, .unset, .unset, .unset] [(.int (p1 &&& (2147483647 : Int32)))])) (fun tZ kZ => XS.iand X0.here hx rfl (hb hby at_3) rfl kZ) ?_
  refine own_by (S' := s₁.setTop (mkF m 5 #[.val (.int p1), .val (.int p2), .val (.int p3), .val (.int p4), .val (.int p5), .val (.int p6), .unset, .unset, .unset, .unset, .unset, .unset, .unset] [(.int (5 : Int32)), (.int (p1 &&& (2147483647 : Int32)))])) (fun tZ kZ => XS.iconst X0.here hx rfl (hb hby at_4) kZ) ?_
  refine own_by (S' := s₁.setTop (mkF m 6 #[.val (.int p1), .val (.int p2), .val (.int p3), .val (.int p4), .val (.int p5), .val (.int p6), .unset, .unset, .unset, .unset, .unset, .unset, .unset] [(.int ((p1 &&& (2147483647 : Int32)) % (5 : Int32)))])) (fun tZ kZ => Jvm.RoadKit.iremM X0 hx rfl (hb hby at_5) rfl (by decide) kZ) ?_
  obtain ⟨vn, hvn⟩ : ∃ z : Int32, z = ((p1 &&& (2147483647 : Int32)) % (5 : Int32)) := ⟨_, rfl⟩
  rw [← hvn]
  refine own_by (S' := s₁.setTop (mkF m 8 #[.val (.int p1), .val (.int p2), .val (.int p3), .val (.int p4), .val (.int p5), .val (.int p6), .val (.int vn), .unset, .unset, .unset, .unset, .unset, .unset] [])) (fun tZ kZ => XS.istore X0.here hx rfl (hb hby at_6) rfl (l' := #[.val (.int p1), .val (.int p2), .val (.int p3), .val (.int p4), .val (.int p5), .val (.int p6), .val (.int vn), .unset, .unset, .unset, .unset, .unset, .unset]) rfl kZ) ?_
  refine own_by (S' := s₁.setTop (mkF m 9 #[.val (.int p1), .val (.int p2), .val (.int p3), .val (.int p4), .val (.int p5), .val (.int p6), .val (.int vn), .unset, .unset, .unset, .unset, .unset, .unset] [(.int p2)])) (fun tZ kZ => XS.iloadN X0.here hx rfl (hb hby at_8) rfl kZ) ?_
  refine own_by (S' := s₁.setTop (mkF m 11 #[.val (.int p1), .val (.int p2), .val (.int p3), .val (.int p4), .val (.int p5), .val (.int p6), .val (.int vn), .unset, .unset, .unset, .unset, .unset, .unset] [(.int (2147483647 : Int32)), (.int p2)])) (fun tZ kZ => X0.ldcInt hx hown0 (mvT hZ0 (hw_ hw 0 rfl)) (g := (mkF m 9 #[.val (.int p1), .val (.int p2), .val (.int p3), .val (.int p4), .val (.int p5), .val (.int p6), .val (.int vn), .unset, .unset, .unset, .unset, .unset, .unset] [(.int p2)])) rfl (hb hby at_9) _ kZ) ?_
  refine own_by (S' := s₁.setTop (mkF m 12 #[.val (.int p1), .val (.int p2), .val (.int p3), .val (.int p4), .val (.int p5), .val (.int p6), .val (.int vn), .unset, .unset, .unset, .unset, .unset, .unset] [(.int (p2 &&& (2147483647 : Int32)))])) (fun tZ kZ => XS.iand X0.here hx rfl (hb hby at_11) rfl kZ) ?_
  obtain ⟨mm, hmm⟩ : ∃ z : Int32, z = (p2 &&& (2147483647 : Int32)) := ⟨_, rfl⟩
  rw [← hmm]
  refine own_by (S' := s₁.setTop (mkF m 14 #[.val (.int p1), .val (.int p2), .val (.int p3), .val (.int p4), .val (.int p5), .val (.int p6), .val (.int vn), .val (.int mm), .unset, .unset, .unset, .unset, .unset] [])) (fun tZ kZ => XS.istore X0.here hx rfl (hb hby at_12) rfl (l' := #[.val (.int p1), .val (.int p2), .val (.int p3), .val (.int p4), .val (.int p5), .val (.int p6), .val (.int vn), .val (.int mm), .unset, .unset, .unset, .unset, .unset]) rfl kZ) ?_
  refine own_by (S' := s₁.setTop (mkF m 15 #[.val (.int p1), .val (.int p2), .val (.int p3), .val (.int p4), .val (.int p5), .val (.int p6), .val (.int vn), .val (.int mm), .unset, .unset, .unset, .unset, .unset] [(.int (4 : Int32))])) (fun tZ kZ => XS.iconst X0.here hx rfl (hb hby at_14) kZ) ?_
  have hm : mm.toInt = M := by rw [hmm]; exact hm0
  obtain ⟨T1, h1, k1, X1, e1, E1, A1, st1⟩ := newP X0 hx hZ0 (hw_ hw 1 rfl) e0 (g := (mkF m 15 #[.val (.int p1), .val (.int p2), .val (.int p3), .val (.int p4), .val (.int p5), .val (.int p6), .val (.int vn), .val (.int mm), .unset, .unset, .unset, .unset, .unset] [(.int (4 : Int32))])) rfl (hb hby at_15) rfl (by decide) (cap := 4) (by decide) (by decide) (by decide) (by decide)
  obtain ⟨b1, g1⟩ : ∃ z, z = h0.size := ⟨_, rfl⟩
  rw [← g1] at A1 st1
  have g_b1 : n0 ≤ b1 := Nat.le_trans Z0 (Nat.le_of_eq g1.symm)
  have sz_b1 : h0.size ≤ b1 := Nat.le_trans (Keep.refl h0 []).1 (Nat.le_of_eq g1.symm)
  have Zs1 : n0 ≤ h1.size := Nat.le_trans Z0 E1.1
  have hk1 := Nat.le_trans hk0 E1.1
  have K1 := (Keep.refl h0 []).ext E1
  have V_b1 := OwnA.new A1
  refine own_by (S' := T1.setTop (mkF m 17 #[.val (.int p1), .val (.int p2), .val (.int p3), .val (.int p4), .val (.int p5), .val (.int p6), .val (.int vn), .val (.int mm), .unset, .unset, .unset, .unset, .unset] [(.ref b1)])) st1 ?_
  have V_b1' : OwnA Z h1 b1 k1 .char [.int 0, .int 0, .int 0, .int 0] := V_b1
  refine own_by (S' := T1.setTop (mkF m 19 #[.val (.int p1), .val (.int p2), .val (.int p3), .val (.int p4), .val (.int p5), .val (.int p6), .val (.int vn), .val (.int mm), .val (.ref b1), .unset, .unset, .unset, .unset] [])) (fun tZ kZ => XS.astore X1.here hx rfl (hb hby at_17) rfl rfl (l' := #[.val (.int p1), .val (.int p2), .val (.int p3), .val (.int p4), .val (.int p5), .val (.int p6), .val (.int vn), .val (.int mm), .val (.ref b1), .unset, .unset, .unset, .unset]) rfl kZ) ?_
  refine own_by (S' := T1.setTop (mkF m 21 #[.val (.int p1), .val (.int p2), .val (.int p3), .val (.int p4), .val (.int p5), .val (.int p6), .val (.int vn), .val (.int mm), .val (.ref b1), .unset, .unset, .unset, .unset] [(.ref b1)])) (fun tZ kZ => XS.aload X1.here hx rfl (hb hby at_19) rfl rfl kZ) ?_
  refine own_by (S' := T1.setTop (mkF m 22 #[.val (.int p1), .val (.int p2), .val (.int p3), .val (.int p4), .val (.int p5), .val (.int p6), .val (.int vn), .val (.int mm), .val (.ref b1), .unset, .unset, .unset, .unset] [(.int (0 : Int32)), (.ref b1)])) (fun tZ kZ => XS.iconst X1.here hx rfl (hb hby at_21) kZ) ?_
  refine own_by (S' := T1.setTop (mkF m 23 #[.val (.int p1), .val (.int p2), .val (.int p3), .val (.int p4), .val (.int p5), .val (.int p6), .val (.int vn), .val (.int mm), .val (.ref b1), .unset, .unset, .unset, .unset] [(.int p3), (.int (0 : Int32)), (.ref b1)])) (fun tZ kZ => XS.iloadN X1.here hx rfl (hb hby at_22) rfl kZ) ?_
  obtain ⟨_, _, ⟨T2, L2, k2, n2⟩, -, X2, ⟨Lc2, hQ2, l2, y2, z2⟩, st2⟩ := Jvm.LawKit.callS X1 hx (y := (⟨"com/example/idpd/idpd/TextsPrefixPinLaw", "draw", "(I)C"⟩ : MethodName)) hown0 (mvT hZ0 (hw_ hw 2 rfl)) (mvT hZ0 (hw_ hw 3 rfl)) (mvT hZ0 (hw_ hw 4 rfl)) (mvT hZ0 (hw_ hw 5 rfl)) (by decide) (backOf (W := 2) (rmDraw l Z a0 hw [] p3 h1 n0 Zs1) hZ0 (hw_ hw 5 rfl) (hw_ hw 4 rfl) (by decide) (by decide)) (g := (mkF m 23 #[.val (.int p1), .val (.int p2), .val (.int p3), .val (.int p4), .val (.int p5), .val (.int p6), .val (.int vn), .val (.int mm), .val (.ref b1), .unset, .unset, .unset, .unset] [(.int p3), (.int (0 : Int32)), (.ref b1)])) rfl (by rw [hml]; rfl) (argsL := [(.int p3)]) (rest := [(.int (0 : Int32)), (.ref b1)]) (lenOf pd_13 rfl) rfl (by show 2 * 0 + _ ≤ _; exact Nat.le_of_eq rfl) (hb hby at_23) (fun _ _ => ⟨rfl, e1, (by decide : 1 + 0 ≤ _), (by decide : 4 + 0 ≤ _)⟩)
  dsimp only [Pt.U, Pt.locs, Pt.cells, Pt.slots] at X2 l2 y2 z2 st2 hQ2
  subst l2 y2 z2
  obtain ⟨u0, rfl, cu0, N2q, heq2⟩ := hQ2
  have N2 := Fr.app N0 N2q
  refine own_by (S' := T2.setTop (mkF m 26 #[.val (.int p1), .val (.int p2), .val (.int p3), .val (.int p4), .val (.int p5), .val (.int p6), .val (.int vn), .val (.int mm), .val (.ref b1), .unset, .unset, .unset, .unset] [(.int u0), (.int (0 : Int32)), (.ref b1)])) (fun tZ kZ => st2 _ kZ) ?_
  obtain ⟨cc3, Ar3, hc3, hl3⟩ := id V_b1'
  have hin3 := OwnA.inb (j := (0 : Int32)) hl3 (by decide) (Nat.le_of_ble_eq_true rfl)
  obtain ⟨T3, h3, X3, e3, W3, st3⟩ := stC X2 hx hZ0 heq2 Ar3 (j := (0 : Int32)) hin3 (g := (mkF m 26 #[.val (.int p1), .val (.int p2), .val (.int p3), .val (.int p4), .val (.int p5), .val (.int p6), .val (.int vn), .val (.int mm), .val (.ref b1), .unset, .unset, .unset, .unset] [(.int u0), (.int (0 : Int32)), (.ref b1)])) rfl rfl (hb hby at_26)
  have N3 := Fr.snoc X3 N2 g_b1
  have Zs3 : n0 ≤ h3.size := Nat.le_trans Zs1 (Keep.of_wr W3).1
  have hk3 := Nat.le_trans hk1 (Keep.of_wr W3).1
  have K3 := K1.wr W3 (Or.inr sz_b1)
  have V_b1_w3 : OwnA Z h3 b1 k1 .char [.int u0, .int 0, .int 0, .int 0] := (by have q := (V_b1'.set W3); rw [own_narc cu0] at q; exact q)
  refine own_by (S' := T3.setTop (mkF m 27 #[.val (.int p1), .val (.int p2), .val (.int p3), .val (.int p4), .val (.int p5), .val (.int p6), .val (.int vn), .val (.int mm), .val (.ref b1), .unset, .unset, .unset, .unset] [])) st3 ?_
  refine own_by (S' := T3.setTop (mkF m 29 #[.val (.int p1), .val (.int p2), .val (.int p3), .val (.int p4), .val (.int p5), .val (.int p6), .val (.int vn), .val (.int mm), .val (.ref b1), .unset, .unset, .unset, .unset] [(.ref b1)])) (fun tZ kZ => XS.aload X3.here hx rfl (hb hby at_27) rfl rfl kZ) ?_
  refine own_by (S' := T3.setTop (mkF m 30 #[.val (.int p1), .val (.int p2), .val (.int p3), .val (.int p4), .val (.int p5), .val (.int p6), .val (.int vn), .val (.int mm), .val (.ref b1), .unset, .unset, .unset, .unset] [(.int (1 : Int32)), (.ref b1)])) (fun tZ kZ => XS.iconst X3.here hx rfl (hb hby at_29) kZ) ?_
  refine own_by (S' := T3.setTop (mkF m 31 #[.val (.int p1), .val (.int p2), .val (.int p3), .val (.int p4), .val (.int p5), .val (.int p6), .val (.int vn), .val (.int mm), .val (.ref b1), .unset, .unset, .unset, .unset] [(.int p4), (.int (1 : Int32)), (.ref b1)])) (fun tZ kZ => XS.iloadN X3.here hx rfl (hb hby at_30) rfl kZ) ?_
  obtain ⟨_, _, ⟨T4, L4, k4, n4⟩, -, X4, ⟨Lc4, hQ4, l4, y4, z4⟩, st4⟩ := Jvm.LawKit.callS X3 hx (y := (⟨"com/example/idpd/idpd/TextsPrefixPinLaw", "draw", "(I)C"⟩ : MethodName)) hown0 (mvT hZ0 (hw_ hw 2 rfl)) (mvT hZ0 (hw_ hw 3 rfl)) (mvT hZ0 (hw_ hw 4 rfl)) (mvT hZ0 (hw_ hw 5 rfl)) (by decide) (backOf (W := 2) (rmDraw l Z a0 hw [] p4 h3 n0 Zs3) hZ0 (hw_ hw 5 rfl) (hw_ hw 4 rfl) (by decide) (by decide)) (g := (mkF m 31 #[.val (.int p1), .val (.int p2), .val (.int p3), .val (.int p4), .val (.int p5), .val (.int p6), .val (.int vn), .val (.int mm), .val (.ref b1), .unset, .unset, .unset, .unset] [(.int p4), (.int (1 : Int32)), (.ref b1)])) rfl (by rw [hml]; rfl) (argsL := [(.int p4)]) (rest := [(.int (1 : Int32)), (.ref b1)]) (lenOf pd_13 rfl) rfl (by show 2 * 0 + _ ≤ _; exact Nat.le_of_eq rfl) (hb hby at_31) (fun _ _ => ⟨rfl, e3, (by decide : 1 + 0 ≤ _), (by decide : 4 + 0 ≤ _)⟩)
  dsimp only [Pt.U, Pt.locs, Pt.cells, Pt.slots] at X4 l4 y4 z4 st4 hQ4
  subst l4 y4 z4
  obtain ⟨u1, rfl, cu1, N4q, heq4⟩ := hQ4
  have N4 := Fr.app N3 N4q
  refine own_by (S' := T4.setTop (mkF m 34 #[.val (.int p1), .val (.int p2), .val (.int p3), .val (.int p4), .val (.int p5), .val (.int p6), .val (.int vn), .val (.int mm), .val (.ref b1), .unset, .unset, .unset, .unset] [(.int u1), (.int (1 : Int32)), (.ref b1)])) (fun tZ kZ => st4 _ kZ) ?_
  obtain ⟨cc5, Ar5, hc5, hl5⟩ := id V_b1_w3
  have hin5 := OwnA.inb (j := (1 : Int32)) hl5 (by decide) (Nat.le_of_ble_eq_true rfl)
  obtain ⟨T5, h5, X5, e5, W5, st5⟩ := stC X4 hx hZ0 heq4 Ar5 (j := (1 : Int32)) hin5 (g := (mkF m 34 #[.val (.int p1), .val (.int p2), .val (.int p3), .val (.int p4), .val (.int p5), .val (.int p6), .val (.int vn), .val (.int mm), .val (.ref b1), .unset, .unset, .unset, .unset] [(.int u1), (.int (1 : Int32)), (.ref b1)])) rfl rfl (hb hby at_34)
  have N5 := Fr.snoc X5 N4 g_b1
  have Zs5 : n0 ≤ h5.size := Nat.le_trans Zs3 (Keep.of_wr W5).1
  have hk5 := Nat.le_trans hk3 (Keep.of_wr W5).1
  have K5 := K3.wr W5 (Or.inr sz_b1)
  have V_b1_w5 : OwnA Z h5 b1 k1 .char [.int u0, .int u1, .int 0, .int 0] := (by have q := (V_b1_w3.set W5); rw [own_narc cu1] at q; exact q)
  refine own_by (S' := T5.setTop (mkF m 35 #[.val (.int p1), .val (.int p2), .val (.int p3), .val (.int p4), .val (.int p5), .val (.int p6), .val (.int vn), .val (.int mm), .val (.ref b1), .unset, .unset, .unset, .unset] [])) st5 ?_
  refine own_by (S' := T5.setTop (mkF m 37 #[.val (.int p1), .val (.int p2), .val (.int p3), .val (.int p4), .val (.int p5), .val (.int p6), .val (.int vn), .val (.int mm), .val (.ref b1), .unset, .unset, .unset, .unset] [(.ref b1)])) (fun tZ kZ => XS.aload X5.here hx rfl (hb hby at_35) rfl rfl kZ) ?_
  refine own_by (S' := T5.setTop (mkF m 38 #[.val (.int p1), .val (.int p2), .val (.int p3), .val (.int p4), .val (.int p5), .val (.int p6), .val (.int vn), .val (.int mm), .val (.ref b1), .unset, .unset, .unset, .unset] [(.int (2 : Int32)), (.ref b1)])) (fun tZ kZ => XS.iconst X5.here hx rfl (hb hby at_37) kZ) ?_
  refine own_by (S' := T5.setTop (mkF m 40 #[.val (.int p1), .val (.int p2), .val (.int p3), .val (.int p4), .val (.int p5), .val (.int p6), .val (.int vn), .val (.int mm), .val (.ref b1), .unset, .unset, .unset, .unset] [(.int p5), (.int (2 : Int32)), (.ref b1)])) (fun tZ kZ => XS.iload X5.here hx rfl (hb hby at_38) rfl kZ) ?_
  obtain ⟨_, _, ⟨T6, L6, k6, n6⟩, -, X6, ⟨Lc6, hQ6, l6, y6, z6⟩, st6⟩ := Jvm.LawKit.callS X5 hx (y := (⟨"com/example/idpd/idpd/TextsPrefixPinLaw", "draw", "(I)C"⟩ : MethodName)) hown0 (mvT hZ0 (hw_ hw 2 rfl)) (mvT hZ0 (hw_ hw 3 rfl)) (mvT hZ0 (hw_ hw 4 rfl)) (mvT hZ0 (hw_ hw 5 rfl)) (by decide) (backOf (W := 2) (rmDraw l Z a0 hw [] p5 h5 n0 Zs5) hZ0 (hw_ hw 5 rfl) (hw_ hw 4 rfl) (by decide) (by decide)) (g := (mkF m 40 #[.val (.int p1), .val (.int p2), .val (.int p3), .val (.int p4), .val (.int p5), .val (.int p6), .val (.int vn), .val (.int mm), .val (.ref b1), .unset, .unset, .unset, .unset] [(.int p5), (.int (2 : Int32)), (.ref b1)])) rfl (by rw [hml]; rfl) (argsL := [(.int p5)]) (rest := [(.int (2 : Int32)), (.ref b1)]) (lenOf pd_13 rfl) rfl (by show 2 * 0 + _ ≤ _; exact Nat.le_of_eq rfl) (hb hby at_40) (fun _ _ => ⟨rfl, e5, (by decide : 1 + 0 ≤ _), (by decide : 4 + 0 ≤ _)⟩)
  dsimp only [Pt.U, Pt.locs, Pt.cells, Pt.slots] at X6 l6 y6 z6 st6 hQ6
  subst l6 y6 z6
  obtain ⟨u2, rfl, cu2, N6q, heq6⟩ := hQ6
  have N6 := Fr.app N5 N6q
  refine own_by (S' := T6.setTop (mkF m 43 #[.val (.int p1), .val (.int p2), .val (.int p3), .val (.int p4), .val (.int p5), .val (.int p6), .val (.int vn), .val (.int mm), .val (.ref b1), .unset, .unset, .unset, .unset] [(.int u2), (.int (2 : Int32)), (.ref b1)])) (fun tZ kZ => st6 _ kZ) ?_
  obtain ⟨cc7, Ar7, hc7, hl7⟩ := id V_b1_w5
  have hin7 := OwnA.inb (j := (2 : Int32)) hl7 (by decide) (Nat.le_of_ble_eq_true rfl)
  obtain ⟨T7, h7, X7, e7, W7, st7⟩ := stC X6 hx hZ0 heq6 Ar7 (j := (2 : Int32)) hin7 (g := (mkF m 43 #[.val (.int p1), .val (.int p2), .val (.int p3), .val (.int p4), .val (.int p5), .val (.int p6), .val (.int vn), .val (.int mm), .val (.ref b1), .unset, .unset, .unset, .unset] [(.int u2), (.int (2 : Int32)), (.ref b1)])) rfl rfl (hb hby at_43)
  have N7 := Fr.snoc X7 N6 g_b1
  have Zs7 : n0 ≤ h7.size := Nat.le_trans Zs5 (Keep.of_wr W7).1
  have hk7 := Nat.le_trans hk5 (Keep.of_wr W7).1
  have K7 := K5.wr W7 (Or.inr sz_b1)
  have V_b1_w7 : OwnA Z h7 b1 k1 .char [.int u0, .int u1, .int u2, .int 0] := (by have q := (V_b1_w5.set W7); rw [own_narc cu2] at q; exact q)
  refine own_by (S' := T7.setTop (mkF m 44 #[.val (.int p1), .val (.int p2), .val (.int p3), .val (.int p4), .val (.int p5), .val (.int p6), .val (.int vn), .val (.int mm), .val (.ref b1), .unset, .unset, .unset, .unset] [])) st7 ?_
  refine own_by (S' := T7.setTop (mkF m 46 #[.val (.int p1), .val (.int p2), .val (.int p3), .val (.int p4), .val (.int p5), .val (.int p6), .val (.int vn), .val (.int mm), .val (.ref b1), .unset, .unset, .unset, .unset] [(.ref b1)])) (fun tZ kZ => XS.aload X7.here hx rfl (hb hby at_44) rfl rfl kZ) ?_
  refine own_by (S' := T7.setTop (mkF m 47 #[.val (.int p1), .val (.int p2), .val (.int p3), .val (.int p4), .val (.int p5), .val (.int p6), .val (.int vn), .val (.int mm), .val (.ref b1), .unset, .unset, .unset, .unset] [(.int (3 : Int32)), (.ref b1)])) (fun tZ kZ => XS.iconst X7.here hx rfl (hb hby at_46) kZ) ?_
  refine own_by (S' := T7.setTop (mkF m 49 #[.val (.int p1), .val (.int p2), .val (.int p3), .val (.int p4), .val (.int p5), .val (.int p6), .val (.int vn), .val (.int mm), .val (.ref b1), .unset, .unset, .unset, .unset] [(.int p6), (.int (3 : Int32)), (.ref b1)])) (fun tZ kZ => XS.iload X7.here hx rfl (hb hby at_47) rfl kZ) ?_
  obtain ⟨_, _, ⟨T8, L8, k8, n8⟩, -, X8, ⟨Lc8, hQ8, l8, y8, z8⟩, st8⟩ := Jvm.LawKit.callS X7 hx (y := (⟨"com/example/idpd/idpd/TextsPrefixPinLaw", "draw", "(I)C"⟩ : MethodName)) hown0 (mvT hZ0 (hw_ hw 2 rfl)) (mvT hZ0 (hw_ hw 3 rfl)) (mvT hZ0 (hw_ hw 4 rfl)) (mvT hZ0 (hw_ hw 5 rfl)) (by decide) (backOf (W := 2) (rmDraw l Z a0 hw [] p6 h7 n0 Zs7) hZ0 (hw_ hw 5 rfl) (hw_ hw 4 rfl) (by decide) (by decide)) (g := (mkF m 49 #[.val (.int p1), .val (.int p2), .val (.int p3), .val (.int p4), .val (.int p5), .val (.int p6), .val (.int vn), .val (.int mm), .val (.ref b1), .unset, .unset, .unset, .unset] [(.int p6), (.int (3 : Int32)), (.ref b1)])) rfl (by rw [hml]; rfl) (argsL := [(.int p6)]) (rest := [(.int (3 : Int32)), (.ref b1)]) (lenOf pd_13 rfl) rfl (by show 2 * 0 + _ ≤ _; exact Nat.le_of_eq rfl) (hb hby at_49) (fun _ _ => ⟨rfl, e7, (by decide : 1 + 0 ≤ _), (by decide : 4 + 0 ≤ _)⟩)
  dsimp only [Pt.U, Pt.locs, Pt.cells, Pt.slots] at X8 l8 y8 z8 st8 hQ8
  subst l8 y8 z8
  obtain ⟨u3, rfl, cu3, N8q, heq8⟩ := hQ8
  have N8 := Fr.app N7 N8q
  refine own_by (S' := T8.setTop (mkF m 52 #[.val (.int p1), .val (.int p2), .val (.int p3), .val (.int p4), .val (.int p5), .val (.int p6), .val (.int vn), .val (.int mm), .val (.ref b1), .unset, .unset, .unset, .unset] [(.int u3), (.int (3 : Int32)), (.ref b1)])) (fun tZ kZ => st8 _ kZ) ?_
  obtain ⟨cc9, Ar9, hc9, hl9⟩ := id V_b1_w7
  have hin9 := OwnA.inb (j := (3 : Int32)) hl9 (by decide) (Nat.le_of_ble_eq_true rfl)
  obtain ⟨T9, h9, X9, e9, W9, st9⟩ := stC X8 hx hZ0 heq8 Ar9 (j := (3 : Int32)) hin9 (g := (mkF m 52 #[.val (.int p1), .val (.int p2), .val (.int p3), .val (.int p4), .val (.int p5), .val (.int p6), .val (.int vn), .val (.int mm), .val (.ref b1), .unset, .unset, .unset, .unset] [(.int u3), (.int (3 : Int32)), (.ref b1)])) rfl rfl (hb hby at_52)
  have N9 := Fr.snoc X9 N8 g_b1
  have Zs9 : n0 ≤ h9.size := Nat.le_trans Zs7 (Keep.of_wr W9).1
  have hk9 := Nat.le_trans hk7 (Keep.of_wr W9).1
  have K9 := K7.wr W9 (Or.inr sz_b1)
  have V_b1_w9 : OwnA Z h9 b1 k1 .char [.int u0, .int u1, .int u2, .int u3] := (by have q := (V_b1_w7.set W9); rw [own_narc cu3] at q; exact q)
  refine own_by (S' := T9.setTop (mkF m 53 #[.val (.int p1), .val (.int p2), .val (.int p3), .val (.int p4), .val (.int p5), .val (.int p6), .val (.int vn), .val (.int mm), .val (.ref b1), .unset, .unset, .unset, .unset] [])) st9 ?_
  obtain ⟨us4, hus4⟩ : ∃ z, z = [u0, u1, u2, u3] := ⟨_, rfl⟩
  have V_c4 : OwnA Z h9 b1 k1 .char (cV [u0, u1, u2, u3]) := V_b1_w9
  have cu4 := own_hus4 cu0 cu1 cu2 cu3
  rw [← hus4] at V_c4 cu4
  have hl4 : us4.length = 4 := by rw [hus4]; rfl
  refine own_by (S' := T9.setTop (mkF m 55 #[.val (.int p1), .val (.int p2), .val (.int p3), .val (.int p4), .val (.int p5), .val (.int p6), .val (.int vn), .val (.int mm), .val (.ref b1), .unset, .unset, .unset, .unset] [(.int vn)])) (fun tZ kZ => XS.iload X9.here hx rfl (hb hby at_53) rfl kZ) ?_
  refine own_by (S' := T9.setTop (mkF m 57 #[.val (.int p1), .val (.int p2), .val (.int p3), .val (.int p4), .val (.int p5), .val (.int p6), .val (.int vn), .val (.int mm), .val (.ref b1), .unset, .unset, .unset, .unset] [(.ref b1), (.int vn)])) (fun tZ kZ => XS.aload X9.here hx rfl (hb hby at_55) rfl rfl kZ) ?_
  have J170 : ∀ (Tj10 : State) (Lj10 : List Loc) (hj10 : Heap) (vmj10 : Vm) (nj10 : Nat) (nn : Int32) (N : Nat) (r0 rr : Addr) (ev : Int32) (E : Nat) (Xj10 : Stand p l e room_1 (s.setVm vmj10) m #[(.int p1), (.int p2), (.int p3), (.int p4), (.int p5), (.int p6)] below meth c Tj10 Lj10 28 2400) (ej10 : Tj10.heap = hj10) (Nj10 : Fr n0 Lj10) (Kj10 : Keep h0 hj10 []) (hSj10 : s.Since vmj10 nj10) (hkj10 : nj10 ≤ hj10.size) (hZj10 : Z.Warmed39 (s.setVm vmj10).vm) (hownj10 : (s.setVm vmj10).vm.findClass "com/example/idpd/idpd/TextsPrefixPinLaw" = some m.cls) (hnn : nn.toInt = N) (hN : N ≤ 4) (hev : ev.toInt = E) (hEN : E ≤ N) (V_cj : OwnA Z hj10 b1 k1 .char (cV us4)) (Sj : OwnStr Z hj10 rr (us4.take E)) (Wj : OwnW Z hj10 cz fm), OwnG p e below (OwnEW s (Q0  h0 n0) room_1.cells room_1.slots) (Tj10.setTop (mkF m 170 #[.val (.int p1), .val (.int p2), .val (.int p3), .val (.int p4), .val (.int p5), .val (.int p6), .val (.int nn), .val (.int mm), .val (.ref b1), .val (.ref r0), .val (.int ev), .val (.ref rr), .unset] [])) := by
    intro Tj10 Lj10 hj10 vmj10 nj10 nn N r0 rr ev E Xj10 ej10 Nj10 Kj10 hSj10 hkj10 hZj10 hownj10 hnn hN hev hEN V_cj Sj Wj
    have hlE : (us4.take E).length = E := by rw [List.length_take]; omega
    have hlj : (us4.take E).length ≤ 4 := by omega
    refine own_by (S' := Tj10.setTop (mkF m 172 #[.val (.int p1), .val (.int p2), .val (.int p3), .val (.int p4), .val (.int p5), .val (.int p6), .val (.int nn), .val (.int mm), .val (.ref b1), .val (.ref r0), .val (.int ev), .val (.ref rr), .unset] [(.ref rr)])) (fun tZ kZ => XS.aload Xj10.here hx rfl (hb hby at_170) rfl rfl kZ) ?_
    refine own_by (S' := Tj10.setTop (mkF m 175 #[.val (.int p1), .val (.int p2), .val (.int p3), .val (.int p4), .val (.int p5), .val (.int p6), .val (.int nn), .val (.int mm), .val (.ref b1), .val (.ref r0), .val (.int ev), .val (.ref rr), .unset] [])) (fun tZ kZ => XS.ifnullNo Xj10.here hx rfl (hb hby at_172) rfl kZ) ?_
    refine own_by (S' := Tj10.setTop (mkF m 177 #[.val (.int p1), .val (.int p2), .val (.int p3), .val (.int p4), .val (.int p5), .val (.int p6), .val (.int nn), .val (.int mm), .val (.ref b1), .val (.ref r0), .val (.int ev), .val (.ref rr), .unset] [(.ref rr)])) (fun tZ kZ => XS.aload Xj10.here hx rfl (hb hby at_175) rfl rfl kZ) ?_
    obtain ⟨cq11, kq11, q11a, q11b, q11c⟩ := isOf hZj10 ej10 Sj.1
    obtain ⟨_, _, ⟨T11, L11, k11, n11⟩, -, X11, ⟨Lc11, hQ11, l11, y11, z11⟩, st11⟩ := Xj10.virtualBack hx (y := (⟨"java/lang/String", "length", "()I"⟩ : MethodName)) (z := (⟨"java/lang/String", "length", "()I"⟩ : MethodName)) hownj10 (mvT hZj10 (hw_ hw 67 rfl)) (mvT hZj10 (hw_ hw 38 rfl)) (notFace_of_selects (args := #[]) (mvT hZj10 (hw_ hw 40 rfl))) (mvT hZj10 (hw_ hw 40 rfl)) (mvT hZj10 (hw_ hw 39 rfl)) (by decide) (backOf (W := 0) (rmLen l Z a0 hw [] rr (us4.take E) ev cz fm hj10 n0 (Nat.le_trans Z0 Kj10.1) (by rw [hlE]; exact hev) Sj hlj Wj) hZj10 (hw_ hw 41 rfl) (hw_ hw 14 rfl) (by decide) (by decide)) q11a q11c (g := (mkF m 177 #[.val (.int p1), .val (.int p2), .val (.int p3), .val (.int p4), .val (.int p5), .val (.int p6), .val (.int nn), .val (.int mm), .val (.ref b1), .val (.ref r0), .val (.int ev), .val (.ref rr), .unset] [(.ref rr)])) rfl (by rw [hml]; rfl) (Steps.refl _) (argsL := []) (rest := []) (lenOf pd_10 rfl) rfl (by show 2 * 0 + _ ≤ _; exact Nat.le_of_eq rfl) (hb hby at_177) (fun _ _ => ⟨rfl, ej10, (by decide : 28 + 0 ≤ _), (by decide : 2400 + 0 ≤ _)⟩)
    dsimp only [Pt.U, Pt.locs, Pt.cells, Pt.slots] at X11 l11 y11 z11 st11 hQ11
    subst l11 y11 z11
    obtain ⟨rfl, N11q, heq11⟩ := hQ11
    have N11 := Fr.app Nj10 N11q
    refine own_by (S' := T11.setTop (mkF m 180 #[.val (.int p1), .val (.int p2), .val (.int p3), .val (.int p4), .val (.int p5), .val (.int p6), .val (.int nn), .val (.int mm), .val (.ref b1), .val (.ref r0), .val (.int ev), .val (.ref rr), .unset] [(.int ev)])) (fun tZ kZ => st11.trans kZ) ?_
    refine own_by (S' := T11.setTop (mkF m 182 #[.val (.int p1), .val (.int p2), .val (.int p3), .val (.int p4), .val (.int p5), .val (.int p6), .val (.int nn), .val (.int mm), .val (.ref b1), .val (.ref r0), .val (.int ev), .val (.ref rr), .unset] [(.int ev), (.int ev)])) (fun tZ kZ => XS.iload X11.here hx rfl (hb hby at_180) rfl kZ) ?_
    refine own_by (S' := T11.setTop (mkF m 187 #[.val (.int p1), .val (.int p2), .val (.int p3), .val (.int p4), .val (.int p5), .val (.int p6), .val (.int nn), .val (.int mm), .val (.ref b1), .val (.ref r0), .val (.int ev), .val (.ref rr), .unset] [])) (fun tZ kZ => XS.icmpYes X11.here hx rfl (pc0 := 182) (pc' := 187) rfl (hb hby at_182) rfl (teq rfl).1 (by decide) (by decide) kZ) ?_
    refine own_by (S' := T11.setTop (mkF m 188 #[.val (.int p1), .val (.int p2), .val (.int p3), .val (.int p4), .val (.int p5), .val (.int p6), .val (.int nn), .val (.int mm), .val (.ref b1), .val (.ref r0), .val (.int ev), .val (.ref rr), .unset] [(.int (1 : Int32))])) (fun tZ kZ => XS.iconst X11.here hx rfl (hb hby at_187) kZ) ?_
    refine own_by (S' := T11.setTop (mkF m 190 #[.val (.int p1), .val (.int p2), .val (.int p3), .val (.int p4), .val (.int p5), .val (.int p6), .val (.int nn), .val (.int mm), .val (.ref b1), .val (.ref r0), .val (.int ev), .val (.ref rr), .val (.int (1 : Int32))] [])) (fun tZ kZ => XS.istore X11.here hx rfl (hb hby at_188) rfl (l' := #[.val (.int p1), .val (.int p2), .val (.int p3), .val (.int p4), .val (.int p5), .val (.int p6), .val (.int nn), .val (.int mm), .val (.ref b1), .val (.ref r0), .val (.int ev), .val (.ref rr), .val (.int (1 : Int32))]) rfl kZ) ?_
    refine own_by (S' := T11.setTop (mkF m 192 #[.val (.int p1), .val (.int p2), .val (.int p3), .val (.int p4), .val (.int p5), .val (.int p6), .val (.int nn), .val (.int mm), .val (.ref b1), .val (.ref r0), .val (.int ev), .val (.ref rr), .val (.int (1 : Int32))] [(.int ev)])) (fun tZ kZ => XS.iload X11.here hx rfl (hb hby at_190) rfl kZ) ?_
    by_cases dq0 : (0 : Int32) < ev
    · refine own_by (S' := T11.setTop (mkF m 195 #[.val (.int p1), .val (.int p2), .val (.int p3), .val (.int p4), .val (.int p5), .val (.int p6), .val (.int nn), .val (.int mm), .val (.ref b1), .val (.ref r0), .val (.int ev), .val (.ref rr), .val (.int (1 : Int32))] [])) (fun tZ kZ => XS.ifNo X11.here hx rfl (hb hby at_192) rfl ((if0 _ _).trans (tlt dq0).2.2.2) kZ) ?_
      have dx0 := (own_lt (a := 0) rfl hev).mp dq0
      obtain ⟨w0, hw0, hwm0⟩ := own_getq (us := us4) (k := 0) (by omega)
      refine own_by (S' := T11.setTop (mkF m 197 #[.val (.int p1), .val (.int p2), .val (.int p3), .val (.int p4), .val (.int p5), .val (.int p6), .val (.int nn), .val (.int mm), .val (.ref b1), .val (.ref r0), .val (.int ev), .val (.ref rr), .val (.int (1 : Int32))] [(.int (1 : Int32))])) (fun tZ kZ => XS.iload X11.here hx rfl (hb hby at_195) rfl kZ) ?_
      refine own_by (S' := T11.setTop (mkF m 200 #[.val (.int p1), .val (.int p2), .val (.int p3), .val (.int p4), .val (.int p5), .val (.int p6), .val (.int nn), .val (.int mm), .val (.ref b1), .val (.ref r0), .val (.int ev), .val (.ref rr), .val (.int (1 : Int32))] [])) (fun tZ kZ => XS.ifNo X11.here hx rfl (hb hby at_197) rfl ((if0 _ _).trans (feq (by decide)).1) kZ) ?_
      refine own_by (S' := T11.setTop (mkF m 202 #[.val (.int p1), .val (.int p2), .val (.int p3), .val (.int p4), .val (.int p5), .val (.int p6), .val (.int nn), .val (.int mm), .val (.ref b1), .val (.ref r0), .val (.int ev), .val (.ref rr), .val (.int (1 : Int32))] [(.ref rr)])) (fun tZ kZ => XS.aload X11.here hx rfl (hb hby at_200) rfl rfl kZ) ?_
      refine own_by (S' := T11.setTop (mkF m 203 #[.val (.int p1), .val (.int p2), .val (.int p3), .val (.int p4), .val (.int p5), .val (.int p6), .val (.int nn), .val (.int mm), .val (.ref b1), .val (.ref r0), .val (.int ev), .val (.ref rr), .val (.int (1 : Int32))] [(.int (0 : Int32)), (.ref rr)])) (fun tZ kZ => XS.iconst X11.here hx rfl (hb hby at_202) kZ) ?_
      obtain ⟨cq12, kq12, q12a, q12b, q12c⟩ := isOf hZj10 heq11 Sj.1
      obtain ⟨_, _, ⟨T12, L12, k12, n12⟩, -, X12, ⟨Lc12, hQ12, l12, y12, z12⟩, st12⟩ := X11.virtualBack hx (y := (⟨"java/lang/String", "charAt", "(I)C"⟩ : MethodName)) (z := (⟨"java/lang/String", "charAt", "(I)C"⟩ : MethodName)) hownj10 (mvT hZj10 (hw_ hw 114 rfl)) (mvT hZj10 (hw_ hw 115 rfl)) (notFace_of_selects (args := #[]) (mvT hZj10 (hw_ hw 117 rfl))) (mvT hZj10 (hw_ hw 117 rfl)) (mvT hZj10 (hw_ hw 116 rfl)) (by decide) (backOf (W := 0) (rmCh l Z a0 hw [] rr (us4.take E) (0 : Int32) 0 w0 cz fm hj10 n0 (Nat.le_trans Z0 Kj10.1) Sj hlj Wj rfl (by rw [List.getElem?_take, if_pos dx0]; exact hw0) (cu4 _ hwm0)) hZj10 (hw_ hw 118 rfl) (hw_ hw 14 rfl) (by decide) (by decide)) q12a q12c (g := (mkF m 203 #[.val (.int p1), .val (.int p2), .val (.int p3), .val (.int p4), .val (.int p5), .val (.int p6), .val (.int nn), .val (.int mm), .val (.ref b1), .val (.ref r0), .val (.int ev), .val (.ref rr), .val (.int (1 : Int32))] [(.int (0 : Int32)), (.ref rr)])) rfl (by rw [hml]; rfl) (Steps.refl _) (argsL := [(.int (0 : Int32))]) (rest := []) (lenOf pd_13 rfl) rfl (by show 2 * 0 + _ ≤ _; exact Nat.le_of_eq rfl) (hb hby at_203) (fun _ _ => ⟨rfl, heq11, (by decide : 28 + 0 ≤ _), (by decide : 2400 + 0 ≤ _)⟩)
      dsimp only [Pt.U, Pt.locs, Pt.cells, Pt.slots] at X12 l12 y12 z12 st12 hQ12
      subst l12 y12 z12
      obtain ⟨rfl, N12q, heq12⟩ := hQ12
      have N12 := Fr.app N11 N12q
      refine own_by (S' := T12.setTop (mkF m 206 #[.val (.int p1), .val (.int p2), .val (.int p3), .val (.int p4), .val (.int p5), .val (.int p6), .val (.int nn), .val (.int mm), .val (.ref b1), .val (.ref r0), .val (.int ev), .val (.ref rr), .val (.int (1 : Int32))] [(.int w0)])) (fun tZ kZ => st12.trans kZ) ?_
      refine own_by (S' := T12.setTop (mkF m 208 #[.val (.int p1), .val (.int p2), .val (.int p3), .val (.int p4), .val (.int p5), .val (.int p6), .val (.int nn), .val (.int mm), .val (.ref b1), .val (.ref r0), .val (.int ev), .val (.ref rr), .val (.int (1 : Int32))] [(.ref b1), (.int w0)])) (fun tZ kZ => XS.aload X12.here hx rfl (hb hby at_206) rfl rfl kZ) ?_
      refine own_by (S' := T12.setTop (mkF m 209 #[.val (.int p1), .val (.int p2), .val (.int p3), .val (.int p4), .val (.int p5), .val (.int p6), .val (.int nn), .val (.int mm), .val (.ref b1), .val (.ref r0), .val (.int ev), .val (.ref rr), .val (.int (1 : Int32))] [(.int (0 : Int32)), (.ref b1), (.int w0)])) (fun tZ kZ => XS.iconst X12.here hx rfl (hb hby at_208) kZ) ?_
      obtain ⟨cc13, Ar13, hc13, hl13⟩ := id V_cj
      refine own_by (S' := T12.setTop (mkF m 210 #[.val (.int p1), .val (.int p2), .val (.int p3), .val (.int p4), .val (.int p5), .val (.int p6), .val (.int nn), .val (.int mm), .val (.ref b1), .val (.ref r0), .val (.int ev), .val (.ref rr), .val (.int (1 : Int32))] [(.int w0), (.int w0)])) (fun tZ kZ => X12.caload hx (j := (0 : Int32)) (v := (.int w0)) (by rw [heq12]; exact Ar13.1) (State.isArrayOf_alike hZj10.alike Ar13.2.1) Ar13.2.2 (OwnA.inb (j := (0 : Int32)) hl13 (by decide) (by rw [cV_len, hl4]; decide)) (OwnA.at (j := (0 : Int32)) hl13 (cV_at hw0)) (g := (mkF m 209 #[.val (.int p1), .val (.int p2), .val (.int p3), .val (.int p4), .val (.int p5), .val (.int p6), .val (.int nn), .val (.int mm), .val (.ref b1), .val (.ref r0), .val (.int ev), .val (.ref rr), .val (.int (1 : Int32))] [(.int (0 : Int32)), (.ref b1), (.int w0)])) rfl rfl (hb hby at_209) _ kZ) ?_
      refine own_by (S' := T12.setTop (mkF m 213 #[.val (.int p1), .val (.int p2), .val (.int p3), .val (.int p4), .val (.int p5), .val (.int p6), .val (.int nn), .val (.int mm), .val (.ref b1), .val (.ref r0), .val (.int ev), .val (.ref rr), .val (.int (1 : Int32))] [])) (fun tZ kZ => XS.icmpNo X12.here hx rfl (hb hby at_210) rfl (teq rfl).2 kZ) ?_
      refine own_by (S' := T12.setTop (mkF m 214 #[.val (.int p1), .val (.int p2), .val (.int p3), .val (.int p4), .val (.int p5), .val (.int p6), .val (.int nn), .val (.int mm), .val (.ref b1), .val (.ref r0), .val (.int ev), .val (.ref rr), .val (.int (1 : Int32))] [(.int (1 : Int32))])) (fun tZ kZ => XS.iconst X12.here hx rfl (hb hby at_213) kZ) ?_
      refine own_by (S' := T12.setTop (mkF m 218 #[.val (.int p1), .val (.int p2), .val (.int p3), .val (.int p4), .val (.int p5), .val (.int p6), .val (.int nn), .val (.int mm), .val (.ref b1), .val (.ref r0), .val (.int ev), .val (.ref rr), .val (.int (1 : Int32))] [(.int (1 : Int32))])) (fun tZ kZ => XS.goto X12.here hx rfl (pc0 := 214) (pc' := 218) rfl (hb hby at_214) (by decide) (by decide) kZ) ?_
      refine own_by (S' := T12.setTop (mkF m 220 #[.val (.int p1), .val (.int p2), .val (.int p3), .val (.int p4), .val (.int p5), .val (.int p6), .val (.int nn), .val (.int mm), .val (.ref b1), .val (.ref r0), .val (.int ev), .val (.ref rr), .val (.int (1 : Int32))] [])) (fun tZ kZ => XS.istore X12.here hx rfl (hb hby at_218) rfl (l' := #[.val (.int p1), .val (.int p2), .val (.int p3), .val (.int p4), .val (.int p5), .val (.int p6), .val (.int nn), .val (.int mm), .val (.ref b1), .val (.ref r0), .val (.int ev), .val (.ref rr), .val (.int (1 : Int32))]) rfl kZ) ?_
      refine own_by (S' := T12.setTop (mkF m 222 #[.val (.int p1), .val (.int p2), .val (.int p3), .val (.int p4), .val (.int p5), .val (.int p6), .val (.int nn), .val (.int mm), .val (.ref b1), .val (.ref r0), .val (.int ev), .val (.ref rr), .val (.int (1 : Int32))] [(.int ev)])) (fun tZ kZ => XS.iload X12.here hx rfl (hb hby at_220) rfl kZ) ?_
      refine own_by (S' := T12.setTop (mkF m 223 #[.val (.int p1), .val (.int p2), .val (.int p3), .val (.int p4), .val (.int p5), .val (.int p6), .val (.int nn), .val (.int mm), .val (.ref b1), .val (.ref r0), .val (.int ev), .val (.ref rr), .val (.int (1 : Int32))] [(.int (1 : Int32)), (.int ev)])) (fun tZ kZ => XS.iconst X12.here hx rfl (hb hby at_222) kZ) ?_
      by_cases dq1 : (1 : Int32) < ev
      · refine own_by (S' := T12.setTop (mkF m 226 #[.val (.int p1), .val (.int p2), .val (.int p3), .val (.int p4), .val (.int p5), .val (.int p6), .val (.int nn), .val (.int mm), .val (.ref b1), .val (.ref r0), .val (.int ev), .val (.ref rr), .val (.int (1 : Int32))] [])) (fun tZ kZ => XS.icmpNo X12.here hx rfl (hb hby at_223) rfl (tlt dq1).2.2.2 kZ) ?_
        have dx1 := (own_lt (a := 1) rfl hev).mp dq1
        obtain ⟨w1, hw1, hwm1⟩ := own_getq (us := us4) (k := 1) (by omega)
        refine own_by (S' := T12.setTop (mkF m 228 #[.val (.int p1), .val (.int p2), .val (.int p3), .val (.int p4), .val (.int p5), .val (.int p6), .val (.int nn), .val (.int mm), .val (.ref b1), .val (.ref r0), .val (.int ev), .val (.ref rr), .val (.int (1 : Int32))] [(.int (1 : Int32))])) (fun tZ kZ => XS.iload X12.here hx rfl (hb hby at_226) rfl kZ) ?_
        refine own_by (S' := T12.setTop (mkF m 231 #[.val (.int p1), .val (.int p2), .val (.int p3), .val (.int p4), .val (.int p5), .val (.int p6), .val (.int nn), .val (.int mm), .val (.ref b1), .val (.ref r0), .val (.int ev), .val (.ref rr), .val (.int (1 : Int32))] [])) (fun tZ kZ => XS.ifNo X12.here hx rfl (hb hby at_228) rfl ((if0 _ _).trans (feq (by decide)).1) kZ) ?_
        refine own_by (S' := T12.setTop (mkF m 233 #[.val (.int p1), .val (.int p2), .val (.int p3), .val (.int p4), .val (.int p5), .val (.int p6), .val (.int nn), .val (.int mm), .val (.ref b1), .val (.ref r0), .val (.int ev), .val (.ref rr), .val (.int (1 : Int32))] [(.ref rr)])) (fun tZ kZ => XS.aload X12.here hx rfl (hb hby at_231) rfl rfl kZ) ?_
        refine own_by (S' := T12.setTop (mkF m 234 #[.val (.int p1), .val (.int p2), .val (.int p3), .val (.int p4), .val (.int p5), .val (.int p6), .val (.int nn), .val (.int mm), .val (.ref b1), .val (.ref r0), .val (.int ev), .val (.ref rr), .val (.int (1 : Int32))] [(.int (1 : Int32)), (.ref rr)])) (fun tZ kZ => XS.iconst X12.here hx rfl (hb hby at_233) kZ) ?_
        obtain ⟨cq14, kq14, q14a, q14b, q14c⟩ := isOf hZj10 heq12 Sj.1
        obtain ⟨_, _, ⟨T14, L14, k14, n14⟩, -, X14, ⟨Lc14, hQ14, l14, y14, z14⟩, st14⟩ := X12.virtualBack hx (y := (⟨"java/lang/String", "charAt", "(I)C"⟩ : MethodName)) (z := (⟨"java/lang/String", "charAt", "(I)C"⟩ : MethodName)) hownj10 (mvT hZj10 (hw_ hw 114 rfl)) (mvT hZj10 (hw_ hw 115 rfl)) (notFace_of_selects (args := #[]) (mvT hZj10 (hw_ hw 117 rfl))) (mvT hZj10 (hw_ hw 117 rfl)) (mvT hZj10 (hw_ hw 116 rfl)) (by decide) (backOf (W := 0) (rmCh l Z a0 hw [] rr (us4.take E) (1 : Int32) 1 w1 cz fm hj10 n0 (Nat.le_trans Z0 Kj10.1) Sj hlj Wj rfl (by rw [List.getElem?_take, if_pos dx1]; exact hw1) (cu4 _ hwm1)) hZj10 (hw_ hw 118 rfl) (hw_ hw 14 rfl) (by decide) (by decide)) q14a q14c (g := (mkF m 234 #[.val (.int p1), .val (.int p2), .val (.int p3), .val (.int p4), .val (.int p5), .val (.int p6), .val (.int nn), .val (.int mm), .val (.ref b1), .val (.ref r0), .val (.int ev), .val (.ref rr), .val (.int (1 : Int32))] [(.int (1 : Int32)), (.ref rr)])) rfl (by rw [hml]; rfl) (Steps.refl _) (argsL := [(.int (1 : Int32))]) (rest := []) (lenOf pd_13 rfl) rfl (by show 2 * 0 + _ ≤ _; exact Nat.le_of_eq rfl) (hb hby at_234) (fun _ _ => ⟨rfl, heq12, (by decide : 28 + 0 ≤ _), (by decide : 2400 + 0 ≤ _)⟩)
        dsimp only [Pt.U, Pt.locs, Pt.cells, Pt.slots] at X14 l14 y14 z14 st14 hQ14
        subst l14 y14 z14
        obtain ⟨rfl, N14q, heq14⟩ := hQ14
        have N14 := Fr.app N12 N14q
        refine own_by (S' := T14.setTop (mkF m 237 #[.val (.int p1), .val (.int p2), .val (.int p3), .val (.int p4), .val (.int p5), .val (.int p6), .val (.int nn), .val (.int mm), .val (.ref b1), .val (.ref r0), .val (.int ev), .val (.ref rr), .val (.int (1 : Int32))] [(.int w1)])) (fun tZ kZ => st14.trans kZ) ?_
        refine own_by (S' := T14.setTop (mkF m 239 #[.val (.int p1), .val (.int p2), .val (.int p3), .val (.int p4), .val (.int p5), .val (.int p6), .val (.int nn), .val (.int mm), .val (.ref b1), .val (.ref r0), .val (.int ev), .val (.ref rr), .val (.int (1 : Int32))] [(.ref b1), (.int w1)])) (fun tZ kZ => XS.aload X14.here hx rfl (hb hby at_237) rfl rfl kZ) ?_
        refine own_by (S' := T14.setTop (mkF m 240 #[.val (.int p1), .val (.int p2), .val (.int p3), .val (.int p4), .val (.int p5), .val (.int p6), .val (.int nn), .val (.int mm), .val (.ref b1), .val (.ref r0), .val (.int ev), .val (.ref rr), .val (.int (1 : Int32))] [(.int (1 : Int32)), (.ref b1), (.int w1)])) (fun tZ kZ => XS.iconst X14.here hx rfl (hb hby at_239) kZ) ?_
        obtain ⟨cc15, Ar15, hc15, hl15⟩ := id V_cj
        refine own_by (S' := T14.setTop (mkF m 241 #[.val (.int p1), .val (.int p2), .val (.int p3), .val (.int p4), .val (.int p5), .val (.int p6), .val (.int nn), .val (.int mm), .val (.ref b1), .val (.ref r0), .val (.int ev), .val (.ref rr), .val (.int (1 : Int32))] [(.int w1), (.int w1)])) (fun tZ kZ => X14.caload hx (j := (1 : Int32)) (v := (.int w1)) (by rw [heq14]; exact Ar15.1) (State.isArrayOf_alike hZj10.alike Ar15.2.1) Ar15.2.2 (OwnA.inb (j := (1 : Int32)) hl15 (by decide) (by rw [cV_len, hl4]; decide)) (OwnA.at (j := (1 : Int32)) hl15 (cV_at hw1)) (g := (mkF m 240 #[.val (.int p1), .val (.int p2), .val (.int p3), .val (.int p4), .val (.int p5), .val (.int p6), .val (.int nn), .val (.int mm), .val (.ref b1), .val (.ref r0), .val (.int ev), .val (.ref rr), .val (.int (1 : Int32))] [(.int (1 : Int32)), (.ref b1), (.int w1)])) rfl rfl (hb hby at_240) _ kZ) ?_
        refine own_by (S' := T14.setTop (mkF m 244 #[.val (.int p1), .val (.int p2), .val (.int p3), .val (.int p4), .val (.int p5), .val (.int p6), .val (.int nn), .val (.int mm), .val (.ref b1), .val (.ref r0), .val (.int ev), .val (.ref rr), .val (.int (1 : Int32))] [])) (fun tZ kZ => XS.icmpNo X14.here hx rfl (hb hby at_241) rfl (teq rfl).2 kZ) ?_
        refine own_by (S' := T14.setTop (mkF m 245 #[.val (.int p1), .val (.int p2), .val (.int p3), .val (.int p4), .val (.int p5), .val (.int p6), .val (.int nn), .val (.int mm), .val (.ref b1), .val (.ref r0), .val (.int ev), .val (.ref rr), .val (.int (1 : Int32))] [(.int (1 : Int32))])) (fun tZ kZ => XS.iconst X14.here hx rfl (hb hby at_244) kZ) ?_
        refine own_by (S' := T14.setTop (mkF m 249 #[.val (.int p1), .val (.int p2), .val (.int p3), .val (.int p4), .val (.int p5), .val (.int p6), .val (.int nn), .val (.int mm), .val (.ref b1), .val (.ref r0), .val (.int ev), .val (.ref rr), .val (.int (1 : Int32))] [(.int (1 : Int32))])) (fun tZ kZ => XS.goto X14.here hx rfl (pc0 := 245) (pc' := 249) rfl (hb hby at_245) (by decide) (by decide) kZ) ?_
        refine own_by (S' := T14.setTop (mkF m 251 #[.val (.int p1), .val (.int p2), .val (.int p3), .val (.int p4), .val (.int p5), .val (.int p6), .val (.int nn), .val (.int mm), .val (.ref b1), .val (.ref r0), .val (.int ev), .val (.ref rr), .val (.int (1 : Int32))] [])) (fun tZ kZ => XS.istore X14.here hx rfl (hb hby at_249) rfl (l' := #[.val (.int p1), .val (.int p2), .val (.int p3), .val (.int p4), .val (.int p5), .val (.int p6), .val (.int nn), .val (.int mm), .val (.ref b1), .val (.ref r0), .val (.int ev), .val (.ref rr), .val (.int (1 : Int32))]) rfl kZ) ?_
        refine own_by (S' := T14.setTop (mkF m 253 #[.val (.int p1), .val (.int p2), .val (.int p3), .val (.int p4), .val (.int p5), .val (.int p6), .val (.int nn), .val (.int mm), .val (.ref b1), .val (.ref r0), .val (.int ev), .val (.ref rr), .val (.int (1 : Int32))] [(.int ev)])) (fun tZ kZ => XS.iload X14.here hx rfl (hb hby at_251) rfl kZ) ?_
        refine own_by (S' := T14.setTop (mkF m 254 #[.val (.int p1), .val (.int p2), .val (.int p3), .val (.int p4), .val (.int p5), .val (.int p6), .val (.int nn), .val (.int mm), .val (.ref b1), .val (.ref r0), .val (.int ev), .val (.ref rr), .val (.int (1 : Int32))] [(.int (2 : Int32)), (.int ev)])) (fun tZ kZ => XS.iconst X14.here hx rfl (hb hby at_253) kZ) ?_
        by_cases dq2 : (2 : Int32) < ev
        · refine own_by (S' := T14.setTop (mkF m 257 #[.val (.int p1), .val (.int p2), .val (.int p3), .val (.int p4), .val (.int p5), .val (.int p6), .val (.int nn), .val (.int mm), .val (.ref b1), .val (.ref r0), .val (.int ev), .val (.ref rr), .val (.int (1 : Int32))] [])) (fun tZ kZ => XS.icmpNo X14.here hx rfl (hb hby at_254) rfl (tlt dq2).2.2.2 kZ) ?_
          have dx2 := (own_lt (a := 2) rfl hev).mp dq2
          obtain ⟨w2, hw2, hwm2⟩ := own_getq (us := us4) (k := 2) (by omega)
          refine own_by (S' := T14.setTop (mkF m 259 #[.val (.int p1), .val (.int p2), .val (.int p3), .val (.int p4), .val (.int p5), .val (.int p6), .val (.int nn), .val (.int mm), .val (.ref b1), .val (.ref r0), .val (.int ev), .val (.ref rr), .val (.int (1 : Int32))] [(.int (1 : Int32))])) (fun tZ kZ => XS.iload X14.here hx rfl (hb hby at_257) rfl kZ) ?_
          refine own_by (S' := T14.setTop (mkF m 262 #[.val (.int p1), .val (.int p2), .val (.int p3), .val (.int p4), .val (.int p5), .val (.int p6), .val (.int nn), .val (.int mm), .val (.ref b1), .val (.ref r0), .val (.int ev), .val (.ref rr), .val (.int (1 : Int32))] [])) (fun tZ kZ => XS.ifNo X14.here hx rfl (hb hby at_259) rfl ((if0 _ _).trans (feq (by decide)).1) kZ) ?_
          refine own_by (S' := T14.setTop (mkF m 264 #[.val (.int p1), .val (.int p2), .val (.int p3), .val (.int p4), .val (.int p5), .val (.int p6), .val (.int nn), .val (.int mm), .val (.ref b1), .val (.ref r0), .val (.int ev), .val (.ref rr), .val (.int (1 : Int32))] [(.ref rr)])) (fun tZ kZ => XS.aload X14.here hx rfl (hb hby at_262) rfl rfl kZ) ?_
          refine own_by (S' := T14.setTop (mkF m 265 #[.val (.int p1), .val (.int p2), .val (.int p3), .val (.int p4), .val (.int p5), .val (.int p6), .val (.int nn), .val (.int mm), .val (.ref b1), .val (.ref r0), .val (.int ev), .val (.ref rr), .val (.int (1 : Int32))] [(.int (2 : Int32)), (.ref rr)])) (fun tZ kZ => XS.iconst X14.here hx rfl (hb hby at_264) kZ) ?_
          obtain ⟨cq16, kq16, q16a, q16b, q16c⟩ := isOf hZj10 heq14 Sj.1
          obtain ⟨_, _, ⟨T16, L16, k16, n16⟩, -, X16, ⟨Lc16, hQ16, l16, y16, z16⟩, st16⟩ := X14.virtualBack hx (y := (⟨"java/lang/String", "charAt", "(I)C"⟩ : MethodName)) (z := (⟨"java/lang/String", "charAt", "(I)C"⟩ : MethodName)) hownj10 (mvT hZj10 (hw_ hw 114 rfl)) (mvT hZj10 (hw_ hw 115 rfl)) (notFace_of_selects (args := #[]) (mvT hZj10 (hw_ hw 117 rfl))) (mvT hZj10 (hw_ hw 117 rfl)) (mvT hZj10 (hw_ hw 116 rfl)) (by decide) (backOf (W := 0) (rmCh l Z a0 hw [] rr (us4.take E) (2 : Int32) 2 w2 cz fm hj10 n0 (Nat.le_trans Z0 Kj10.1) Sj hlj Wj rfl (by rw [List.getElem?_take, if_pos dx2]; exact hw2) (cu4 _ hwm2)) hZj10 (hw_ hw 118 rfl) (hw_ hw 14 rfl) (by decide) (by decide)) q16a q16c (g := (mkF m 265 #[.val (.int p1), .val (.int p2), .val (.int p3), .val (.int p4), .val (.int p5), .val (.int p6), .val (.int nn), .val (.int mm), .val (.ref b1), .val (.ref r0), .val (.int ev), .val (.ref rr), .val (.int (1 : Int32))] [(.int (2 : Int32)), (.ref rr)])) rfl (by rw [hml]; rfl) (Steps.refl _) (argsL := [(.int (2 : Int32))]) (rest := []) (lenOf pd_13 rfl) rfl (by show 2 * 0 + _ ≤ _; exact Nat.le_of_eq rfl) (hb hby at_265) (fun _ _ => ⟨rfl, heq14, (by decide : 28 + 0 ≤ _), (by decide : 2400 + 0 ≤ _)⟩)
          dsimp only [Pt.U, Pt.locs, Pt.cells, Pt.slots] at X16 l16 y16 z16 st16 hQ16
          subst l16 y16 z16
          obtain ⟨rfl, N16q, heq16⟩ := hQ16
          have N16 := Fr.app N14 N16q
          refine own_by (S' := T16.setTop (mkF m 268 #[.val (.int p1), .val (.int p2), .val (.int p3), .val (.int p4), .val (.int p5), .val (.int p6), .val (.int nn), .val (.int mm), .val (.ref b1), .val (.ref r0), .val (.int ev), .val (.ref rr), .val (.int (1 : Int32))] [(.int w2)])) (fun tZ kZ => st16.trans kZ) ?_
          refine own_by (S' := T16.setTop (mkF m 270 #[.val (.int p1), .val (.int p2), .val (.int p3), .val (.int p4), .val (.int p5), .val (.int p6), .val (.int nn), .val (.int mm), .val (.ref b1), .val (.ref r0), .val (.int ev), .val (.ref rr), .val (.int (1 : Int32))] [(.ref b1), (.int w2)])) (fun tZ kZ => XS.aload X16.here hx rfl (hb hby at_268) rfl rfl kZ) ?_
          refine own_by (S' := T16.setTop (mkF m 271 #[.val (.int p1), .val (.int p2), .val (.int p3), .val (.int p4), .val (.int p5), .val (.int p6), .val (.int nn), .val (.int mm), .val (.ref b1), .val (.ref r0), .val (.int ev), .val (.ref rr), .val (.int (1 : Int32))] [(.int (2 : Int32)), (.ref b1), (.int w2)])) (fun tZ kZ => XS.iconst X16.here hx rfl (hb hby at_270) kZ) ?_
          obtain ⟨cc17, Ar17, hc17, hl17⟩ := id V_cj
          refine own_by (S' := T16.setTop (mkF m 272 #[.val (.int p1), .val (.int p2), .val (.int p3), .val (.int p4), .val (.int p5), .val (.int p6), .val (.int nn), .val (.int mm), .val (.ref b1), .val (.ref r0), .val (.int ev), .val (.ref rr), .val (.int (1 : Int32))] [(.int w2), (.int w2)])) (fun tZ kZ => X16.caload hx (j := (2 : Int32)) (v := (.int w2)) (by rw [heq16]; exact Ar17.1) (State.isArrayOf_alike hZj10.alike Ar17.2.1) Ar17.2.2 (OwnA.inb (j := (2 : Int32)) hl17 (by decide) (by rw [cV_len, hl4]; decide)) (OwnA.at (j := (2 : Int32)) hl17 (cV_at hw2)) (g := (mkF m 271 #[.val (.int p1), .val (.int p2), .val (.int p3), .val (.int p4), .val (.int p5), .val (.int p6), .val (.int nn), .val (.int mm), .val (.ref b1), .val (.ref r0), .val (.int ev), .val (.ref rr), .val (.int (1 : Int32))] [(.int (2 : Int32)), (.ref b1), (.int w2)])) rfl rfl (hb hby at_271) _ kZ) ?_
          refine own_by (S' := T16.setTop (mkF m 275 #[.val (.int p1), .val (.int p2), .val (.int p3), .val (.int p4), .val (.int p5), .val (.int p6), .val (.int nn), .val (.int mm), .val (.ref b1), .val (.ref r0), .val (.int ev), .val (.ref rr), .val (.int (1 : Int32))] [])) (fun tZ kZ => XS.icmpNo X16.here hx rfl (hb hby at_272) rfl (teq rfl).2 kZ) ?_
          refine own_by (S' := T16.setTop (mkF m 276 #[.val (.int p1), .val (.int p2), .val (.int p3), .val (.int p4), .val (.int p5), .val (.int p6), .val (.int nn), .val (.int mm), .val (.ref b1), .val (.ref r0), .val (.int ev), .val (.ref rr), .val (.int (1 : Int32))] [(.int (1 : Int32))])) (fun tZ kZ => XS.iconst X16.here hx rfl (hb hby at_275) kZ) ?_
          refine own_by (S' := T16.setTop (mkF m 280 #[.val (.int p1), .val (.int p2), .val (.int p3), .val (.int p4), .val (.int p5), .val (.int p6), .val (.int nn), .val (.int mm), .val (.ref b1), .val (.ref r0), .val (.int ev), .val (.ref rr), .val (.int (1 : Int32))] [(.int (1 : Int32))])) (fun tZ kZ => XS.goto X16.here hx rfl (pc0 := 276) (pc' := 280) rfl (hb hby at_276) (by decide) (by decide) kZ) ?_
          refine own_by (S' := T16.setTop (mkF m 282 #[.val (.int p1), .val (.int p2), .val (.int p3), .val (.int p4), .val (.int p5), .val (.int p6), .val (.int nn), .val (.int mm), .val (.ref b1), .val (.ref r0), .val (.int ev), .val (.ref rr), .val (.int (1 : Int32))] [])) (fun tZ kZ => XS.istore X16.here hx rfl (hb hby at_280) rfl (l' := #[.val (.int p1), .val (.int p2), .val (.int p3), .val (.int p4), .val (.int p5), .val (.int p6), .val (.int nn), .val (.int mm), .val (.ref b1), .val (.ref r0), .val (.int ev), .val (.ref rr), .val (.int (1 : Int32))]) rfl kZ) ?_
          refine own_by (S' := T16.setTop (mkF m 284 #[.val (.int p1), .val (.int p2), .val (.int p3), .val (.int p4), .val (.int p5), .val (.int p6), .val (.int nn), .val (.int mm), .val (.ref b1), .val (.ref r0), .val (.int ev), .val (.ref rr), .val (.int (1 : Int32))] [(.int ev)])) (fun tZ kZ => XS.iload X16.here hx rfl (hb hby at_282) rfl kZ) ?_
          refine own_by (S' := T16.setTop (mkF m 285 #[.val (.int p1), .val (.int p2), .val (.int p3), .val (.int p4), .val (.int p5), .val (.int p6), .val (.int nn), .val (.int mm), .val (.ref b1), .val (.ref r0), .val (.int ev), .val (.ref rr), .val (.int (1 : Int32))] [(.int (3 : Int32)), (.int ev)])) (fun tZ kZ => XS.iconst X16.here hx rfl (hb hby at_284) kZ) ?_
          by_cases dq3 : (3 : Int32) < ev
          · refine own_by (S' := T16.setTop (mkF m 288 #[.val (.int p1), .val (.int p2), .val (.int p3), .val (.int p4), .val (.int p5), .val (.int p6), .val (.int nn), .val (.int mm), .val (.ref b1), .val (.ref r0), .val (.int ev), .val (.ref rr), .val (.int (1 : Int32))] [])) (fun tZ kZ => XS.icmpNo X16.here hx rfl (hb hby at_285) rfl (tlt dq3).2.2.2 kZ) ?_
            have dx3 := (own_lt (a := 3) rfl hev).mp dq3
            obtain ⟨w3, hw3, hwm3⟩ := own_getq (us := us4) (k := 3) (by omega)
            refine own_by (S' := T16.setTop (mkF m 290 #[.val (.int p1), .val (.int p2), .val (.int p3), .val (.int p4), .val (.int p5), .val (.int p6), .val (.int nn), .val (.int mm), .val (.ref b1), .val (.ref r0), .val (.int ev), .val (.ref rr), .val (.int (1 : Int32))] [(.int (1 : Int32))])) (fun tZ kZ => XS.iload X16.here hx rfl (hb hby at_288) rfl kZ) ?_
            refine own_by (S' := T16.setTop (mkF m 293 #[.val (.int p1), .val (.int p2), .val (.int p3), .val (.int p4), .val (.int p5), .val (.int p6), .val (.int nn), .val (.int mm), .val (.ref b1), .val (.ref r0), .val (.int ev), .val (.ref rr), .val (.int (1 : Int32))] [])) (fun tZ kZ => XS.ifNo X16.here hx rfl (hb hby at_290) rfl ((if0 _ _).trans (feq (by decide)).1) kZ) ?_
            refine own_by (S' := T16.setTop (mkF m 295 #[.val (.int p1), .val (.int p2), .val (.int p3), .val (.int p4), .val (.int p5), .val (.int p6), .val (.int nn), .val (.int mm), .val (.ref b1), .val (.ref r0), .val (.int ev), .val (.ref rr), .val (.int (1 : Int32))] [(.ref rr)])) (fun tZ kZ => XS.aload X16.here hx rfl (hb hby at_293) rfl rfl kZ) ?_
            refine own_by (S' := T16.setTop (mkF m 296 #[.val (.int p1), .val (.int p2), .val (.int p3), .val (.int p4), .val (.int p5), .val (.int p6), .val (.int nn), .val (.int mm), .val (.ref b1), .val (.ref r0), .val (.int ev), .val (.ref rr), .val (.int (1 : Int32))] [(.int (3 : Int32)), (.ref rr)])) (fun tZ kZ => XS.iconst X16.here hx rfl (hb hby at_295) kZ) ?_
            obtain ⟨cq18, kq18, q18a, q18b, q18c⟩ := isOf hZj10 heq16 Sj.1
            obtain ⟨_, _, ⟨T18, L18, k18, n18⟩, -, X18, ⟨Lc18, hQ18, l18, y18, z18⟩, st18⟩ := X16.virtualBack hx (y := (⟨"java/lang/String", "charAt", "(I)C"⟩ : MethodName)) (z := (⟨"java/lang/String", "charAt", "(I)C"⟩ : MethodName)) hownj10 (mvT hZj10 (hw_ hw 114 rfl)) (mvT hZj10 (hw_ hw 115 rfl)) (notFace_of_selects (args := #[]) (mvT hZj10 (hw_ hw 117 rfl))) (mvT hZj10 (hw_ hw 117 rfl)) (mvT hZj10 (hw_ hw 116 rfl)) (by decide) (backOf (W := 0) (rmCh l Z a0 hw [] rr (us4.take E) (3 : Int32) 3 w3 cz fm hj10 n0 (Nat.le_trans Z0 Kj10.1) Sj hlj Wj rfl (by rw [List.getElem?_take, if_pos dx3]; exact hw3) (cu4 _ hwm3)) hZj10 (hw_ hw 118 rfl) (hw_ hw 14 rfl) (by decide) (by decide)) q18a q18c (g := (mkF m 296 #[.val (.int p1), .val (.int p2), .val (.int p3), .val (.int p4), .val (.int p5), .val (.int p6), .val (.int nn), .val (.int mm), .val (.ref b1), .val (.ref r0), .val (.int ev), .val (.ref rr), .val (.int (1 : Int32))] [(.int (3 : Int32)), (.ref rr)])) rfl (by rw [hml]; rfl) (Steps.refl _) (argsL := [(.int (3 : Int32))]) (rest := []) (lenOf pd_13 rfl) rfl (by show 2 * 0 + _ ≤ _; exact Nat.le_of_eq rfl) (hb hby at_296) (fun _ _ => ⟨rfl, heq16, (by decide : 28 + 0 ≤ _), (by decide : 2400 + 0 ≤ _)⟩)
            dsimp only [Pt.U, Pt.locs, Pt.cells, Pt.slots] at X18 l18 y18 z18 st18 hQ18
            subst l18 y18 z18
            obtain ⟨rfl, N18q, heq18⟩ := hQ18
            have N18 := Fr.app N16 N18q
            refine own_by (S' := T18.setTop (mkF m 299 #[.val (.int p1), .val (.int p2), .val (.int p3), .val (.int p4), .val (.int p5), .val (.int p6), .val (.int nn), .val (.int mm), .val (.ref b1), .val (.ref r0), .val (.int ev), .val (.ref rr), .val (.int (1 : Int32))] [(.int w3)])) (fun tZ kZ => st18.trans kZ) ?_
            refine own_by (S' := T18.setTop (mkF m 301 #[.val (.int p1), .val (.int p2), .val (.int p3), .val (.int p4), .val (.int p5), .val (.int p6), .val (.int nn), .val (.int mm), .val (.ref b1), .val (.ref r0), .val (.int ev), .val (.ref rr), .val (.int (1 : Int32))] [(.ref b1), (.int w3)])) (fun tZ kZ => XS.aload X18.here hx rfl (hb hby at_299) rfl rfl kZ) ?_
            refine own_by (S' := T18.setTop (mkF m 302 #[.val (.int p1), .val (.int p2), .val (.int p3), .val (.int p4), .val (.int p5), .val (.int p6), .val (.int nn), .val (.int mm), .val (.ref b1), .val (.ref r0), .val (.int ev), .val (.ref rr), .val (.int (1 : Int32))] [(.int (3 : Int32)), (.ref b1), (.int w3)])) (fun tZ kZ => XS.iconst X18.here hx rfl (hb hby at_301) kZ) ?_
            obtain ⟨cc19, Ar19, hc19, hl19⟩ := id V_cj
            refine own_by (S' := T18.setTop (mkF m 303 #[.val (.int p1), .val (.int p2), .val (.int p3), .val (.int p4), .val (.int p5), .val (.int p6), .val (.int nn), .val (.int mm), .val (.ref b1), .val (.ref r0), .val (.int ev), .val (.ref rr), .val (.int (1 : Int32))] [(.int w3), (.int w3)])) (fun tZ kZ => X18.caload hx (j := (3 : Int32)) (v := (.int w3)) (by rw [heq18]; exact Ar19.1) (State.isArrayOf_alike hZj10.alike Ar19.2.1) Ar19.2.2 (OwnA.inb (j := (3 : Int32)) hl19 (by decide) (by rw [cV_len, hl4]; decide)) (OwnA.at (j := (3 : Int32)) hl19 (cV_at hw3)) (g := (mkF m 302 #[.val (.int p1), .val (.int p2), .val (.int p3), .val (.int p4), .val (.int p5), .val (.int p6), .val (.int nn), .val (.int mm), .val (.ref b1), .val (.ref r0), .val (.int ev), .val (.ref rr), .val (.int (1 : Int32))] [(.int (3 : Int32)), (.ref b1), (.int w3)])) rfl rfl (hb hby at_302) _ kZ) ?_
            refine own_by (S' := T18.setTop (mkF m 306 #[.val (.int p1), .val (.int p2), .val (.int p3), .val (.int p4), .val (.int p5), .val (.int p6), .val (.int nn), .val (.int mm), .val (.ref b1), .val (.ref r0), .val (.int ev), .val (.ref rr), .val (.int (1 : Int32))] [])) (fun tZ kZ => XS.icmpNo X18.here hx rfl (hb hby at_303) rfl (teq rfl).2 kZ) ?_
            refine own_by (S' := T18.setTop (mkF m 307 #[.val (.int p1), .val (.int p2), .val (.int p3), .val (.int p4), .val (.int p5), .val (.int p6), .val (.int nn), .val (.int mm), .val (.ref b1), .val (.ref r0), .val (.int ev), .val (.ref rr), .val (.int (1 : Int32))] [(.int (1 : Int32))])) (fun tZ kZ => XS.iconst X18.here hx rfl (hb hby at_306) kZ) ?_
            refine own_by (S' := T18.setTop (mkF m 311 #[.val (.int p1), .val (.int p2), .val (.int p3), .val (.int p4), .val (.int p5), .val (.int p6), .val (.int nn), .val (.int mm), .val (.ref b1), .val (.ref r0), .val (.int ev), .val (.ref rr), .val (.int (1 : Int32))] [(.int (1 : Int32))])) (fun tZ kZ => XS.goto X18.here hx rfl (pc0 := 307) (pc' := 311) rfl (hb hby at_307) (by decide) (by decide) kZ) ?_
            refine own_by (S' := T18.setTop (mkF m 313 #[.val (.int p1), .val (.int p2), .val (.int p3), .val (.int p4), .val (.int p5), .val (.int p6), .val (.int nn), .val (.int mm), .val (.ref b1), .val (.ref r0), .val (.int ev), .val (.ref rr), .val (.int (1 : Int32))] [])) (fun tZ kZ => XS.istore X18.here hx rfl (hb hby at_311) rfl (l' := #[.val (.int p1), .val (.int p2), .val (.int p3), .val (.int p4), .val (.int p5), .val (.int p6), .val (.int nn), .val (.int mm), .val (.ref b1), .val (.ref r0), .val (.int ev), .val (.ref rr), .val (.int (1 : Int32))]) rfl kZ) ?_
            refine own_by (S' := T18.setTop (mkF m 315 #[.val (.int p1), .val (.int p2), .val (.int p3), .val (.int p4), .val (.int p5), .val (.int p6), .val (.int nn), .val (.int mm), .val (.ref b1), .val (.ref r0), .val (.int ev), .val (.ref rr), .val (.int (1 : Int32))] [(.int (1 : Int32))])) (fun tZ kZ => XS.iload X18.here hx rfl (hb hby at_313) rfl kZ) ?_
            exact own_retWI X18 hSj10 (by rw [heq18]; exact hkj10) hx (t := .boolean) Bd.returns (by simp) rfl (hb hby at_315) Bd.notSynchronized (by decide) (by decide) ⟨rfl, N18⟩
          · refine own_by (S' := T16.setTop (mkF m 313 #[.val (.int p1), .val (.int p2), .val (.int p3), .val (.int p4), .val (.int p5), .val (.int p6), .val (.int nn), .val (.int mm), .val (.ref b1), .val (.ref r0), .val (.int ev), .val (.ref rr), .val (.int (1 : Int32))] [])) (fun tZ kZ => XS.icmpYes X16.here hx rfl (pc0 := 285) (pc' := 313) rfl (hb hby at_285) rfl (flt dq3).2.2.2 (by decide) (by decide) kZ) ?_
            have dx3 : ¬ 3 < E := fun q => dq3 ((own_lt (a := 3) rfl hev).mpr q)
            refine own_by (S' := T16.setTop (mkF m 315 #[.val (.int p1), .val (.int p2), .val (.int p3), .val (.int p4), .val (.int p5), .val (.int p6), .val (.int nn), .val (.int mm), .val (.ref b1), .val (.ref r0), .val (.int ev), .val (.ref rr), .val (.int (1 : Int32))] [(.int (1 : Int32))])) (fun tZ kZ => XS.iload X16.here hx rfl (hb hby at_313) rfl kZ) ?_
            exact own_retWI X16 hSj10 (by rw [heq16]; exact hkj10) hx (t := .boolean) Bd.returns (by simp) rfl (hb hby at_315) Bd.notSynchronized (by decide) (by decide) ⟨rfl, N16⟩
        · refine own_by (S' := T14.setTop (mkF m 282 #[.val (.int p1), .val (.int p2), .val (.int p3), .val (.int p4), .val (.int p5), .val (.int p6), .val (.int nn), .val (.int mm), .val (.ref b1), .val (.ref r0), .val (.int ev), .val (.ref rr), .val (.int (1 : Int32))] [])) (fun tZ kZ => XS.icmpYes X14.here hx rfl (pc0 := 254) (pc' := 282) rfl (hb hby at_254) rfl (flt dq2).2.2.2 (by decide) (by decide) kZ) ?_
          have dx2 : ¬ 2 < E := fun q => dq2 ((own_lt (a := 2) rfl hev).mpr q)
          refine own_by (S' := T14.setTop (mkF m 284 #[.val (.int p1), .val (.int p2), .val (.int p3), .val (.int p4), .val (.int p5), .val (.int p6), .val (.int nn), .val (.int mm), .val (.ref b1), .val (.ref r0), .val (.int ev), .val (.ref rr), .val (.int (1 : Int32))] [(.int ev)])) (fun tZ kZ => XS.iload X14.here hx rfl (hb hby at_282) rfl kZ) ?_
          refine own_by (S' := T14.setTop (mkF m 285 #[.val (.int p1), .val (.int p2), .val (.int p3), .val (.int p4), .val (.int p5), .val (.int p6), .val (.int nn), .val (.int mm), .val (.ref b1), .val (.ref r0), .val (.int ev), .val (.ref rr), .val (.int (1 : Int32))] [(.int (3 : Int32)), (.int ev)])) (fun tZ kZ => XS.iconst X14.here hx rfl (hb hby at_284) kZ) ?_
          refine own_by (S' := T14.setTop (mkF m 313 #[.val (.int p1), .val (.int p2), .val (.int p3), .val (.int p4), .val (.int p5), .val (.int p6), .val (.int nn), .val (.int mm), .val (.ref b1), .val (.ref r0), .val (.int ev), .val (.ref rr), .val (.int (1 : Int32))] [])) (fun tZ kZ => XS.icmpYes X14.here hx rfl (pc0 := 285) (pc' := 313) rfl (hb hby at_285) rfl (flt (by rw [own_lt (a := 3) rfl hev]; omega)).2.2.2 (by decide) (by decide) kZ) ?_
          refine own_by (S' := T14.setTop (mkF m 315 #[.val (.int p1), .val (.int p2), .val (.int p3), .val (.int p4), .val (.int p5), .val (.int p6), .val (.int nn), .val (.int mm), .val (.ref b1), .val (.ref r0), .val (.int ev), .val (.ref rr), .val (.int (1 : Int32))] [(.int (1 : Int32))])) (fun tZ kZ => XS.iload X14.here hx rfl (hb hby at_313) rfl kZ) ?_
          exact own_retWI X14 hSj10 (by rw [heq14]; exact hkj10) hx (t := .boolean) Bd.returns (by simp) rfl (hb hby at_315) Bd.notSynchronized (by decide) (by decide) ⟨rfl, N14⟩
      · refine own_by (S' := T12.setTop (mkF m 251 #[.val (.int p1), .val (.int p2), .val (.int p3), .val (.int p4), .val (.int p5), .val (.int p6), .val (.int nn), .val (.int mm), .val (.ref b1), .val (.ref r0), .val (.int ev), .val (.ref rr), .val (.int (1 : Int32))] [])) (fun tZ kZ => XS.icmpYes X12.here hx rfl (pc0 := 223) (pc' := 251) rfl (hb hby at_223) rfl (flt dq1).2.2.2 (by decide) (by decide) kZ) ?_
        have dx1 : ¬ 1 < E := fun q => dq1 ((own_lt (a := 1) rfl hev).mpr q)
        refine own_by (S' := T12.setTop (mkF m 253 #[.val (.int p1), .val (.int p2), .val (.int p3), .val (.int p4), .val (.int p5), .val (.int p6), .val (.int nn), .val (.int mm), .val (.ref b1), .val (.ref r0), .val (.int ev), .val (.ref rr), .val (.int (1 : Int32))] [(.int ev)])) (fun tZ kZ => XS.iload X12.here hx rfl (hb hby at_251) rfl kZ) ?_
        refine own_by (S' := T12.setTop (mkF m 254 #[.val (.int p1), .val (.int p2), .val (.int p3), .val (.int p4), .val (.int p5), .val (.int p6), .val (.int nn), .val (.int mm), .val (.ref b1), .val (.ref r0), .val (.int ev), .val (.ref rr), .val (.int (1 : Int32))] [(.int (2 : Int32)), (.int ev)])) (fun tZ kZ => XS.iconst X12.here hx rfl (hb hby at_253) kZ) ?_
        refine own_by (S' := T12.setTop (mkF m 282 #[.val (.int p1), .val (.int p2), .val (.int p3), .val (.int p4), .val (.int p5), .val (.int p6), .val (.int nn), .val (.int mm), .val (.ref b1), .val (.ref r0), .val (.int ev), .val (.ref rr), .val (.int (1 : Int32))] [])) (fun tZ kZ => XS.icmpYes X12.here hx rfl (pc0 := 254) (pc' := 282) rfl (hb hby at_254) rfl (flt (by rw [own_lt (a := 2) rfl hev]; omega)).2.2.2 (by decide) (by decide) kZ) ?_
        refine own_by (S' := T12.setTop (mkF m 284 #[.val (.int p1), .val (.int p2), .val (.int p3), .val (.int p4), .val (.int p5), .val (.int p6), .val (.int nn), .val (.int mm), .val (.ref b1), .val (.ref r0), .val (.int ev), .val (.ref rr), .val (.int (1 : Int32))] [(.int ev)])) (fun tZ kZ => XS.iload X12.here hx rfl (hb hby at_282) rfl kZ) ?_
        refine own_by (S' := T12.setTop (mkF m 285 #[.val (.int p1), .val (.int p2), .val (.int p3), .val (.int p4), .val (.int p5), .val (.int p6), .val (.int nn), .val (.int mm), .val (.ref b1), .val (.ref r0), .val (.int ev), .val (.ref rr), .val (.int (1 : Int32))] [(.int (3 : Int32)), (.int ev)])) (fun tZ kZ => XS.iconst X12.here hx rfl (hb hby at_284) kZ) ?_
        refine own_by (S' := T12.setTop (mkF m 313 #[.val (.int p1), .val (.int p2), .val (.int p3), .val (.int p4), .val (.int p5), .val (.int p6), .val (.int nn), .val (.int mm), .val (.ref b1), .val (.ref r0), .val (.int ev), .val (.ref rr), .val (.int (1 : Int32))] [])) (fun tZ kZ => XS.icmpYes X12.here hx rfl (pc0 := 285) (pc' := 313) rfl (hb hby at_285) rfl (flt (by rw [own_lt (a := 3) rfl hev]; omega)).2.2.2 (by decide) (by decide) kZ) ?_
        refine own_by (S' := T12.setTop (mkF m 315 #[.val (.int p1), .val (.int p2), .val (.int p3), .val (.int p4), .val (.int p5), .val (.int p6), .val (.int nn), .val (.int mm), .val (.ref b1), .val (.ref r0), .val (.int ev), .val (.ref rr), .val (.int (1 : Int32))] [(.int (1 : Int32))])) (fun tZ kZ => XS.iload X12.here hx rfl (hb hby at_313) rfl kZ) ?_
        exact own_retWI X12 hSj10 (by rw [heq12]; exact hkj10) hx (t := .boolean) Bd.returns (by simp) rfl (hb hby at_315) Bd.notSynchronized (by decide) (by decide) ⟨rfl, N12⟩
    · refine own_by (S' := T11.setTop (mkF m 220 #[.val (.int p1), .val (.int p2), .val (.int p3), .val (.int p4), .val (.int p5), .val (.int p6), .val (.int nn), .val (.int mm), .val (.ref b1), .val (.ref r0), .val (.int ev), .val (.ref rr), .val (.int (1 : Int32))] [])) (fun tZ kZ => XS.ifYes X11.here hx rfl (pc0 := 192) (pc' := 220) rfl (hb hby at_192) rfl ((if0 _ _).trans (flt dq0).2.2.2) (by decide) (by decide) kZ) ?_
      have dx0 : ¬ 0 < E := fun q => dq0 ((own_lt (a := 0) rfl hev).mpr q)
      refine own_by (S' := T11.setTop (mkF m 222 #[.val (.int p1), .val (.int p2), .val (.int p3), .val (.int p4), .val (.int p5), .val (.int p6), .val (.int nn), .val (.int mm), .val (.ref b1), .val (.ref r0), .val (.int ev), .val (.ref rr), .val (.int (1 : Int32))] [(.int ev)])) (fun tZ kZ => XS.iload X11.here hx rfl (hb hby at_220) rfl kZ) ?_
      refine own_by (S' := T11.setTop (mkF m 223 #[.val (.int p1), .val (.int p2), .val (.int p3), .val (.int p4), .val (.int p5), .val (.int p6), .val (.int nn), .val (.int mm), .val (.ref b1), .val (.ref r0), .val (.int ev), .val (.ref rr), .val (.int (1 : Int32))] [(.int (1 : Int32)), (.int ev)])) (fun tZ kZ => XS.iconst X11.here hx rfl (hb hby at_222) kZ) ?_
      refine own_by (S' := T11.setTop (mkF m 251 #[.val (.int p1), .val (.int p2), .val (.int p3), .val (.int p4), .val (.int p5), .val (.int p6), .val (.int nn), .val (.int mm), .val (.ref b1), .val (.ref r0), .val (.int ev), .val (.ref rr), .val (.int (1 : Int32))] [])) (fun tZ kZ => XS.icmpYes X11.here hx rfl (pc0 := 223) (pc' := 251) rfl (hb hby at_223) rfl (flt (by rw [own_lt (a := 1) rfl hev]; omega)).2.2.2 (by decide) (by decide) kZ) ?_
      refine own_by (S' := T11.setTop (mkF m 253 #[.val (.int p1), .val (.int p2), .val (.int p3), .val (.int p4), .val (.int p5), .val (.int p6), .val (.int nn), .val (.int mm), .val (.ref b1), .val (.ref r0), .val (.int ev), .val (.ref rr), .val (.int (1 : Int32))] [(.int ev)])) (fun tZ kZ => XS.iload X11.here hx rfl (hb hby at_251) rfl kZ) ?_
      refine own_by (S' := T11.setTop (mkF m 254 #[.val (.int p1), .val (.int p2), .val (.int p3), .val (.int p4), .val (.int p5), .val (.int p6), .val (.int nn), .val (.int mm), .val (.ref b1), .val (.ref r0), .val (.int ev), .val (.ref rr), .val (.int (1 : Int32))] [(.int (2 : Int32)), (.int ev)])) (fun tZ kZ => XS.iconst X11.here hx rfl (hb hby at_253) kZ) ?_
      refine own_by (S' := T11.setTop (mkF m 282 #[.val (.int p1), .val (.int p2), .val (.int p3), .val (.int p4), .val (.int p5), .val (.int p6), .val (.int nn), .val (.int mm), .val (.ref b1), .val (.ref r0), .val (.int ev), .val (.ref rr), .val (.int (1 : Int32))] [])) (fun tZ kZ => XS.icmpYes X11.here hx rfl (pc0 := 254) (pc' := 282) rfl (hb hby at_254) rfl (flt (by rw [own_lt (a := 2) rfl hev]; omega)).2.2.2 (by decide) (by decide) kZ) ?_
      refine own_by (S' := T11.setTop (mkF m 284 #[.val (.int p1), .val (.int p2), .val (.int p3), .val (.int p4), .val (.int p5), .val (.int p6), .val (.int nn), .val (.int mm), .val (.ref b1), .val (.ref r0), .val (.int ev), .val (.ref rr), .val (.int (1 : Int32))] [(.int ev)])) (fun tZ kZ => XS.iload X11.here hx rfl (hb hby at_282) rfl kZ) ?_
      refine own_by (S' := T11.setTop (mkF m 285 #[.val (.int p1), .val (.int p2), .val (.int p3), .val (.int p4), .val (.int p5), .val (.int p6), .val (.int nn), .val (.int mm), .val (.ref b1), .val (.ref r0), .val (.int ev), .val (.ref rr), .val (.int (1 : Int32))] [(.int (3 : Int32)), (.int ev)])) (fun tZ kZ => XS.iconst X11.here hx rfl (hb hby at_284) kZ) ?_
      refine own_by (S' := T11.setTop (mkF m 313 #[.val (.int p1), .val (.int p2), .val (.int p3), .val (.int p4), .val (.int p5), .val (.int p6), .val (.int nn), .val (.int mm), .val (.ref b1), .val (.ref r0), .val (.int ev), .val (.ref rr), .val (.int (1 : Int32))] [])) (fun tZ kZ => XS.icmpYes X11.here hx rfl (pc0 := 285) (pc' := 313) rfl (hb hby at_285) rfl (flt (by rw [own_lt (a := 3) rfl hev]; omega)).2.2.2 (by decide) (by decide) kZ) ?_
      refine own_by (S' := T11.setTop (mkF m 315 #[.val (.int p1), .val (.int p2), .val (.int p3), .val (.int p4), .val (.int p5), .val (.int p6), .val (.int nn), .val (.int mm), .val (.ref b1), .val (.ref r0), .val (.int ev), .val (.ref rr), .val (.int (1 : Int32))] [(.int (1 : Int32))])) (fun tZ kZ => XS.iload X11.here hx rfl (hb hby at_313) rfl kZ) ?_
      exact own_retWI X11 hSj10 (by rw [heq11]; exact hkj10) hx (t := .boolean) Bd.returns (by simp) rfl (hb hby at_315) Bd.notSynchronized (by decide) (by decide) ⟨rfl, N11⟩
  have J65 : ∀ (Tj20 : State) (Lj20 : List Loc) (hj20 : Heap) (vmj20 : Vm) (nj20 : Nat) (nn : Int32) (N : Nat) (r0 : Addr) (Xj20 : Stand p l e room_1 (s.setVm vmj20) m #[(.int p1), (.int p2), (.int p3), (.int p4), (.int p5), (.int p6)] below meth c Tj20 Lj20 24 2000) (ej20 : Tj20.heap = hj20) (Nj20 : Fr n0 Lj20) (Kj20 : Keep h0 hj20 []) (hSj20 : s.Since vmj20 nj20) (hkj20 : nj20 ≤ hj20.size) (hZj20 : Z.Warmed39 (s.setVm vmj20).vm) (hownj20 : (s.setVm vmj20).vm.findClass "com/example/idpd/idpd/TextsPrefixPinLaw" = some m.cls) (hnn : nn.toInt = N) (hN : N ≤ 4) (V_cj : OwnA Z hj20 b1 k1 .char (cV us4)) (Sj : OwnStr Z hj20 r0 (us4.take N)) (Wj : OwnW Z hj20 cz fm) (hor : N = 0 ∨ 1 ≤ M), OwnG p e below (OwnEW s (Q0  h0 n0) room_1.cells room_1.slots) (Tj20.setTop (mkF m 65 #[.val (.int p1), .val (.int p2), .val (.int p3), .val (.int p4), .val (.int p5), .val (.int p6), .val (.int nn), .val (.int mm), .val (.ref b1), .val (.ref r0), .val (.int (0 : Int32)), .unset, .unset] [])) := by
    intro Tj20 Lj20 hj20 vmj20 nj20 nn N r0 Xj20 ej20 Nj20 Kj20 hSj20 hkj20 hZj20 hownj20 hnn hN V_cj Sj Wj hor
    have hlN : (us4.take N).length = N := by rw [List.length_take]; omega
    have hE0 : (0 : Int32).toInt = ((tE (pr us4) N M 0 : Nat) : Int) := rfl
    have K4 : ∀ (Tj21 : State) (Lj21 : List Loc) (hj21 : Heap) (vmj21 : Vm) (nj21 : Nat) (ev : Int32) (Xj21 : Stand p l e room_1 (s.setVm vmj21) m #[(.int p1), (.int p2), (.int p3), (.int p4), (.int p5), (.int p6)] below meth c Tj21 Lj21 24 2000) (ej21 : Tj21.heap = hj21) (Nj21 : Fr n0 Lj21) (Kj21 : Keep h0 hj21 []) (hSj21 : s.Since vmj21 nj21) (hkj21 : nj21 ≤ hj21.size) (hZj21 : Z.Warmed39 (s.setVm vmj21).vm) (hownj21 : (s.setVm vmj21).vm.findClass "com/example/idpd/idpd/TextsPrefixPinLaw" = some m.cls) (hev : ev.toInt = ((tE (pr us4) N M 4 : Nat) : Int)) (hSm : hj20 = hj21), OwnG p e below (OwnEW s (Q0  h0 n0) room_1.cells room_1.slots) (Tj21.setTop (mkF m 161 #[.val (.int p1), .val (.int p2), .val (.int p3), .val (.int p4), .val (.int p5), .val (.int p6), .val (.int nn), .val (.int mm), .val (.ref b1), .val (.ref r0), .val (.int ev), .unset, .unset] [])) := by
      intro Tj21 Lj21 hj21 vmj21 nj21 ev Xj21 ej21 Nj21 Kj21 hSj21 hkj21 hZj21 hownj21 hev hSm
      subst hSm
      have hPr : tE (pr us4) N M 4 = tE (pr (us4.take N)) (us4.take N).length M 4 := by rw [hlN]; exact (tE_congr (fun i hi => pr_take us4 N i hi) 4).symm
      refine own_by (S' := Tj21.setTop (mkF m 163 #[.val (.int p1), .val (.int p2), .val (.int p3), .val (.int p4), .val (.int p5), .val (.int p6), .val (.int nn), .val (.int mm), .val (.ref b1), .val (.ref r0), .val (.int ev), .unset, .unset] [(.ref r0)])) (fun tZ kZ => XS.aload Xj21.here hx rfl (hb hby at_161) rfl rfl kZ) ?_
      refine own_by (S' := Tj21.setTop (mkF m 165 #[.val (.int p1), .val (.int p2), .val (.int p3), .val (.int p4), .val (.int p5), .val (.int p6), .val (.int nn), .val (.int mm), .val (.ref b1), .val (.ref r0), .val (.int ev), .unset, .unset] [(.int mm), (.ref r0)])) (fun tZ kZ => XS.iload Xj21.here hx rfl (hb hby at_163) rfl kZ) ?_
      obtain ⟨_, _, ⟨T22, L22, k22, n22⟩, -, X22, ⟨Lc22, hQ22, l22, y22, z22⟩, st22⟩ := Jvm.LawKit.callS Xj21 hx (y := (⟨"com/example/idpd/idpd/Texts", "prefix", "(Ljava/lang/String;I)Ljava/lang/String;"⟩ : MethodName)) hownj21 (mvT hZj21 (hw_ hw 33 rfl)) (mvT hZj21 (hw_ hw 34 rfl)) (mvT hZj21 (hw_ hw 35 rfl)) (mvT hZj21 (hw_ hw 36 rfl)) (by decide) (backOf (W := 0) (rmPre l Z a0 hw [] r0 (us4.take N) nn mm M cz fm hj20 n0 (Nat.le_trans Z0 Kj20.1) Sj (by omega) Wj (by rw [hlN]; exact hnn) (own_hust cu4 N) hm (by rw [hlN]; exact hor)) hZj21 (hw_ hw 36 rfl) (hw_ hw 35 rfl) (by decide) (by decide)) (g := (mkF m 165 #[.val (.int p1), .val (.int p2), .val (.int p3), .val (.int p4), .val (.int p5), .val (.int p6), .val (.int nn), .val (.int mm), .val (.ref b1), .val (.ref r0), .val (.int ev), .unset, .unset] [(.int mm), (.ref r0)])) rfl (by rw [hml]; rfl) (argsL := [(.ref r0), (.int mm)]) (rest := []) (lenOf pd_31 rfl) rfl (by show 2 * 0 + _ ≤ _; exact Nat.le_of_eq rfl) (hb hby at_165) (fun _ _ => ⟨rfl, ej21, (by decide : 24 + 3 ≤ _), (by decide : 2000 + 16 ≤ _)⟩)
      dsimp only [Pt.U, Pt.locs, Pt.cells, Pt.slots] at X22 l22 y22 z22 st22 hQ22
      subst l22 y22 z22
      obtain ⟨rr, rfl, N22q, Kc22, qs22⟩ := hQ22
      have N22 := Fr.app Nj21 N22q
      have Zs22 := Nat.le_trans (Nat.le_trans Z0 Kj20.1) Kc22.1
      have hk22 := Nat.le_trans hkj21 Kc22.1
      have Ec22 := own_ext0 Kc22
      have K22 := Kj21.ext Ec22
      refine own_by (S' := T22.setTop (mkF m 168 #[.val (.int p1), .val (.int p2), .val (.int p3), .val (.int p4), .val (.int p5), .val (.int p6), .val (.int nn), .val (.int mm), .val (.ref b1), .val (.ref r0), .val (.int ev), .unset, .unset] [(.ref rr)])) (fun tZ kZ => st22 _ kZ) ?_
      rw [← hPr, List.take_take, Nat.min_eq_left (tE_le _ _ _ _)] at qs22
      refine own_by (S' := T22.setTop (mkF m 170 #[.val (.int p1), .val (.int p2), .val (.int p3), .val (.int p4), .val (.int p5), .val (.int p6), .val (.int nn), .val (.int mm), .val (.ref b1), .val (.ref r0), .val (.int ev), .val (.ref rr), .unset] [])) (fun tZ kZ => XS.astore X22.here hx rfl (hb hby at_168) rfl rfl (l' := #[.val (.int p1), .val (.int p2), .val (.int p3), .val (.int p4), .val (.int p5), .val (.int p6), .val (.int nn), .val (.int mm), .val (.ref b1), .val (.ref r0), .val (.int ev), .val (.ref rr), .unset]) rfl kZ) ?_
      exact J170 _ _ _ _ _ nn N r0 rr ev _ (X22.mono (by decide) (by decide)) rfl N22 K22 hSj21 hk22 hZj21 hownj21 hnn hN hev (tE_le _ _ _ _) (V_cj.ext Ec22) qs22 (Wj.ext Ec22)
    have K3 : ∀ (Tj23 : State) (Lj23 : List Loc) (hj23 : Heap) (vmj23 : Vm) (nj23 : Nat) (ev : Int32) (Xj23 : Stand p l e room_1 (s.setVm vmj23) m #[(.int p1), (.int p2), (.int p3), (.int p4), (.int p5), (.int p6)] below meth c Tj23 Lj23 24 2000) (ej23 : Tj23.heap = hj23) (Nj23 : Fr n0 Lj23) (Kj23 : Keep h0 hj23 []) (hSj23 : s.Since vmj23 nj23) (hkj23 : nj23 ≤ hj23.size) (hZj23 : Z.Warmed39 (s.setVm vmj23).vm) (hownj23 : (s.setVm vmj23).vm.findClass "com/example/idpd/idpd/TextsPrefixPinLaw" = some m.cls) (hev : ev.toInt = ((tE (pr us4) N M 3 : Nat) : Int)) (hSm : hj20 = hj23), OwnG p e below (OwnEW s (Q0  h0 n0) room_1.cells room_1.slots) (Tj23.setTop (mkF m 137 #[.val (.int p1), .val (.int p2), .val (.int p3), .val (.int p4), .val (.int p5), .val (.int p6), .val (.int nn), .val (.int mm), .val (.ref b1), .val (.ref r0), .val (.int ev), .unset, .unset] [])) := by
      intro Tj23 Lj23 hj23 vmj23 nj23 ev Xj23 ej23 Nj23 Kj23 hSj23 hkj23 hZj23 hownj23 hev hSm
      subst hSm
      refine own_by (S' := Tj23.setTop (mkF m 139 #[.val (.int p1), .val (.int p2), .val (.int p3), .val (.int p4), .val (.int p5), .val (.int p6), .val (.int nn), .val (.int mm), .val (.ref b1), .val (.ref r0), .val (.int ev), .unset, .unset] [(.int mm)])) (fun tZ kZ => XS.iload Xj23.here hx rfl (hb hby at_137) rfl kZ) ?_
      refine own_by (S' := Tj23.setTop (mkF m 140 #[.val (.int p1), .val (.int p2), .val (.int p3), .val (.int p4), .val (.int p5), .val (.int p6), .val (.int nn), .val (.int mm), .val (.ref b1), .val (.ref r0), .val (.int ev), .unset, .unset] [(.int (4 : Int32)), (.int mm)])) (fun tZ kZ => XS.iconst Xj23.here hx rfl (hb hby at_139) kZ) ?_
      by_cases dm3 : mm < (4 : Int32)
      · refine own_by (S' := Tj23.setTop (mkF m 161 #[.val (.int p1), .val (.int p2), .val (.int p3), .val (.int p4), .val (.int p5), .val (.int p6), .val (.int nn), .val (.int mm), .val (.ref b1), .val (.ref r0), .val (.int ev), .unset, .unset] [])) (fun tZ kZ => XS.icmpYes Xj23.here hx rfl (pc0 := 140) (pc' := 161) rfl (hb hby at_140) rfl (tlt dm3).1 (by decide) (by decide) kZ) ?_
        have dn3 : M < 4 := (own_lt (b := 4) hm rfl).mp dm3
        exact K4 _ _ _ _ _ ev Xj23 ej23 Nj23 Kj23 hSj23 hkj23 hZj23 hownj23 (by rw [tE_n (fun q => by omega)]; exact hev) rfl
      · refine own_by (S' := Tj23.setTop (mkF m 143 #[.val (.int p1), .val (.int p2), .val (.int p3), .val (.int p4), .val (.int p5), .val (.int p6), .val (.int nn), .val (.int mm), .val (.ref b1), .val (.ref r0), .val (.int ev), .unset, .unset] [])) (fun tZ kZ => XS.icmpNo Xj23.here hx rfl (hb hby at_140) rfl (flt dm3).1 kZ) ?_
        have dn3 : ¬ M < 4 := fun q => dm3 ((own_lt (b := 4) hm rfl).mpr q)
        refine own_by (S' := Tj23.setTop (mkF m 145 #[.val (.int p1), .val (.int p2), .val (.int p3), .val (.int p4), .val (.int p5), .val (.int p6), .val (.int nn), .val (.int mm), .val (.ref b1), .val (.ref r0), .val (.int ev), .unset, .unset] [(.int ev)])) (fun tZ kZ => XS.iload Xj23.here hx rfl (hb hby at_143) rfl kZ) ?_
        refine own_by (S' := Tj23.setTop (mkF m 147 #[.val (.int p1), .val (.int p2), .val (.int p3), .val (.int p4), .val (.int p5), .val (.int p6), .val (.int nn), .val (.int mm), .val (.ref b1), .val (.ref r0), .val (.int ev), .unset, .unset] [(.int nn), (.int ev)])) (fun tZ kZ => XS.iload Xj23.here hx rfl (hb hby at_145) rfl kZ) ?_
        by_cases de3 : ev < nn
        · refine own_by (S' := Tj23.setTop (mkF m 150 #[.val (.int p1), .val (.int p2), .val (.int p3), .val (.int p4), .val (.int p5), .val (.int p6), .val (.int nn), .val (.int mm), .val (.ref b1), .val (.ref r0), .val (.int ev), .unset, .unset] [])) (fun tZ kZ => XS.icmpNo Xj23.here hx rfl (hb hby at_147) rfl (tlt de3).2.1 kZ) ?_
          have df3 := (own_lt hev hnn).mp de3
          refine own_by (S' := Tj23.setTop (mkF m 152 #[.val (.int p1), .val (.int p2), .val (.int p3), .val (.int p4), .val (.int p5), .val (.int p6), .val (.int nn), .val (.int mm), .val (.ref b1), .val (.ref r0), .val (.int ev), .unset, .unset] [(.ref b1)])) (fun tZ kZ => XS.aload Xj23.here hx rfl (hb hby at_150) rfl rfl kZ) ?_
          refine own_by (S' := Tj23.setTop (mkF m 154 #[.val (.int p1), .val (.int p2), .val (.int p3), .val (.int p4), .val (.int p5), .val (.int p6), .val (.int nn), .val (.int mm), .val (.ref b1), .val (.ref r0), .val (.int ev), .unset, .unset] [(.int nn), (.ref b1)])) (fun tZ kZ => XS.iload Xj23.here hx rfl (hb hby at_152) rfl kZ) ?_
          refine own_by (S' := Tj23.setTop (mkF m 156 #[.val (.int p1), .val (.int p2), .val (.int p3), .val (.int p4), .val (.int p5), .val (.int p6), .val (.int nn), .val (.int mm), .val (.ref b1), .val (.ref r0), .val (.int ev), .unset, .unset] [(.int ev), (.int nn), (.ref b1)])) (fun tZ kZ => XS.iload Xj23.here hx rfl (hb hby at_154) rfl kZ) ?_
          obtain ⟨_, _, ⟨T24, L24, k24, n24⟩, -, X24, ⟨Lc24, hQ24, l24, y24, z24⟩, st24⟩ := Jvm.LawKit.callS Xj23 hx (y := (⟨"com/example/idpd/idpd/TextsPrefixPinLaw", "step", "([CII)I"⟩ : MethodName)) hownj23 (mvT hZj23 (hw_ hw 97 rfl)) (mvT hZj23 (hw_ hw 98 rfl)) (mvT hZj23 (hw_ hw 4 rfl)) (mvT hZj23 (hw_ hw 99 rfl)) (by decide) (backOf (W := 0) (rmStep l Z a0 hw [] b1 k1 us4 nn ev N _ hj20 n0 (Nat.le_trans Z0 Kj20.1) V_cj hl4 hnn hN hev df3) hZj23 (hw_ hw 99 rfl) (hw_ hw 4 rfl) (by decide) (by decide)) (g := (mkF m 156 #[.val (.int p1), .val (.int p2), .val (.int p3), .val (.int p4), .val (.int p5), .val (.int p6), .val (.int nn), .val (.int mm), .val (.ref b1), .val (.ref r0), .val (.int ev), .unset, .unset] [(.int ev), (.int nn), (.ref b1)])) rfl (by rw [hml]; rfl) (argsL := [(.ref b1), (.int nn), (.int ev)]) (rest := []) (lenOf pd_32 rfl) rfl (by show 2 * 0 + _ ≤ _; exact Nat.le_of_eq rfl) (hb hby at_156) (fun _ _ => ⟨rfl, ej23, (by decide : 24 + 0 ≤ _), (by decide : 2000 + 0 ≤ _)⟩)
          dsimp only [Pt.U, Pt.locs, Pt.cells, Pt.slots] at X24 l24 y24 z24 st24 hQ24
          subst l24 y24 z24
          obtain ⟨ez, rfl, hez, N24q, heq24⟩ := hQ24
          have N24 := Fr.app Nj23 N24q
          refine own_by (S' := T24.setTop (mkF m 159 #[.val (.int p1), .val (.int p2), .val (.int p3), .val (.int p4), .val (.int p5), .val (.int p6), .val (.int nn), .val (.int mm), .val (.ref b1), .val (.ref r0), .val (.int ev), .unset, .unset] [(.int ez)])) (fun tZ kZ => st24 _ kZ) ?_
          refine own_by (S' := T24.setTop (mkF m 161 #[.val (.int p1), .val (.int p2), .val (.int p3), .val (.int p4), .val (.int p5), .val (.int p6), .val (.int nn), .val (.int mm), .val (.ref b1), .val (.ref r0), .val (.int ez), .unset, .unset] [])) (fun tZ kZ => XS.istore X24.here hx rfl (hb hby at_159) rfl (l' := #[.val (.int p1), .val (.int p2), .val (.int p3), .val (.int p4), .val (.int p5), .val (.int p6), .val (.int nn), .val (.int mm), .val (.ref b1), .val (.ref r0), .val (.int ez), .unset, .unset]) rfl kZ) ?_
          exact K4 _ _ _ _ _ ez X24 heq24 N24 Kj23 hSj23 hkj23 hZj23 hownj23 (by rw [tE_s (by omega) df3]; exact hez) rfl
        · refine own_by (S' := Tj23.setTop (mkF m 161 #[.val (.int p1), .val (.int p2), .val (.int p3), .val (.int p4), .val (.int p5), .val (.int p6), .val (.int nn), .val (.int mm), .val (.ref b1), .val (.ref r0), .val (.int ev), .unset, .unset] [])) (fun tZ kZ => XS.icmpYes Xj23.here hx rfl (pc0 := 147) (pc' := 161) rfl (hb hby at_147) rfl (flt de3).2.1 (by decide) (by decide) kZ) ?_
          have df3 : ¬ tE (pr us4) N M 3 < N := fun q => de3 ((own_lt hev hnn).mpr q)
          exact K4 _ _ _ _ _ ev Xj23 ej23 Nj23 Kj23 hSj23 hkj23 hZj23 hownj23 (by rw [tE_n (fun q => df3 q.2)]; exact hev) rfl
    have K2 : ∀ (Tj25 : State) (Lj25 : List Loc) (hj25 : Heap) (vmj25 : Vm) (nj25 : Nat) (ev : Int32) (Xj25 : Stand p l e room_1 (s.setVm vmj25) m #[(.int p1), (.int p2), (.int p3), (.int p4), (.int p5), (.int p6)] below meth c Tj25 Lj25 24 2000) (ej25 : Tj25.heap = hj25) (Nj25 : Fr n0 Lj25) (Kj25 : Keep h0 hj25 []) (hSj25 : s.Since vmj25 nj25) (hkj25 : nj25 ≤ hj25.size) (hZj25 : Z.Warmed39 (s.setVm vmj25).vm) (hownj25 : (s.setVm vmj25).vm.findClass "com/example/idpd/idpd/TextsPrefixPinLaw" = some m.cls) (hev : ev.toInt = ((tE (pr us4) N M 2 : Nat) : Int)) (hSm : hj20 = hj25), OwnG p e below (OwnEW s (Q0  h0 n0) room_1.cells room_1.slots) (Tj25.setTop (mkF m 113 #[.val (.int p1), .val (.int p2), .val (.int p3), .val (.int p4), .val (.int p5), .val (.int p6), .val (.int nn), .val (.int mm), .val (.ref b1), .val (.ref r0), .val (.int ev), .unset, .unset] [])) := by
      intro Tj25 Lj25 hj25 vmj25 nj25 ev Xj25 ej25 Nj25 Kj25 hSj25 hkj25 hZj25 hownj25 hev hSm
      subst hSm
      refine own_by (S' := Tj25.setTop (mkF m 115 #[.val (.int p1), .val (.int p2), .val (.int p3), .val (.int p4), .val (.int p5), .val (.int p6), .val (.int nn), .val (.int mm), .val (.ref b1), .val (.ref r0), .val (.int ev), .unset, .unset] [(.int mm)])) (fun tZ kZ => XS.iload Xj25.here hx rfl (hb hby at_113) rfl kZ) ?_
      refine own_by (S' := Tj25.setTop (mkF m 116 #[.val (.int p1), .val (.int p2), .val (.int p3), .val (.int p4), .val (.int p5), .val (.int p6), .val (.int nn), .val (.int mm), .val (.ref b1), .val (.ref r0), .val (.int ev), .unset, .unset] [(.int (3 : Int32)), (.int mm)])) (fun tZ kZ => XS.iconst Xj25.here hx rfl (hb hby at_115) kZ) ?_
      by_cases dm2 : mm < (3 : Int32)
      · refine own_by (S' := Tj25.setTop (mkF m 137 #[.val (.int p1), .val (.int p2), .val (.int p3), .val (.int p4), .val (.int p5), .val (.int p6), .val (.int nn), .val (.int mm), .val (.ref b1), .val (.ref r0), .val (.int ev), .unset, .unset] [])) (fun tZ kZ => XS.icmpYes Xj25.here hx rfl (pc0 := 116) (pc' := 137) rfl (hb hby at_116) rfl (tlt dm2).1 (by decide) (by decide) kZ) ?_
        have dn2 : M < 3 := (own_lt (b := 3) hm rfl).mp dm2
        exact K3 _ _ _ _ _ ev Xj25 ej25 Nj25 Kj25 hSj25 hkj25 hZj25 hownj25 (by rw [tE_n (fun q => by omega)]; exact hev) rfl
      · refine own_by (S' := Tj25.setTop (mkF m 119 #[.val (.int p1), .val (.int p2), .val (.int p3), .val (.int p4), .val (.int p5), .val (.int p6), .val (.int nn), .val (.int mm), .val (.ref b1), .val (.ref r0), .val (.int ev), .unset, .unset] [])) (fun tZ kZ => XS.icmpNo Xj25.here hx rfl (hb hby at_116) rfl (flt dm2).1 kZ) ?_
        have dn2 : ¬ M < 3 := fun q => dm2 ((own_lt (b := 3) hm rfl).mpr q)
        refine own_by (S' := Tj25.setTop (mkF m 121 #[.val (.int p1), .val (.int p2), .val (.int p3), .val (.int p4), .val (.int p5), .val (.int p6), .val (.int nn), .val (.int mm), .val (.ref b1), .val (.ref r0), .val (.int ev), .unset, .unset] [(.int ev)])) (fun tZ kZ => XS.iload Xj25.here hx rfl (hb hby at_119) rfl kZ) ?_
        refine own_by (S' := Tj25.setTop (mkF m 123 #[.val (.int p1), .val (.int p2), .val (.int p3), .val (.int p4), .val (.int p5), .val (.int p6), .val (.int nn), .val (.int mm), .val (.ref b1), .val (.ref r0), .val (.int ev), .unset, .unset] [(.int nn), (.int ev)])) (fun tZ kZ => XS.iload Xj25.here hx rfl (hb hby at_121) rfl kZ) ?_
        by_cases de2 : ev < nn
        · refine own_by (S' := Tj25.setTop (mkF m 126 #[.val (.int p1), .val (.int p2), .val (.int p3), .val (.int p4), .val (.int p5), .val (.int p6), .val (.int nn), .val (.int mm), .val (.ref b1), .val (.ref r0), .val (.int ev), .unset, .unset] [])) (fun tZ kZ => XS.icmpNo Xj25.here hx rfl (hb hby at_123) rfl (tlt de2).2.1 kZ) ?_
          have df2 := (own_lt hev hnn).mp de2
          refine own_by (S' := Tj25.setTop (mkF m 128 #[.val (.int p1), .val (.int p2), .val (.int p3), .val (.int p4), .val (.int p5), .val (.int p6), .val (.int nn), .val (.int mm), .val (.ref b1), .val (.ref r0), .val (.int ev), .unset, .unset] [(.ref b1)])) (fun tZ kZ => XS.aload Xj25.here hx rfl (hb hby at_126) rfl rfl kZ) ?_
          refine own_by (S' := Tj25.setTop (mkF m 130 #[.val (.int p1), .val (.int p2), .val (.int p3), .val (.int p4), .val (.int p5), .val (.int p6), .val (.int nn), .val (.int mm), .val (.ref b1), .val (.ref r0), .val (.int ev), .unset, .unset] [(.int nn), (.ref b1)])) (fun tZ kZ => XS.iload Xj25.here hx rfl (hb hby at_128) rfl kZ) ?_
          refine own_by (S' := Tj25.setTop (mkF m 132 #[.val (.int p1), .val (.int p2), .val (.int p3), .val (.int p4), .val (.int p5), .val (.int p6), .val (.int nn), .val (.int mm), .val (.ref b1), .val (.ref r0), .val (.int ev), .unset, .unset] [(.int ev), (.int nn), (.ref b1)])) (fun tZ kZ => XS.iload Xj25.here hx rfl (hb hby at_130) rfl kZ) ?_
          obtain ⟨_, _, ⟨T26, L26, k26, n26⟩, -, X26, ⟨Lc26, hQ26, l26, y26, z26⟩, st26⟩ := Jvm.LawKit.callS Xj25 hx (y := (⟨"com/example/idpd/idpd/TextsPrefixPinLaw", "step", "([CII)I"⟩ : MethodName)) hownj25 (mvT hZj25 (hw_ hw 97 rfl)) (mvT hZj25 (hw_ hw 98 rfl)) (mvT hZj25 (hw_ hw 4 rfl)) (mvT hZj25 (hw_ hw 99 rfl)) (by decide) (backOf (W := 0) (rmStep l Z a0 hw [] b1 k1 us4 nn ev N _ hj20 n0 (Nat.le_trans Z0 Kj20.1) V_cj hl4 hnn hN hev df2) hZj25 (hw_ hw 99 rfl) (hw_ hw 4 rfl) (by decide) (by decide)) (g := (mkF m 132 #[.val (.int p1), .val (.int p2), .val (.int p3), .val (.int p4), .val (.int p5), .val (.int p6), .val (.int nn), .val (.int mm), .val (.ref b1), .val (.ref r0), .val (.int ev), .unset, .unset] [(.int ev), (.int nn), (.ref b1)])) rfl (by rw [hml]; rfl) (argsL := [(.ref b1), (.int nn), (.int ev)]) (rest := []) (lenOf pd_32 rfl) rfl (by show 2 * 0 + _ ≤ _; exact Nat.le_of_eq rfl) (hb hby at_132) (fun _ _ => ⟨rfl, ej25, (by decide : 24 + 0 ≤ _), (by decide : 2000 + 0 ≤ _)⟩)
          dsimp only [Pt.U, Pt.locs, Pt.cells, Pt.slots] at X26 l26 y26 z26 st26 hQ26
          subst l26 y26 z26
          obtain ⟨ez, rfl, hez, N26q, heq26⟩ := hQ26
          have N26 := Fr.app Nj25 N26q
          refine own_by (S' := T26.setTop (mkF m 135 #[.val (.int p1), .val (.int p2), .val (.int p3), .val (.int p4), .val (.int p5), .val (.int p6), .val (.int nn), .val (.int mm), .val (.ref b1), .val (.ref r0), .val (.int ev), .unset, .unset] [(.int ez)])) (fun tZ kZ => st26 _ kZ) ?_
          refine own_by (S' := T26.setTop (mkF m 137 #[.val (.int p1), .val (.int p2), .val (.int p3), .val (.int p4), .val (.int p5), .val (.int p6), .val (.int nn), .val (.int mm), .val (.ref b1), .val (.ref r0), .val (.int ez), .unset, .unset] [])) (fun tZ kZ => XS.istore X26.here hx rfl (hb hby at_135) rfl (l' := #[.val (.int p1), .val (.int p2), .val (.int p3), .val (.int p4), .val (.int p5), .val (.int p6), .val (.int nn), .val (.int mm), .val (.ref b1), .val (.ref r0), .val (.int ez), .unset, .unset]) rfl kZ) ?_
          exact K3 _ _ _ _ _ ez X26 heq26 N26 Kj25 hSj25 hkj25 hZj25 hownj25 (by rw [tE_s (by omega) df2]; exact hez) rfl
        · refine own_by (S' := Tj25.setTop (mkF m 137 #[.val (.int p1), .val (.int p2), .val (.int p3), .val (.int p4), .val (.int p5), .val (.int p6), .val (.int nn), .val (.int mm), .val (.ref b1), .val (.ref r0), .val (.int ev), .unset, .unset] [])) (fun tZ kZ => XS.icmpYes Xj25.here hx rfl (pc0 := 123) (pc' := 137) rfl (hb hby at_123) rfl (flt de2).2.1 (by decide) (by decide) kZ) ?_
          have df2 : ¬ tE (pr us4) N M 2 < N := fun q => de2 ((own_lt hev hnn).mpr q)
          exact K3 _ _ _ _ _ ev Xj25 ej25 Nj25 Kj25 hSj25 hkj25 hZj25 hownj25 (by rw [tE_n (fun q => df2 q.2)]; exact hev) rfl
    have K1 : ∀ (Tj27 : State) (Lj27 : List Loc) (hj27 : Heap) (vmj27 : Vm) (nj27 : Nat) (ev : Int32) (Xj27 : Stand p l e room_1 (s.setVm vmj27) m #[(.int p1), (.int p2), (.int p3), (.int p4), (.int p5), (.int p6)] below meth c Tj27 Lj27 24 2000) (ej27 : Tj27.heap = hj27) (Nj27 : Fr n0 Lj27) (Kj27 : Keep h0 hj27 []) (hSj27 : s.Since vmj27 nj27) (hkj27 : nj27 ≤ hj27.size) (hZj27 : Z.Warmed39 (s.setVm vmj27).vm) (hownj27 : (s.setVm vmj27).vm.findClass "com/example/idpd/idpd/TextsPrefixPinLaw" = some m.cls) (hev : ev.toInt = ((tE (pr us4) N M 1 : Nat) : Int)) (hSm : hj20 = hj27), OwnG p e below (OwnEW s (Q0  h0 n0) room_1.cells room_1.slots) (Tj27.setTop (mkF m 89 #[.val (.int p1), .val (.int p2), .val (.int p3), .val (.int p4), .val (.int p5), .val (.int p6), .val (.int nn), .val (.int mm), .val (.ref b1), .val (.ref r0), .val (.int ev), .unset, .unset] [])) := by
      intro Tj27 Lj27 hj27 vmj27 nj27 ev Xj27 ej27 Nj27 Kj27 hSj27 hkj27 hZj27 hownj27 hev hSm
      subst hSm
      refine own_by (S' := Tj27.setTop (mkF m 91 #[.val (.int p1), .val (.int p2), .val (.int p3), .val (.int p4), .val (.int p5), .val (.int p6), .val (.int nn), .val (.int mm), .val (.ref b1), .val (.ref r0), .val (.int ev), .unset, .unset] [(.int mm)])) (fun tZ kZ => XS.iload Xj27.here hx rfl (hb hby at_89) rfl kZ) ?_
      refine own_by (S' := Tj27.setTop (mkF m 92 #[.val (.int p1), .val (.int p2), .val (.int p3), .val (.int p4), .val (.int p5), .val (.int p6), .val (.int nn), .val (.int mm), .val (.ref b1), .val (.ref r0), .val (.int ev), .unset, .unset] [(.int (2 : Int32)), (.int mm)])) (fun tZ kZ => XS.iconst Xj27.here hx rfl (hb hby at_91) kZ) ?_
      by_cases dm1 : mm < (2 : Int32)
      · refine own_by (S' := Tj27.setTop (mkF m 113 #[.val (.int p1), .val (.int p2), .val (.int p3), .val (.int p4), .val (.int p5), .val (.int p6), .val (.int nn), .val (.int mm), .val (.ref b1), .val (.ref r0), .val (.int ev), .unset, .unset] [])) (fun tZ kZ => XS.icmpYes Xj27.here hx rfl (pc0 := 92) (pc' := 113) rfl (hb hby at_92) rfl (tlt dm1).1 (by decide) (by decide) kZ) ?_
        have dn1 : M < 2 := (own_lt (b := 2) hm rfl).mp dm1
        exact K2 _ _ _ _ _ ev Xj27 ej27 Nj27 Kj27 hSj27 hkj27 hZj27 hownj27 (by rw [tE_n (fun q => by omega)]; exact hev) rfl
      · refine own_by (S' := Tj27.setTop (mkF m 95 #[.val (.int p1), .val (.int p2), .val (.int p3), .val (.int p4), .val (.int p5), .val (.int p6), .val (.int nn), .val (.int mm), .val (.ref b1), .val (.ref r0), .val (.int ev), .unset, .unset] [])) (fun tZ kZ => XS.icmpNo Xj27.here hx rfl (hb hby at_92) rfl (flt dm1).1 kZ) ?_
        have dn1 : ¬ M < 2 := fun q => dm1 ((own_lt (b := 2) hm rfl).mpr q)
        refine own_by (S' := Tj27.setTop (mkF m 97 #[.val (.int p1), .val (.int p2), .val (.int p3), .val (.int p4), .val (.int p5), .val (.int p6), .val (.int nn), .val (.int mm), .val (.ref b1), .val (.ref r0), .val (.int ev), .unset, .unset] [(.int ev)])) (fun tZ kZ => XS.iload Xj27.here hx rfl (hb hby at_95) rfl kZ) ?_
        refine own_by (S' := Tj27.setTop (mkF m 99 #[.val (.int p1), .val (.int p2), .val (.int p3), .val (.int p4), .val (.int p5), .val (.int p6), .val (.int nn), .val (.int mm), .val (.ref b1), .val (.ref r0), .val (.int ev), .unset, .unset] [(.int nn), (.int ev)])) (fun tZ kZ => XS.iload Xj27.here hx rfl (hb hby at_97) rfl kZ) ?_
        by_cases de1 : ev < nn
        · refine own_by (S' := Tj27.setTop (mkF m 102 #[.val (.int p1), .val (.int p2), .val (.int p3), .val (.int p4), .val (.int p5), .val (.int p6), .val (.int nn), .val (.int mm), .val (.ref b1), .val (.ref r0), .val (.int ev), .unset, .unset] [])) (fun tZ kZ => XS.icmpNo Xj27.here hx rfl (hb hby at_99) rfl (tlt de1).2.1 kZ) ?_
          have df1 := (own_lt hev hnn).mp de1
          refine own_by (S' := Tj27.setTop (mkF m 104 #[.val (.int p1), .val (.int p2), .val (.int p3), .val (.int p4), .val (.int p5), .val (.int p6), .val (.int nn), .val (.int mm), .val (.ref b1), .val (.ref r0), .val (.int ev), .unset, .unset] [(.ref b1)])) (fun tZ kZ => XS.aload Xj27.here hx rfl (hb hby at_102) rfl rfl kZ) ?_
          refine own_by (S' := Tj27.setTop (mkF m 106 #[.val (.int p1), .val (.int p2), .val (.int p3), .val (.int p4), .val (.int p5), .val (.int p6), .val (.int nn), .val (.int mm), .val (.ref b1), .val (.ref r0), .val (.int ev), .unset, .unset] [(.int nn), (.ref b1)])) (fun tZ kZ => XS.iload Xj27.here hx rfl (hb hby at_104) rfl kZ) ?_
          refine own_by (S' := Tj27.setTop (mkF m 108 #[.val (.int p1), .val (.int p2), .val (.int p3), .val (.int p4), .val (.int p5), .val (.int p6), .val (.int nn), .val (.int mm), .val (.ref b1), .val (.ref r0), .val (.int ev), .unset, .unset] [(.int ev), (.int nn), (.ref b1)])) (fun tZ kZ => XS.iload Xj27.here hx rfl (hb hby at_106) rfl kZ) ?_
          obtain ⟨_, _, ⟨T28, L28, k28, n28⟩, -, X28, ⟨Lc28, hQ28, l28, y28, z28⟩, st28⟩ := Jvm.LawKit.callS Xj27 hx (y := (⟨"com/example/idpd/idpd/TextsPrefixPinLaw", "step", "([CII)I"⟩ : MethodName)) hownj27 (mvT hZj27 (hw_ hw 97 rfl)) (mvT hZj27 (hw_ hw 98 rfl)) (mvT hZj27 (hw_ hw 4 rfl)) (mvT hZj27 (hw_ hw 99 rfl)) (by decide) (backOf (W := 0) (rmStep l Z a0 hw [] b1 k1 us4 nn ev N _ hj20 n0 (Nat.le_trans Z0 Kj20.1) V_cj hl4 hnn hN hev df1) hZj27 (hw_ hw 99 rfl) (hw_ hw 4 rfl) (by decide) (by decide)) (g := (mkF m 108 #[.val (.int p1), .val (.int p2), .val (.int p3), .val (.int p4), .val (.int p5), .val (.int p6), .val (.int nn), .val (.int mm), .val (.ref b1), .val (.ref r0), .val (.int ev), .unset, .unset] [(.int ev), (.int nn), (.ref b1)])) rfl (by rw [hml]; rfl) (argsL := [(.ref b1), (.int nn), (.int ev)]) (rest := []) (lenOf pd_32 rfl) rfl (by show 2 * 0 + _ ≤ _; exact Nat.le_of_eq rfl) (hb hby at_108) (fun _ _ => ⟨rfl, ej27, (by decide : 24 + 0 ≤ _), (by decide : 2000 + 0 ≤ _)⟩)
          dsimp only [Pt.U, Pt.locs, Pt.cells, Pt.slots] at X28 l28 y28 z28 st28 hQ28
          subst l28 y28 z28
          obtain ⟨ez, rfl, hez, N28q, heq28⟩ := hQ28
          have N28 := Fr.app Nj27 N28q
          refine own_by (S' := T28.setTop (mkF m 111 #[.val (.int p1), .val (.int p2), .val (.int p3), .val (.int p4), .val (.int p5), .val (.int p6), .val (.int nn), .val (.int mm), .val (.ref b1), .val (.ref r0), .val (.int ev), .unset, .unset] [(.int ez)])) (fun tZ kZ => st28 _ kZ) ?_
          refine own_by (S' := T28.setTop (mkF m 113 #[.val (.int p1), .val (.int p2), .val (.int p3), .val (.int p4), .val (.int p5), .val (.int p6), .val (.int nn), .val (.int mm), .val (.ref b1), .val (.ref r0), .val (.int ez), .unset, .unset] [])) (fun tZ kZ => XS.istore X28.here hx rfl (hb hby at_111) rfl (l' := #[.val (.int p1), .val (.int p2), .val (.int p3), .val (.int p4), .val (.int p5), .val (.int p6), .val (.int nn), .val (.int mm), .val (.ref b1), .val (.ref r0), .val (.int ez), .unset, .unset]) rfl kZ) ?_
          exact K2 _ _ _ _ _ ez X28 heq28 N28 Kj27 hSj27 hkj27 hZj27 hownj27 (by rw [tE_s (by omega) df1]; exact hez) rfl
        · refine own_by (S' := Tj27.setTop (mkF m 113 #[.val (.int p1), .val (.int p2), .val (.int p3), .val (.int p4), .val (.int p5), .val (.int p6), .val (.int nn), .val (.int mm), .val (.ref b1), .val (.ref r0), .val (.int ev), .unset, .unset] [])) (fun tZ kZ => XS.icmpYes Xj27.here hx rfl (pc0 := 99) (pc' := 113) rfl (hb hby at_99) rfl (flt de1).2.1 (by decide) (by decide) kZ) ?_
          have df1 : ¬ tE (pr us4) N M 1 < N := fun q => de1 ((own_lt hev hnn).mpr q)
          exact K2 _ _ _ _ _ ev Xj27 ej27 Nj27 Kj27 hSj27 hkj27 hZj27 hownj27 (by rw [tE_n (fun q => df1 q.2)]; exact hev) rfl
    refine own_by (S' := Tj20.setTop (mkF m 67 #[.val (.int p1), .val (.int p2), .val (.int p3), .val (.int p4), .val (.int p5), .val (.int p6), .val (.int nn), .val (.int mm), .val (.ref b1), .val (.ref r0), .val (.int (0 : Int32)), .unset, .unset] [(.int mm)])) (fun tZ kZ => XS.iload Xj20.here hx rfl (hb hby at_65) rfl kZ) ?_
    refine own_by (S' := Tj20.setTop (mkF m 68 #[.val (.int p1), .val (.int p2), .val (.int p3), .val (.int p4), .val (.int p5), .val (.int p6), .val (.int nn), .val (.int mm), .val (.ref b1), .val (.ref r0), .val (.int (0 : Int32)), .unset, .unset] [(.int (1 : Int32)), (.int mm)])) (fun tZ kZ => XS.iconst Xj20.here hx rfl (hb hby at_67) kZ) ?_
    by_cases dm0 : mm < (1 : Int32)
    · refine own_by (S' := Tj20.setTop (mkF m 89 #[.val (.int p1), .val (.int p2), .val (.int p3), .val (.int p4), .val (.int p5), .val (.int p6), .val (.int nn), .val (.int mm), .val (.ref b1), .val (.ref r0), .val (.int (0 : Int32)), .unset, .unset] [])) (fun tZ kZ => XS.icmpYes Xj20.here hx rfl (pc0 := 68) (pc' := 89) rfl (hb hby at_68) rfl (tlt dm0).1 (by decide) (by decide) kZ) ?_
      have dn0 : M < 1 := (own_lt (b := 1) hm rfl).mp dm0
      exact K1 _ _ _ _ _ (0 : Int32) Xj20 ej20 Nj20 Kj20 hSj20 hkj20 hZj20 hownj20 (by rw [tE_n (fun q => by omega)]; exact hE0) rfl
    · refine own_by (S' := Tj20.setTop (mkF m 71 #[.val (.int p1), .val (.int p2), .val (.int p3), .val (.int p4), .val (.int p5), .val (.int p6), .val (.int nn), .val (.int mm), .val (.ref b1), .val (.ref r0), .val (.int (0 : Int32)), .unset, .unset] [])) (fun tZ kZ => XS.icmpNo Xj20.here hx rfl (hb hby at_68) rfl (flt dm0).1 kZ) ?_
      have dn0 : ¬ M < 1 := fun q => dm0 ((own_lt (b := 1) hm rfl).mpr q)
      refine own_by (S' := Tj20.setTop (mkF m 73 #[.val (.int p1), .val (.int p2), .val (.int p3), .val (.int p4), .val (.int p5), .val (.int p6), .val (.int nn), .val (.int mm), .val (.ref b1), .val (.ref r0), .val (.int (0 : Int32)), .unset, .unset] [(.int (0 : Int32))])) (fun tZ kZ => XS.iload Xj20.here hx rfl (hb hby at_71) rfl kZ) ?_
      refine own_by (S' := Tj20.setTop (mkF m 75 #[.val (.int p1), .val (.int p2), .val (.int p3), .val (.int p4), .val (.int p5), .val (.int p6), .val (.int nn), .val (.int mm), .val (.ref b1), .val (.ref r0), .val (.int (0 : Int32)), .unset, .unset] [(.int nn), (.int (0 : Int32))])) (fun tZ kZ => XS.iload Xj20.here hx rfl (hb hby at_73) rfl kZ) ?_
      by_cases de0 : (0 : Int32) < nn
      · refine own_by (S' := Tj20.setTop (mkF m 78 #[.val (.int p1), .val (.int p2), .val (.int p3), .val (.int p4), .val (.int p5), .val (.int p6), .val (.int nn), .val (.int mm), .val (.ref b1), .val (.ref r0), .val (.int (0 : Int32)), .unset, .unset] [])) (fun tZ kZ => XS.icmpNo Xj20.here hx rfl (hb hby at_75) rfl (tlt de0).2.1 kZ) ?_
        have df0 := (own_lt hE0 hnn).mp de0
        refine own_by (S' := Tj20.setTop (mkF m 80 #[.val (.int p1), .val (.int p2), .val (.int p3), .val (.int p4), .val (.int p5), .val (.int p6), .val (.int nn), .val (.int mm), .val (.ref b1), .val (.ref r0), .val (.int (0 : Int32)), .unset, .unset] [(.ref b1)])) (fun tZ kZ => XS.aload Xj20.here hx rfl (hb hby at_78) rfl rfl kZ) ?_
        refine own_by (S' := Tj20.setTop (mkF m 82 #[.val (.int p1), .val (.int p2), .val (.int p3), .val (.int p4), .val (.int p5), .val (.int p6), .val (.int nn), .val (.int mm), .val (.ref b1), .val (.ref r0), .val (.int (0 : Int32)), .unset, .unset] [(.int nn), (.ref b1)])) (fun tZ kZ => XS.iload Xj20.here hx rfl (hb hby at_80) rfl kZ) ?_
        refine own_by (S' := Tj20.setTop (mkF m 84 #[.val (.int p1), .val (.int p2), .val (.int p3), .val (.int p4), .val (.int p5), .val (.int p6), .val (.int nn), .val (.int mm), .val (.ref b1), .val (.ref r0), .val (.int (0 : Int32)), .unset, .unset] [(.int (0 : Int32)), (.int nn), (.ref b1)])) (fun tZ kZ => XS.iload Xj20.here hx rfl (hb hby at_82) rfl kZ) ?_
        obtain ⟨_, _, ⟨T29, L29, k29, n29⟩, -, X29, ⟨Lc29, hQ29, l29, y29, z29⟩, st29⟩ := Jvm.LawKit.callS Xj20 hx (y := (⟨"com/example/idpd/idpd/TextsPrefixPinLaw", "step", "([CII)I"⟩ : MethodName)) hownj20 (mvT hZj20 (hw_ hw 97 rfl)) (mvT hZj20 (hw_ hw 98 rfl)) (mvT hZj20 (hw_ hw 4 rfl)) (mvT hZj20 (hw_ hw 99 rfl)) (by decide) (backOf (W := 0) (rmStep l Z a0 hw [] b1 k1 us4 nn (0 : Int32) N _ hj20 n0 (Nat.le_trans Z0 Kj20.1) V_cj hl4 hnn hN hE0 df0) hZj20 (hw_ hw 99 rfl) (hw_ hw 4 rfl) (by decide) (by decide)) (g := (mkF m 84 #[.val (.int p1), .val (.int p2), .val (.int p3), .val (.int p4), .val (.int p5), .val (.int p6), .val (.int nn), .val (.int mm), .val (.ref b1), .val (.ref r0), .val (.int (0 : Int32)), .unset, .unset] [(.int (0 : Int32)), (.int nn), (.ref b1)])) rfl (by rw [hml]; rfl) (argsL := [(.ref b1), (.int nn), (.int (0 : Int32))]) (rest := []) (lenOf pd_32 rfl) rfl (by show 2 * 0 + _ ≤ _; exact Nat.le_of_eq rfl) (hb hby at_84) (fun _ _ => ⟨rfl, ej20, (by decide : 24 + 0 ≤ _), (by decide : 2000 + 0 ≤ _)⟩)
        dsimp only [Pt.U, Pt.locs, Pt.cells, Pt.slots] at X29 l29 y29 z29 st29 hQ29
        subst l29 y29 z29
        obtain ⟨ez, rfl, hez, N29q, heq29⟩ := hQ29
        have N29 := Fr.app Nj20 N29q
        refine own_by (S' := T29.setTop (mkF m 87 #[.val (.int p1), .val (.int p2), .val (.int p3), .val (.int p4), .val (.int p5), .val (.int p6), .val (.int nn), .val (.int mm), .val (.ref b1), .val (.ref r0), .val (.int (0 : Int32)), .unset, .unset] [(.int ez)])) (fun tZ kZ => st29 _ kZ) ?_
        refine own_by (S' := T29.setTop (mkF m 89 #[.val (.int p1), .val (.int p2), .val (.int p3), .val (.int p4), .val (.int p5), .val (.int p6), .val (.int nn), .val (.int mm), .val (.ref b1), .val (.ref r0), .val (.int ez), .unset, .unset] [])) (fun tZ kZ => XS.istore X29.here hx rfl (hb hby at_87) rfl (l' := #[.val (.int p1), .val (.int p2), .val (.int p3), .val (.int p4), .val (.int p5), .val (.int p6), .val (.int nn), .val (.int mm), .val (.ref b1), .val (.ref r0), .val (.int ez), .unset, .unset]) rfl kZ) ?_
        exact K1 _ _ _ _ _ ez X29 heq29 N29 Kj20 hSj20 hkj20 hZj20 hownj20 (by rw [tE_s (by omega) df0]; exact hez) rfl
      · refine own_by (S' := Tj20.setTop (mkF m 89 #[.val (.int p1), .val (.int p2), .val (.int p3), .val (.int p4), .val (.int p5), .val (.int p6), .val (.int nn), .val (.int mm), .val (.ref b1), .val (.ref r0), .val (.int (0 : Int32)), .unset, .unset] [])) (fun tZ kZ => XS.icmpYes Xj20.here hx rfl (pc0 := 75) (pc' := 89) rfl (hb hby at_75) rfl (flt de0).2.1 (by decide) (by decide) kZ) ?_
        have df0 : ¬ tE (pr us4) N M 0 < N := fun q => de0 ((own_lt hE0 hnn).mpr q)
        exact K1 _ _ _ _ _ (0 : Int32) Xj20 ej20 Nj20 Kj20 hSj20 hkj20 hZj20 hownj20 (by rw [tE_n (fun q => df0 q.2)]; exact hE0) rfl
  have J60 : ∀ (Tj30 : State) (Lj30 : List Loc) (hj30 : Heap) (nn : Int32) (N : Nat) (r0 : Addr) (Xj30 : Stand p l e room_1 (s.setVm s.vm) m #[(.int p1), (.int p2), (.int p3), (.int p4), (.int p5), (.int p6)] below meth c Tj30 Lj30 24 2000) (ej30 : Tj30.heap = hj30) (Nj30 : Fr n0 Lj30) (Kj30 : Keep h0 hj30 []) (hnn : nn.toInt = N) (hN : N ≤ 4) (h1N : 1 ≤ N) (V_cj : OwnA Z hj30 b1 k1 .char (cV us4)) (Sj : OwnStr Z hj30 r0 (us4.take N)) (Wj : OwnW Z hj30 cz fm) (EZj : Ext Z.heap hj30), OwnG p e below (OwnEW s (Q0  h0 n0) room_1.cells room_1.slots) (Tj30.setTop (mkF m 60 #[.val (.int p1), .val (.int p2), .val (.int p3), .val (.int p4), .val (.int p5), .val (.int p6), .val (.int nn), .val (.int mm), .val (.ref b1), .unset, .unset, .unset, .unset] [(.ref r0)])) := by
    intro Tj30 Lj30 hj30 nn N r0 Xj30 ej30 Nj30 Kj30 hnn hN h1N V_cj Sj Wj EZj
    have hlN : (us4.take N).length = N := by rw [List.length_take]; omega
    by_cases hM0 : M = 0
    · have hmz : mm.toInt = ((0 : Nat) : Int) := by rw [hm, hM0]
      refine own_by (S' := Tj30.setTop (mkF m 62 #[.val (.int p1), .val (.int p2), .val (.int p3), .val (.int p4), .val (.int p5), .val (.int p6), .val (.int nn), .val (.int mm), .val (.ref b1), .val (.ref r0), .unset, .unset, .unset] [])) (fun tZ kZ => XS.astore Xj30.here hx rfl (hb hby at_60) rfl rfl (l' := #[.val (.int p1), .val (.int p2), .val (.int p3), .val (.int p4), .val (.int p5), .val (.int p6), .val (.int nn), .val (.int mm), .val (.ref b1), .val (.ref r0), .unset, .unset, .unset]) rfl kZ) ?_
      refine own_by (S' := Tj30.setTop (mkF m 63 #[.val (.int p1), .val (.int p2), .val (.int p3), .val (.int p4), .val (.int p5), .val (.int p6), .val (.int nn), .val (.int mm), .val (.ref b1), .val (.ref r0), .unset, .unset, .unset] [(.int (0 : Int32))])) (fun tZ kZ => XS.iconst Xj30.here hx rfl (hb hby at_62) kZ) ?_
      refine own_by (S' := Tj30.setTop (mkF m 65 #[.val (.int p1), .val (.int p2), .val (.int p3), .val (.int p4), .val (.int p5), .val (.int p6), .val (.int nn), .val (.int mm), .val (.ref b1), .val (.ref r0), .val (.int (0 : Int32)), .unset, .unset] [])) (fun tZ kZ => XS.istore Xj30.here hx rfl (hb hby at_63) rfl (l' := #[.val (.int p1), .val (.int p2), .val (.int p3), .val (.int p4), .val (.int p5), .val (.int p6), .val (.int nn), .val (.int mm), .val (.ref b1), .val (.ref r0), .val (.int (0 : Int32)), .unset, .unset]) rfl kZ) ?_
      refine own_by (S' := Tj30.setTop (mkF m 67 #[.val (.int p1), .val (.int p2), .val (.int p3), .val (.int p4), .val (.int p5), .val (.int p6), .val (.int nn), .val (.int mm), .val (.ref b1), .val (.ref r0), .val (.int (0 : Int32)), .unset, .unset] [(.int mm)])) (fun tZ kZ => XS.iload Xj30.here hx rfl (hb hby at_65) rfl kZ) ?_
      refine own_by (S' := Tj30.setTop (mkF m 68 #[.val (.int p1), .val (.int p2), .val (.int p3), .val (.int p4), .val (.int p5), .val (.int p6), .val (.int nn), .val (.int mm), .val (.ref b1), .val (.ref r0), .val (.int (0 : Int32)), .unset, .unset] [(.int (1 : Int32)), (.int mm)])) (fun tZ kZ => XS.iconst Xj30.here hx rfl (hb hby at_67) kZ) ?_
      refine own_by (S' := Tj30.setTop (mkF m 89 #[.val (.int p1), .val (.int p2), .val (.int p3), .val (.int p4), .val (.int p5), .val (.int p6), .val (.int nn), .val (.int mm), .val (.ref b1), .val (.ref r0), .val (.int (0 : Int32)), .unset, .unset] [])) (fun tZ kZ => XS.icmpYes Xj30.here hx rfl (pc0 := 68) (pc' := 89) rfl (hb hby at_68) rfl (tlt ((own_lt (b := 1) hmz rfl).mpr (by decide))).1 (by decide) (by decide) kZ) ?_
      refine own_by (S' := Tj30.setTop (mkF m 91 #[.val (.int p1), .val (.int p2), .val (.int p3), .val (.int p4), .val (.int p5), .val (.int p6), .val (.int nn), .val (.int mm), .val (.ref b1), .val (.ref r0), .val (.int (0 : Int32)), .unset, .unset] [(.int mm)])) (fun tZ kZ => XS.iload Xj30.here hx rfl (hb hby at_89) rfl kZ) ?_
      refine own_by (S' := Tj30.setTop (mkF m 92 #[.val (.int p1), .val (.int p2), .val (.int p3), .val (.int p4), .val (.int p5), .val (.int p6), .val (.int nn), .val (.int mm), .val (.ref b1), .val (.ref r0), .val (.int (0 : Int32)), .unset, .unset] [(.int (2 : Int32)), (.int mm)])) (fun tZ kZ => XS.iconst Xj30.here hx rfl (hb hby at_91) kZ) ?_
      refine own_by (S' := Tj30.setTop (mkF m 113 #[.val (.int p1), .val (.int p2), .val (.int p3), .val (.int p4), .val (.int p5), .val (.int p6), .val (.int nn), .val (.int mm), .val (.ref b1), .val (.ref r0), .val (.int (0 : Int32)), .unset, .unset] [])) (fun tZ kZ => XS.icmpYes Xj30.here hx rfl (pc0 := 92) (pc' := 113) rfl (hb hby at_92) rfl (tlt ((own_lt (b := 2) hmz rfl).mpr (by decide))).1 (by decide) (by decide) kZ) ?_
      refine own_by (S' := Tj30.setTop (mkF m 115 #[.val (.int p1), .val (.int p2), .val (.int p3), .val (.int p4), .val (.int p5), .val (.int p6), .val (.int nn), .val (.int mm), .val (.ref b1), .val (.ref r0), .val (.int (0 : Int32)), .unset, .unset] [(.int mm)])) (fun tZ kZ => XS.iload Xj30.here hx rfl (hb hby at_113) rfl kZ) ?_
      refine own_by (S' := Tj30.setTop (mkF m 116 #[.val (.int p1), .val (.int p2), .val (.int p3), .val (.int p4), .val (.int p5), .val (.int p6), .val (.int nn), .val (.int mm), .val (.ref b1), .val (.ref r0), .val (.int (0 : Int32)), .unset, .unset] [(.int (3 : Int32)), (.int mm)])) (fun tZ kZ => XS.iconst Xj30.here hx rfl (hb hby at_115) kZ) ?_
      refine own_by (S' := Tj30.setTop (mkF m 137 #[.val (.int p1), .val (.int p2), .val (.int p3), .val (.int p4), .val (.int p5), .val (.int p6), .val (.int nn), .val (.int mm), .val (.ref b1), .val (.ref r0), .val (.int (0 : Int32)), .unset, .unset] [])) (fun tZ kZ => XS.icmpYes Xj30.here hx rfl (pc0 := 116) (pc' := 137) rfl (hb hby at_116) rfl (tlt ((own_lt (b := 3) hmz rfl).mpr (by decide))).1 (by decide) (by decide) kZ) ?_
      refine own_by (S' := Tj30.setTop (mkF m 139 #[.val (.int p1), .val (.int p2), .val (.int p3), .val (.int p4), .val (.int p5), .val (.int p6), .val (.int nn), .val (.int mm), .val (.ref b1), .val (.ref r0), .val (.int (0 : Int32)), .unset, .unset] [(.int mm)])) (fun tZ kZ => XS.iload Xj30.here hx rfl (hb hby at_137) rfl kZ) ?_
      refine own_by (S' := Tj30.setTop (mkF m 140 #[.val (.int p1), .val (.int p2), .val (.int p3), .val (.int p4), .val (.int p5), .val (.int p6), .val (.int nn), .val (.int mm), .val (.ref b1), .val (.ref r0), .val (.int (0 : Int32)), .unset, .unset] [(.int (4 : Int32)), (.int mm)])) (fun tZ kZ => XS.iconst Xj30.here hx rfl (hb hby at_139) kZ) ?_
      refine own_by (S' := Tj30.setTop (mkF m 161 #[.val (.int p1), .val (.int p2), .val (.int p3), .val (.int p4), .val (.int p5), .val (.int p6), .val (.int nn), .val (.int mm), .val (.ref b1), .val (.ref r0), .val (.int (0 : Int32)), .unset, .unset] [])) (fun tZ kZ => XS.icmpYes Xj30.here hx rfl (pc0 := 140) (pc' := 161) rfl (hb hby at_140) rfl (tlt ((own_lt (b := 4) hmz rfl).mpr (by decide))).1 (by decide) (by decide) kZ) ?_
      refine own_by (S' := Tj30.setTop (mkF m 163 #[.val (.int p1), .val (.int p2), .val (.int p3), .val (.int p4), .val (.int p5), .val (.int p6), .val (.int nn), .val (.int mm), .val (.ref b1), .val (.ref r0), .val (.int (0 : Int32)), .unset, .unset] [(.ref r0)])) (fun tZ kZ => XS.aload Xj30.here hx rfl (hb hby at_161) rfl rfl kZ) ?_
      refine own_by (S' := Tj30.setTop (mkF m 165 #[.val (.int p1), .val (.int p2), .val (.int p3), .val (.int p4), .val (.int p5), .val (.int p6), .val (.int nn), .val (.int mm), .val (.ref b1), .val (.ref r0), .val (.int (0 : Int32)), .unset, .unset] [(.int mm), (.ref r0)])) (fun tZ kZ => XS.iload Xj30.here hx rfl (hb hby at_163) rfl kZ) ?_
      obtain ⟨_, _, ⟨T31, L31, k31, n31⟩, -, X31, hS31, hg31, ⟨Lc31, hQ31, l31, y31, z31⟩, st31⟩ := callSS Xj30 hx (y := (⟨"com/example/idpd/idpd/Texts", "prefix", "(Ljava/lang/String;I)Ljava/lang/String;"⟩ : MethodName)) hown0 (mvT hZ0 (hw_ hw 33 rfl)) (mvT hZ0 (hw_ hw 34 rfl)) (mvT hZ0 (hw_ hw 35 rfl)) (mvT hZ0 (hw_ hw 36 rfl)) (by decide) (own_backH (Q := QStr Z [] hj30 n0) (I := fun _ => True) (W := 0) (rmPreH l Z a0 hw [] r0 (us4.take N) nn mm cz fm hj30 n0 (Nat.le_trans Z0 Kj30.1) EZj HC hcw Sj (by omega) Wj (by rw [hlN]; exact hnn) (own_hust cu4 N) hmz (by omega)) hZH0 (hw_ hw 36 rfl) (hw_ hw 35 rfl) (by decide) (by decide)) (g := (mkF m 165 #[.val (.int p1), .val (.int p2), .val (.int p3), .val (.int p4), .val (.int p5), .val (.int p6), .val (.int nn), .val (.int mm), .val (.ref b1), .val (.ref r0), .val (.int (0 : Int32)), .unset, .unset] [(.int mm), (.ref r0)])) rfl (by rw [hml]; rfl) (argsL := [(.ref r0), (.int mm)]) (rest := []) (lenOf pd_31 rfl) rfl (by show 2 * 0 + _ ≤ _; exact Nat.le_of_eq rfl) (hb hby at_165) (fun _ _ => ⟨rfl, ej30, (by decide : 24 + 2 ≤ _), (by decide : 2000 + 4 ≤ _)⟩)
      dsimp only [Pt.U, Pt.locs, Pt.cells, Pt.slots] at X31 l31 y31 z31 st31 hQ31 hS31 hg31
      subst l31 y31 z31
      obtain ⟨⟨rr, rfl, N31q, Kc31, qs31⟩, -⟩ := hQ31
      have N31 := Fr.app Nj30 N31q
      obtain ⟨X31, hS31, hZ31, hown31⟩ := rebS hS0 (Nat.zero_le hj30.size) X31 hS31 (by rw [← ej30]; exact hg31) hZ0 hown0
      have Zs31 := Nat.le_trans (Nat.le_trans Z0 Kj30.1) Kc31.1
      have Ec31 := own_ext0 Kc31
      have K31 := Kj30.ext Ec31
      refine own_by (S' := T31.setTop (mkF m 168 #[.val (.int p1), .val (.int p2), .val (.int p3), .val (.int p4), .val (.int p5), .val (.int p6), .val (.int nn), .val (.int mm), .val (.ref b1), .val (.ref r0), .val (.int (0 : Int32)), .unset, .unset] [(.ref rr)])) (fun tZ kZ => st31.trans kZ) ?_
      refine own_by (S' := T31.setTop (mkF m 170 #[.val (.int p1), .val (.int p2), .val (.int p3), .val (.int p4), .val (.int p5), .val (.int p6), .val (.int nn), .val (.int mm), .val (.ref b1), .val (.ref r0), .val (.int (0 : Int32)), .val (.ref rr), .unset] [])) (fun tZ kZ => XS.astore X31.here hx rfl (hb hby at_168) rfl rfl (l' := #[.val (.int p1), .val (.int p2), .val (.int p3), .val (.int p4), .val (.int p5), .val (.int p6), .val (.int nn), .val (.int mm), .val (.ref b1), .val (.ref r0), .val (.int (0 : Int32)), .val (.ref rr), .unset]) rfl kZ) ?_
      exact J170 _ _ _ _ _ nn N r0 rr _ 0 (X31.mono (by decide) (by decide)) rfl N31 K31 hS31 (Nat.le_refl _) hZ31 hown31 hnn hN rfl (Nat.zero_le _) (V_cj.ext Ec31) qs31 (Wj.ext Ec31)
    · refine own_by (S' := Tj30.setTop (mkF m 62 #[.val (.int p1), .val (.int p2), .val (.int p3), .val (.int p4), .val (.int p5), .val (.int p6), .val (.int nn), .val (.int mm), .val (.ref b1), .val (.ref r0), .unset, .unset, .unset] [])) (fun tZ kZ => XS.astore Xj30.here hx rfl (hb hby at_60) rfl rfl (l' := #[.val (.int p1), .val (.int p2), .val (.int p3), .val (.int p4), .val (.int p5), .val (.int p6), .val (.int nn), .val (.int mm), .val (.ref b1), .val (.ref r0), .unset, .unset, .unset]) rfl kZ) ?_
      refine own_by (S' := Tj30.setTop (mkF m 63 #[.val (.int p1), .val (.int p2), .val (.int p3), .val (.int p4), .val (.int p5), .val (.int p6), .val (.int nn), .val (.int mm), .val (.ref b1), .val (.ref r0), .unset, .unset, .unset] [(.int (0 : Int32))])) (fun tZ kZ => XS.iconst Xj30.here hx rfl (hb hby at_62) kZ) ?_
      refine own_by (S' := Tj30.setTop (mkF m 65 #[.val (.int p1), .val (.int p2), .val (.int p3), .val (.int p4), .val (.int p5), .val (.int p6), .val (.int nn), .val (.int mm), .val (.ref b1), .val (.ref r0), .val (.int (0 : Int32)), .unset, .unset] [])) (fun tZ kZ => XS.istore Xj30.here hx rfl (hb hby at_63) rfl (l' := #[.val (.int p1), .val (.int p2), .val (.int p3), .val (.int p4), .val (.int p5), .val (.int p6), .val (.int nn), .val (.int mm), .val (.ref b1), .val (.ref r0), .val (.int (0 : Int32)), .unset, .unset]) rfl kZ) ?_
      exact J65 _ _ _ _ _ nn N r0 Xj30 ej30 Nj30 Kj30 hS0 (Nat.zero_le hj30.size) hZ0 hown0 hnn hN V_cj Sj Wj (Or.inr (by omega))
  have hv5 := own_n5 p1
  rw [← hvn] at hv5
  rcases hv5 with rfl | rfl | rfl | rfl | rfl
  · have ExK9 := own_ext0 K9
    obtain ⟨_, _, ⟨T32, L32, k32, n32⟩, -, X32, hS32, hg32, ⟨Lc32, hQ32, l32, y32, z32⟩, st32⟩ := callSS X9 hx (y := (⟨"com/example/idpd/idpd/TextsPrefixPinLaw", "make", "(I[C)Ljava/lang/String;"⟩ : MethodName)) hown0 (mvT hZ0 (hw_ hw 9 rfl)) (mvT hZ0 (hw_ hw 10 rfl)) (mvT hZ0 (hw_ hw 4 rfl)) (mvT hZ0 (hw_ hw 11 rfl)) (by decide) (own_backH (Q := QStr Z [] h9 n0) (I := fun _ => True) (W := 0) (rmMakeH l Z a0 hw [] b1 h9 n0 Zs9 (⟨Nat.le_trans EZ.1 ExK9.1, fun aZ cZ qZ => ExK9.2 aZ cZ (EZ.2 aZ cZ qZ)⟩) HC hcw) hZH0 (hw_ hw 11 rfl) (hw_ hw 4 rfl) (by decide) (by decide)) (g := (mkF m 57 #[.val (.int p1), .val (.int p2), .val (.int p3), .val (.int p4), .val (.int p5), .val (.int p6), .val (.int (0 : Int32)), .val (.int mm), .val (.ref b1), .unset, .unset, .unset, .unset] [(.ref b1), (.int (0 : Int32))])) rfl (by rw [hml]; rfl) (argsL := [(.int (0 : Int32)), (.ref b1)]) (rest := []) (lenOf pd_33 rfl) rfl (by show 2 * 0 + _ ≤ _; exact Nat.le_of_eq rfl) (hb hby at_57) (fun _ _ => ⟨rfl, e9, (by decide : 1 + 4 ≤ _), (by decide : 4 + 8 ≤ _)⟩)
    dsimp only [Pt.U, Pt.locs, Pt.cells, Pt.slots] at X32 l32 y32 z32 st32 hQ32 hS32 hg32
    subst l32 y32 z32
    obtain ⟨⟨rr, rfl, N32q, Kc32, qs32⟩, -⟩ := hQ32
    have N32 := Fr.app N9 N32q
    obtain ⟨X32, hS32, hZ32, hown32⟩ := rebS hS0 hk9 X32 hS32 (by rw [← e9]; exact hg32) hZ0 hown0
    have Zs32 := Nat.le_trans Zs9 Kc32.1
    have Ec32 := own_ext0 Kc32
    have K32 := K9.ext Ec32
    have V_b1_32 := V_b1_w9.ext Ec32
    refine own_by (S' := T32.setTop (mkF m 60 #[.val (.int p1), .val (.int p2), .val (.int p3), .val (.int p4), .val (.int p5), .val (.int p6), .val (.int (0 : Int32)), .val (.int mm), .val (.ref b1), .unset, .unset, .unset, .unset] [(.ref rr)])) (fun tZ kZ => st32.trans kZ) ?_
    refine own_by (S' := T32.setTop (mkF m 62 #[.val (.int p1), .val (.int p2), .val (.int p3), .val (.int p4), .val (.int p5), .val (.int p6), .val (.int (0 : Int32)), .val (.int mm), .val (.ref b1), .val (.ref rr), .unset, .unset, .unset] [])) (fun tZ kZ => XS.astore X32.here hx rfl (hb hby at_60) rfl rfl (l' := #[.val (.int p1), .val (.int p2), .val (.int p3), .val (.int p4), .val (.int p5), .val (.int p6), .val (.int (0 : Int32)), .val (.int mm), .val (.ref b1), .val (.ref rr), .unset, .unset, .unset]) rfl kZ) ?_
    refine own_by (S' := T32.setTop (mkF m 63 #[.val (.int p1), .val (.int p2), .val (.int p3), .val (.int p4), .val (.int p5), .val (.int p6), .val (.int (0 : Int32)), .val (.int mm), .val (.ref b1), .val (.ref rr), .unset, .unset, .unset] [(.int (0 : Int32))])) (fun tZ kZ => XS.iconst X32.here hx rfl (hb hby at_62) kZ) ?_
    refine own_by (S' := T32.setTop (mkF m 65 #[.val (.int p1), .val (.int p2), .val (.int p3), .val (.int p4), .val (.int p5), .val (.int p6), .val (.int (0 : Int32)), .val (.int mm), .val (.ref b1), .val (.ref rr), .val (.int (0 : Int32)), .unset, .unset] [])) (fun tZ kZ => XS.istore X32.here hx rfl (hb hby at_63) rfl (l' := #[.val (.int p1), .val (.int p2), .val (.int p3), .val (.int p4), .val (.int p5), .val (.int p6), .val (.int (0 : Int32)), .val (.int mm), .val (.ref b1), .val (.ref rr), .val (.int (0 : Int32)), .unset, .unset]) rfl kZ) ?_
    have ExK32 := own_ext0 K32
    exact J65 _ _ _ _ _ _ 0 rr (X32.mono (by decide) (by decide)) rfl N32 K32 hS32 (Nat.le_refl _) hZ32 hown32 rfl (by decide) (V_c4.ext Ec32) qs32 (W.ext ExK32) (Or.inl rfl)
  · rw [hus4] at V_c4
    have ExK9 := own_ext0 K9
    obtain ⟨_, _, ⟨T33, L33, k33, n33⟩, -, X33, ⟨Lc33, hQ33, l33, y33, z33⟩, st33⟩ := Jvm.LawKit.callS X9 hx (y := (⟨"com/example/idpd/idpd/TextsPrefixPinLaw", "make", "(I[C)Ljava/lang/String;"⟩ : MethodName)) hown0 (mvT hZ0 (hw_ hw 9 rfl)) (mvT hZ0 (hw_ hw 10 rfl)) (mvT hZ0 (hw_ hw 4 rfl)) (mvT hZ0 (hw_ hw 11 rfl)) (by decide) (backOf (W := 0) (rmMake1 l Z a0 hw [] b1 k1 u0 u1 u2 u3 cz fm h9 n0 Zs9 V_c4 cu0 cu1 cu2 cu3 (W.ext ExK9)) hZ0 (hw_ hw 11 rfl) (hw_ hw 4 rfl) (by decide) (by decide)) (g := (mkF m 57 #[.val (.int p1), .val (.int p2), .val (.int p3), .val (.int p4), .val (.int p5), .val (.int p6), .val (.int (1 : Int32)), .val (.int mm), .val (.ref b1), .unset, .unset, .unset, .unset] [(.ref b1), (.int (1 : Int32))])) rfl (by rw [hml]; rfl) (argsL := [(.int (1 : Int32)), (.ref b1)]) (rest := []) (lenOf pd_33 rfl) rfl (by show 2 * 0 + _ ≤ _; exact Nat.le_of_eq rfl) (hb hby at_57) (fun _ _ => ⟨rfl, e9, (by decide : 1 + 4 ≤ _), (by decide : 4 + 17 ≤ _)⟩)
    dsimp only [Pt.U, Pt.locs, Pt.cells, Pt.slots] at X33 l33 y33 z33 st33 hQ33
    subst l33 y33 z33
    obtain ⟨rr, rfl, N33q, Kc33, qs33⟩ := hQ33
    have N33 := Fr.app N9 N33q
    have Zs33 := Nat.le_trans Zs9 Kc33.1
    have hk33 := Nat.le_trans hk9 Kc33.1
    have Ec33 := own_ext0 Kc33
    have K33 := K9.ext Ec33
    have V_b1_33 := V_b1_w9.ext Ec33
    refine own_by (S' := T33.setTop (mkF m 60 #[.val (.int p1), .val (.int p2), .val (.int p3), .val (.int p4), .val (.int p5), .val (.int p6), .val (.int (1 : Int32)), .val (.int mm), .val (.ref b1), .unset, .unset, .unset, .unset] [(.ref rr)])) (fun tZ kZ => st33 _ kZ) ?_
    rw [← hus4] at V_c4
    have qt : OwnStr Z T33.heap rr (us4.take 1) := by rw [hus4]; exact qs33
    have ExK33 := own_ext0 K33
    exact J60 _ _ _ _ 1 rr (X33.mono (by decide) (by decide)) rfl N33 K33 rfl (by decide) (by decide) (V_c4.ext Ec33) qt (W.ext ExK33) (⟨Nat.le_trans EZ.1 ExK33.1, fun aZ cZ qZ => ExK33.2 aZ cZ (EZ.2 aZ cZ qZ)⟩)
  · rw [hus4] at V_c4
    have ExK9 := own_ext0 K9
    obtain ⟨_, _, ⟨T34, L34, k34, n34⟩, -, X34, ⟨Lc34, hQ34, l34, y34, z34⟩, st34⟩ := Jvm.LawKit.callS X9 hx (y := (⟨"com/example/idpd/idpd/TextsPrefixPinLaw", "make", "(I[C)Ljava/lang/String;"⟩ : MethodName)) hown0 (mvT hZ0 (hw_ hw 9 rfl)) (mvT hZ0 (hw_ hw 10 rfl)) (mvT hZ0 (hw_ hw 4 rfl)) (mvT hZ0 (hw_ hw 11 rfl)) (by decide) (backOf (W := 0) (rmMake2 l Z a0 hw [] b1 k1 u0 u1 u2 u3 cz fm h9 n0 Zs9 V_c4 cu0 cu1 cu2 cu3 (W.ext ExK9)) hZ0 (hw_ hw 11 rfl) (hw_ hw 4 rfl) (by decide) (by decide)) (g := (mkF m 57 #[.val (.int p1), .val (.int p2), .val (.int p3), .val (.int p4), .val (.int p5), .val (.int p6), .val (.int (2 : Int32)), .val (.int mm), .val (.ref b1), .unset, .unset, .unset, .unset] [(.ref b1), (.int (2 : Int32))])) rfl (by rw [hml]; rfl) (argsL := [(.int (2 : Int32)), (.ref b1)]) (rest := []) (lenOf pd_33 rfl) rfl (by show 2 * 0 + _ ≤ _; exact Nat.le_of_eq rfl) (hb hby at_57) (fun _ _ => ⟨rfl, e9, (by decide : 1 + 4 ≤ _), (by decide : 4 + 18 ≤ _)⟩)
    dsimp only [Pt.U, Pt.locs, Pt.cells, Pt.slots] at X34 l34 y34 z34 st34 hQ34
    subst l34 y34 z34
    obtain ⟨rr, rfl, N34q, Kc34, qs34⟩ := hQ34
    have N34 := Fr.app N9 N34q
    have Zs34 := Nat.le_trans Zs9 Kc34.1
    have hk34 := Nat.le_trans hk9 Kc34.1
    have Ec34 := own_ext0 Kc34
    have K34 := K9.ext Ec34
    have V_b1_34 := V_b1_w9.ext Ec34
    refine own_by (S' := T34.setTop (mkF m 60 #[.val (.int p1), .val (.int p2), .val (.int p3), .val (.int p4), .val (.int p5), .val (.int p6), .val (.int (2 : Int32)), .val (.int mm), .val (.ref b1), .unset, .unset, .unset, .unset] [(.ref rr)])) (fun tZ kZ => st34 _ kZ) ?_
    rw [← hus4] at V_c4
    have qt : OwnStr Z T34.heap rr (us4.take 2) := by rw [hus4]; exact qs34
    have ExK34 := own_ext0 K34
    exact J60 _ _ _ _ 2 rr (X34.mono (by decide) (by decide)) rfl N34 K34 rfl (by decide) (by decide) (V_c4.ext Ec34) qt (W.ext ExK34) (⟨Nat.le_trans EZ.1 ExK34.1, fun aZ cZ qZ => ExK34.2 aZ cZ (EZ.2 aZ cZ qZ)⟩)
  · rw [hus4] at V_c4
    have ExK9 := own_ext0 K9
    obtain ⟨_, _, ⟨T35, L35, k35, n35⟩, -, X35, ⟨Lc35, hQ35, l35, y35, z35⟩, st35⟩ := Jvm.LawKit.callS X9 hx (y := (⟨"com/example/idpd/idpd/TextsPrefixPinLaw", "make", "(I[C)Ljava/lang/String;"⟩ : MethodName)) hown0 (mvT hZ0 (hw_ hw 9 rfl)) (mvT hZ0 (hw_ hw 10 rfl)) (mvT hZ0 (hw_ hw 4 rfl)) (mvT hZ0 (hw_ hw 11 rfl)) (by decide) (backOf (W := 0) (rmMake3 l Z a0 hw [] b1 k1 u0 u1 u2 u3 cz fm h9 n0 Zs9 V_c4 cu0 cu1 cu2 cu3 (W.ext ExK9)) hZ0 (hw_ hw 11 rfl) (hw_ hw 4 rfl) (by decide) (by decide)) (g := (mkF m 57 #[.val (.int p1), .val (.int p2), .val (.int p3), .val (.int p4), .val (.int p5), .val (.int p6), .val (.int (3 : Int32)), .val (.int mm), .val (.ref b1), .unset, .unset, .unset, .unset] [(.ref b1), (.int (3 : Int32))])) rfl (by rw [hml]; rfl) (argsL := [(.int (3 : Int32)), (.ref b1)]) (rest := []) (lenOf pd_33 rfl) rfl (by show 2 * 0 + _ ≤ _; exact Nat.le_of_eq rfl) (hb hby at_57) (fun _ _ => ⟨rfl, e9, (by decide : 1 + 4 ≤ _), (by decide : 4 + 19 ≤ _)⟩)
    dsimp only [Pt.U, Pt.locs, Pt.cells, Pt.slots] at X35 l35 y35 z35 st35 hQ35
    subst l35 y35 z35
    obtain ⟨rr, rfl, N35q, Kc35, qs35⟩ := hQ35
    have N35 := Fr.app N9 N35q
    have Zs35 := Nat.le_trans Zs9 Kc35.1
    have hk35 := Nat.le_trans hk9 Kc35.1
    have Ec35 := own_ext0 Kc35
    have K35 := K9.ext Ec35
    have V_b1_35 := V_b1_w9.ext Ec35
    refine own_by (S' := T35.setTop (mkF m 60 #[.val (.int p1), .val (.int p2), .val (.int p3), .val (.int p4), .val (.int p5), .val (.int p6), .val (.int (3 : Int32)), .val (.int mm), .val (.ref b1), .unset, .unset, .unset, .unset] [(.ref rr)])) (fun tZ kZ => st35 _ kZ) ?_
    rw [← hus4] at V_c4
    have qt : OwnStr Z T35.heap rr (us4.take 3) := by rw [hus4]; exact qs35
    have ExK35 := own_ext0 K35
    exact J60 _ _ _ _ 3 rr (X35.mono (by decide) (by decide)) rfl N35 K35 rfl (by decide) (by decide) (V_c4.ext Ec35) qt (W.ext ExK35) (⟨Nat.le_trans EZ.1 ExK35.1, fun aZ cZ qZ => ExK35.2 aZ cZ (EZ.2 aZ cZ qZ)⟩)
  · rw [hus4] at V_c4
    have ExK9 := own_ext0 K9
    obtain ⟨_, _, ⟨T36, L36, k36, n36⟩, -, X36, ⟨Lc36, hQ36, l36, y36, z36⟩, st36⟩ := Jvm.LawKit.callS X9 hx (y := (⟨"com/example/idpd/idpd/TextsPrefixPinLaw", "make", "(I[C)Ljava/lang/String;"⟩ : MethodName)) hown0 (mvT hZ0 (hw_ hw 9 rfl)) (mvT hZ0 (hw_ hw 10 rfl)) (mvT hZ0 (hw_ hw 4 rfl)) (mvT hZ0 (hw_ hw 11 rfl)) (by decide) (backOf (W := 0) (rmMake4 l Z a0 hw [] b1 k1 u0 u1 u2 u3 cz fm h9 n0 Zs9 V_c4 cu0 cu1 cu2 cu3 (W.ext ExK9)) hZ0 (hw_ hw 11 rfl) (hw_ hw 4 rfl) (by decide) (by decide)) (g := (mkF m 57 #[.val (.int p1), .val (.int p2), .val (.int p3), .val (.int p4), .val (.int p5), .val (.int p6), .val (.int (4 : Int32)), .val (.int mm), .val (.ref b1), .unset, .unset, .unset, .unset] [(.ref b1), (.int (4 : Int32))])) rfl (by rw [hml]; rfl) (argsL := [(.int (4 : Int32)), (.ref b1)]) (rest := []) (lenOf pd_33 rfl) rfl (by show 2 * 0 + _ ≤ _; exact Nat.le_of_eq rfl) (hb hby at_57) (fun _ _ => ⟨rfl, e9, (by decide : 1 + 4 ≤ _), (by decide : 4 + 20 ≤ _)⟩)
    dsimp only [Pt.U, Pt.locs, Pt.cells, Pt.slots] at X36 l36 y36 z36 st36 hQ36
    subst l36 y36 z36
    obtain ⟨rr, rfl, N36q, Kc36, qs36⟩ := hQ36
    have N36 := Fr.app N9 N36q
    have Zs36 := Nat.le_trans Zs9 Kc36.1
    have hk36 := Nat.le_trans hk9 Kc36.1
    have Ec36 := own_ext0 Kc36
    have K36 := K9.ext Ec36
    have V_b1_36 := V_b1_w9.ext Ec36
    refine own_by (S' := T36.setTop (mkF m 60 #[.val (.int p1), .val (.int p2), .val (.int p3), .val (.int p4), .val (.int p5), .val (.int p6), .val (.int (4 : Int32)), .val (.int mm), .val (.ref b1), .unset, .unset, .unset, .unset] [(.ref rr)])) (fun tZ kZ => st36 _ kZ) ?_
    rw [← hus4] at V_c4
    have qt : OwnStr Z T36.heap rr (us4.take 4) := by rw [hus4]; exact qs36
    have ExK36 := own_ext0 K36
    exact J60 _ _ _ _ 4 rr (X36.mono (by decide) (by decide)) rfl N36 K36 rfl (by decide) (by decide) (V_c4.ext Ec36) qt (W.ext ExK36) (⟨Nat.le_trans EZ.1 ExK36.1, fun aZ cZ qZ => ExK36.2 aZ cZ (EZ.2 aZ cZ qZ)⟩)
set_option maxRecDepth 65536 in
set_option maxHeartbeats 40000000 in
theorem comes_1 {Post : Tables → Env → Array Value → State → Outcome → State → Prop} (hpost : ∀ tb e args s v u, (limb_1_1.after args s (.returned v) u = true ∧ limb_1_2.after args s (.returned v) u = true ∧ True) → FramedW s (.returned v) u (Jvm.fieldLocs frame_1_writes args s ++ Jvm.arrayLocs frame_1_arrays args s ++ Jvm.staticLocs frame_1_statics s) 32 3264 → Post tb e args s (.returned v) u) :
    ArmFor flags0 classFile x code maxLocals ret World_1 tables_1 room_1 Calls_1 rest_1 Pre_1 Post := by
  intro l hfl _ _ p e ha hc hk s m args below hf hA hF happ hP
  obtain ⟨hcalls, hrest, hpre⟩ := hP
  obtain ⟨-, -, -, hnamed, -, -, -, hat⟩ := (Spec.applies_iff hf).mp happ
  obtain ⟨hg, hn⟩ := and_e (Cond.before_iff.mp (show (Jvm.Cond.and given_1 narrow_1).before args s = true from hpre))
  obtain ⟨gc, gr0⟩ := and_e hg
  obtain ⟨ga0, gr1⟩ := and_e gr0
  obtain ⟨ga1, gr2⟩ := and_e gr1
  obtain ⟨ga2, gr3⟩ := and_e gr2
  obtain ⟨ga3, gr4⟩ := and_e gr3
  obtain ⟨ga4, gr5⟩ := and_e gr4
  obtain ⟨w0, w1, w2, w3, w4, w5, rfl⟩ : ∃ w0 w1 w2 w3 w4 w5 : Value, args = #[w0, w1, w2, w3, w4, w5] := by
    have hs : args.size = 6 := by simpa [Cond.value, given_1] using gc
    obtain ⟨L⟩ := args
    match L, hs with
    | [w0, w1, w2, w3, w4, w5], _ => exact ⟨w0, w1, w2, w3, w4, w5, rfl⟩
  have hw := fun d (hd : d ∈ tables_1) => atoms_spec (ws := Jvm.Cond.code x code maxLocals ret :: tables_1) hat d (List.mem_cons_of_mem _ hd)
  have hfit : Fit s := fun {y c} hc i hi => by
    obtain ⟨ha, rfl⟩ := Array.getElem?_eq_some_iff.mp hc
    have q := List.all_eq_true.mp ((Array.all_eq_true_iff_forall_mem.mp hF) _ (Array.getElem_mem ha)) i (List.mem_range.mpr hi)
    simpa [Array.getElem?_eq_getElem hi] using q
  obtain ⟨hsets, hown0⟩ := atoms_of _ (rest_1_c_eq ▸ (show rest_1_c.before _ s = true from hrest))
  have hr0 := Cond.before_iff.mp hown0
  obtain ⟨i0, ei0⟩ := is_v ga0
  obtain rfl : w0 = (.int i0) := Option.some.inj ei0
  obtain ⟨i1, ei1⟩ := is_v ga1
  obtain rfl : w1 = (.int i1) := Option.some.inj ei1
  obtain ⟨i2, ei2⟩ := is_v ga2
  obtain rfl : w2 = (.int i2) := Option.some.inj ei2
  obtain ⟨i3, ei3⟩ := is_v ga3
  obtain rfl : w3 = (.int i3) := Option.some.inj ei3
  obtain ⟨i4, ei4⟩ := is_v ga4
  obtain rfl : w4 = (.int i4) := Option.some.inj ei4
  obtain ⟨i5, ei5⟩ := is_v gr5
  obtain rfl : w5 = (.int i5) := Option.some.inj ei5
  obtain ⟨cz, ecz⟩ := is_v (Cond.before_iff.mp (hsets _ (List.mem_of_getElem? (i := 1) rfl)))
  have Sc : Sta s s.heap "java/lang/String" "COMPACT_STRINGS" "Z" (.int cz) := Sta.start ecz (Or.inl (hsets _ (List.mem_of_getElem? (i := 0) rfl)))
  have hcz : ¬ cz = 0 := own_ne ecz (Cond.before_iff.mp (hsets _ (List.mem_of_getElem? (i := 2) rfl)))
  have hcw : Jvm.Lit.compactW.before #[.int i0, .int i1, .int i2, .int i3, .int i4, .int i5] s = true := (hsets _ (List.mem_of_getElem? (i := 2) rfl))
  obtain ⟨fm, efm, rf⟩ := isR_v (Cond.before_iff.mp (hsets _ (List.mem_of_getElem? (i := 8) rfl)))
  have Sf : Sta s s.heap "jdk/internal/util/Preconditions" "SIOOBE_FORMATTER" "Ljava/util/function/BiFunction;" fm := Sta.start efm (Or.inl (hsets _ (List.mem_of_getElem? (i := 7) rfl)))
  have Sa : Sta s s.heap "java/lang/StringUTF16" "$assertionsDisabled" "Z" (.int 1) := Sta.start (own_eqI (Cond.before_iff.mp (hsets _ (List.mem_of_getElem? (i := 12) rfl)))) (Or.inl (hsets _ (List.mem_of_getElem? (i := 11) rfl)))
  have Sh : Sta s s.heap "java/lang/StringUTF16" "HI_BYTE_SHIFT" "I" (.int 0) := Sta.start (own_eqI (Cond.before_iff.mp (hsets _ (List.mem_of_getElem? (i := 15) rfl)))) (Or.inl (hsets _ (List.mem_of_getElem? (i := 14) rfl)))
  have Sl : Sta s s.heap "java/lang/StringUTF16" "LO_BYTE_SHIFT" "I" (.int 8) := Sta.start (own_eqI (Cond.before_iff.mp (hsets _ (List.mem_of_getElem? (i := 18) rfl)))) (Or.inl (hsets _ (List.mem_of_getElem? (i := 17) rfl)))
  have HC : ∀ q ∈ consts_1, Jvm.Lit.constHeld s q.1 q.2 := hcalls.1
  obtain ⟨n, o, h1, h2, h3, _, L, rfl, ⟨rfl, N⟩, hq⟩ := rm0 l s _ hw tables_1 i0 i1 i2 i3 i4 i5 cz fm s.heap s.heap.size (Nat.le_refl _) ⟨Nat.le_refl _, fun _ _ q => q⟩ HC hcw ⟨Sc, hcz, Sf, rf, Sa, Sh, Sl⟩ p e ha hc hk s m _ below hf ((Spec.applies_iff_loose hf).mp happ).1 ⟨rfl, rfl, rfl⟩ trivial
  refine ⟨n, _, h1, h2, h3, hpost _ _ _ _ _ _ ⟨Cond.after_iff.mpr rfl, Cond.after_iff.mpr (eq_i res_at (Term.int_eval (1)) rfl), trivial⟩ ⟨hq.1, hq.2.1, hq.2.2.1, (hq.2.2.2.sift fun y hy => Or.inr (N y hy)).mono (by decide) (by decide)⟩⟩
theorem main_1_1 : Claimed_1_1 := comes_1 fun _ _ _ _ _ _ h hF => ⟨h.1, hF⟩
theorem main_1_2 : Claimed_1_2 := comes_1 fun _ _ _ _ _ _ h hF => ⟨h.2.1, hF⟩

end Jvm.Pilot.@@N@@
namespace Jvm.Pilot.@@N@@
open Jvm Jvm.ClassFile Sem Op Lib Jvm.Free Jvm.Stand Jvm.Pilot.@@N@@.Jvm.D
/-! MADE BY PROGRAM (witnessworld.py) out of the Statement's table words and the real class files: 25 classes; the members and pool entries that the words name. The judged class is class 1, her method 6. -/
namespace start1
open Jvm.ClassFile
def u (s : String) : CpInfo := .utf8 (stringToUtf16 s)
/-- a pool by its gaps: so many unusable entries, then the entry; so many at the end -/
def gap : Nat → List CpInfo → List CpInfo
  | 0, r => r
  | n + 1, r => .unusable :: gap n r
def poolList (es : List (Nat × CpInfo)) (last : Nat) : List CpInfo := es.foldr (fun e r => gap e.1 (e.2 :: r)) (gap last [])
def pool (es : List (Nat × CpInfo)) (last : Nat) : Array CpInfo := ⟨poolList es last⟩
def fileOf (pool : Array CpInfo) (this : Nat) (attrs : Array Attribute := #[]) (ms : Array MethodInfo := #[]) (fl : Nat := 33) (sup : Nat := 0) (ifs : Array Nat := #[]) (fds : Array FieldInfo := #[]) : ClassFile where
  minorVersion := 0
  majorVersion := 65
  constantPool := pool
  accessFlags := fl
  thisClass := this
  superClass := sup
  interfaces := ifs
  fields := fds
  methods := ms
  attributes := attrs
def plain (name : String) (sup : Option ClassId) : Class where
  name := name
  kind := .ordinary
  loader := none
  accessFlags := 33
  super := sup
  interfaces := #[]
  cf := none
  fields := #[]
  methods := #[]
  instanceTypes := #[]
  staticTypes := #[]
  resolved := #[]
  callSites := []
  init := .initialized
  statics := none
  mirror := none

def pool0 : Array CpInfo := pool [(5, u "<init>"), (0, u "()V"), (1, .class_ 10), (1, u "java/lang/Object")] 113

def k0c0 : Code := { maxStack := 0, maxLocals := 1, code := object_method_1_code, exceptionTable := #[], attributes := #[] }
def k0m0 : Method := { name := "<init>", desc := "()V", sig := { parameters := [], returnType := none }, accessFlags := 1, code := some k0c0 }
/-- java/lang/Object -/
def k0 : Class := { plain "java/lang/Object" none with
  accessFlags := 33
  interfaces := #[]
  cf := some (fileOf pool0 8 #[] #[{ accessFlags := 1, nameIndex := 5, descriptorIndex := 6, attributes := #[] }] 33 0 #[] #[])
  fields := #[]
  methods := #[k0m0]
  instanceTypes := #[]
  staticTypes := #[]
  resolved := Array.replicate 124 none
  statics := none }

def pool1 : Array CpInfo := pool [(2, .class_ 4), (1, u "java/lang/Object"), (0, u "<init>"), (0, u "()V"), (0, .integer 55296), (0, .integer 56320), (0, .integer 65535), (0, .integer 56319), (0, .integer 57343), (0, .methodref 13 14), (0, .class_ 15), (0, .nameAndType 16 17), (0, u "com/example/idpd/idpd/TextsPrefixPinLaw"), (0, u "isHigh"), (0, u "(C)Z"), (0, .methodref 13 19), (0, .nameAndType 20 17), (0, u "isLow"), (0, .class_ 22), (0, u "java/lang/String"), (0, .methodref 21 24), (0, .nameAndType 5 25), (0, u "([C)V"), (0, .integer 2147483647), (0, .methodref 13 28), (0, .nameAndType 29 30), (0, u "draw"), (0, u "(I)C"), (0, .methodref 13 32), (0, .nameAndType 33 34), (0, u "make"), (0, u "(I[C)Ljava/lang/String;"), (0, .methodref 13 36), (0, .nameAndType 37 38), (0, u "step"), (0, u "([CII)I"), (0, .methodref 40 41), (0, .class_ 42), (0, .nameAndType 43 44), (0, u "com/example/idpd/idpd/Texts"), (0, u "prefix"), (0, u "(Ljava/lang/String;I)Ljava/lang/String;"), (0, .methodref 21 46), (0, .nameAndType 47 48), (0, u "length"), (0, u "()I"), (0, .methodref 21 50), (0, .nameAndType 51 30), (0, u "charAt"), (3, u "law"), (0, u "(IIIIII)Z")] 4

def k1m0 : Method := { name := "<init>", desc := "()V", sig := { parameters := [], returnType := none }, accessFlags := 2, code := none }
def k1c1 : Code := { maxStack := 3, maxLocals := 3, code := method_2_code, exceptionTable := #[], attributes := #[] }
def k1m1 : Method := { name := "draw", desc := "(I)C", sig := { parameters := [.int], returnType := some .char }, accessFlags := 10, code := some k1c1 }
def k1c2 : Code := { maxStack := 2, maxLocals := 1, code := method_3_code, exceptionTable := #[], attributes := #[] }
def k1m2 : Method := { name := "isHigh", desc := "(C)Z", sig := { parameters := [.char], returnType := some .boolean }, accessFlags := 10, code := some k1c2 }
def k1c3 : Code := { maxStack := 2, maxLocals := 1, code := method_4_code, exceptionTable := #[], attributes := #[] }
def k1m3 : Method := { name := "isLow", desc := "(C)Z", sig := { parameters := [.char], returnType := some .boolean }, accessFlags := 10, code := some k1c3 }
def k1c4 : Code := { maxStack := 3, maxLocals := 3, code := method_5_code, exceptionTable := #[], attributes := #[] }
def k1m4 : Method := { name := "step", desc := "([CII)I", sig := { parameters := [(.array .char), .int, .int], returnType := some .int }, accessFlags := 10, code := some k1c4 }
def k1c5 : Code := { maxStack := 4, maxLocals := 3, code := method_6_code, exceptionTable := #[], attributes := #[] }
def k1m5 : Method := { name := "make", desc := "(I[C)Ljava/lang/String;", sig := { parameters := [.int, (.array .char)], returnType := some (.object "java/lang/String") }, accessFlags := 10, code := some k1c5 }
def k1c6 : Code := { maxStack := 3, maxLocals := 13, code := code, exceptionTable := #[], attributes := #[] }
def k1m6 : Method := { name := "law", desc := "(IIIIII)Z", sig := { parameters := [.int, .int, .int, .int, .int, .int], returnType := some .boolean }, accessFlags := 9, code := some k1c6 }
/-- com/example/idpd/idpd/TextsPrefixPinLaw -/
def k1 : Class := { plain "com/example/idpd/idpd/TextsPrefixPinLaw" (some 0) with
  accessFlags := 49
  interfaces := #[]
  cf := some (fileOf pool1 13 #[] #[{ accessFlags := 2, nameIndex := 5, descriptorIndex := 6, attributes := #[] }, { accessFlags := 10, nameIndex := 29, descriptorIndex := 30, attributes := #[] }, { accessFlags := 10, nameIndex := 16, descriptorIndex := 17, attributes := #[] }, { accessFlags := 10, nameIndex := 20, descriptorIndex := 17, attributes := #[] }, { accessFlags := 10, nameIndex := 37, descriptorIndex := 38, attributes := #[] }, { accessFlags := 10, nameIndex := 33, descriptorIndex := 34, attributes := #[] }, { accessFlags := 9, nameIndex := 55, descriptorIndex := 56, attributes := #[] }] 49 2 #[] #[])
  fields := #[]
  methods := #[k1m0, k1m1, k1m2, k1m3, k1m4, k1m5, k1m6]
  instanceTypes := #[]
  staticTypes := #[]
  resolved := Array.replicate 61 none
  statics := none }

def pool2 : Array CpInfo := pool [(1, .class_ 2), (0, u "java/io/Serializable"), (0, .class_ 4), (0, u "java/lang/Object")] 2

/-- java/io/Serializable -/
def k2 : Class := { plain "java/io/Serializable" (some 0) with
  accessFlags := 1537
  interfaces := #[]
  cf := some (fileOf pool2 1 #[] #[] 1537 3 #[] #[])
  fields := #[]
  methods := #[]
  instanceTypes := #[]
  staticTypes := #[]
  resolved := Array.replicate 7 none
  statics := none }

def pool3 : Array CpInfo := pool [(1, .class_ 2), (0, u "java/lang/Comparable"), (0, .class_ 4), (0, u "java/lang/Object")] 7

/-- java/lang/Comparable -/
def k3 : Class := { plain "java/lang/Comparable" (some 0) with
  accessFlags := 1537
  interfaces := #[]
  cf := some (fileOf pool3 1 #[] #[] 1537 3 #[] #[])
  fields := #[]
  methods := #[]
  instanceTypes := #[]
  staticTypes := #[]
  resolved := Array.replicate 12 none
  statics := none }

def pool4 : Array CpInfo := pool [(2, .class_ 4), (1, u "java/lang/CharSequence"), (0, u "length"), (0, u "()I"), (38, u "charAt"), (0, u "(I)C"), (0, .class_ 48), (0, u "java/lang/CharSequence$1CodePointIterator"), (10, .class_ 60), (0, u "java/lang/CharSequence$1CharIterator"), (5, .class_ 67), (0, u "java/lang/Object")] 63

def k4m0 : Method := { name := "length", desc := "()I", sig := { parameters := [], returnType := some .int }, accessFlags := 1025, code := none }
def k4m1 : Method := { name := "charAt", desc := "(I)C", sig := { parameters := [.int], returnType := some .char }, accessFlags := 1025, code := none }
/-- java/lang/CharSequence -/
def k4 : Class := { plain "java/lang/CharSequence" (some 0) with
  accessFlags := 1537
  interfaces := #[]
  cf := some (fileOf pool4 2 #[.nestMembers #[47, 59]] #[{ accessFlags := 1025, nameIndex := 5, descriptorIndex := 6, attributes := #[] }, { accessFlags := 1025, nameIndex := 45, descriptorIndex := 46, attributes := #[] }] 1537 66 #[] #[])
  fields := #[]
  methods := #[k4m0, k4m1]
  instanceTypes := #[]
  staticTypes := #[]
  resolved := Array.replicate 131 none
  statics := none }

def pool5 : Array CpInfo := pool [(1, .class_ 2), (0, u "java/lang/constant/Constable"), (0, .class_ 4), (0, u "java/lang/Object")] 6

/-- java/lang/constant/Constable -/
def k5 : Class := { plain "java/lang/constant/Constable" (some 0) with
  accessFlags := 1537
  interfaces := #[]
  cf := some (fileOf pool5 1 #[] #[] 1537 3 #[] #[])
  fields := #[]
  methods := #[]
  instanceTypes := #[]
  staticTypes := #[]
  resolved := Array.replicate 11 none
  statics := none }

def pool6 : Array CpInfo := pool [(1, .class_ 2), (0, u "java/lang/constant/ConstantDesc"), (0, .class_ 4), (0, u "java/lang/Object")] 32

/-- java/lang/constant/ConstantDesc -/
def k6 : Class := { plain "java/lang/constant/ConstantDesc" (some 0) with
  accessFlags := 1537
  interfaces := #[]
  cf := some (fileOf pool6 1 #[] #[] 1537 3 #[] #[])
  fields := #[]
  methods := #[]
  instanceTypes := #[]
  staticTypes := #[]
  resolved := Array.replicate 37 none
  statics := none }

def pool7 : Array CpInfo := pool [(1, .methodref 2 3), (0, .class_ 4), (0, .nameAndType 5 6), (0, u "java/lang/Object"), (0, u "<init>"), (0, u "()V"), (0, .string 8), (0, u ""), (0, .fieldref 10 11), (0, .class_ 12), (0, .nameAndType 13 14), (0, u "java/lang/String"), (0, u "value"), (0, u "[B"), (0, .fieldref 10 16), (0, .nameAndType 17 18), (0, u "coder"), (0, u "B"), (2, u "hash"), (0, u "I"), (2, u "hashIsZero"), (0, u "Z"), (0, .methodref 10 28), (0, .nameAndType 5 29), (0, u "([CIILjava/lang/Void;)V"), (6, u "checkBoundsOffCount"), (0, u "(III)I"), (0, .fieldref 10 39), (0, .nameAndType 40 26), (0, u "COMPACT_STRINGS"), (1, .class_ 44), (1, u "java/lang/StringUTF16"), (0, u "compress"), (1, .methodref 42 48), (0, .nameAndType 49 50), (0, u "coderFromArrayLen"), (0, u "([BI)B"), (28, .class_ 81), (1, u "java/util/Objects"), (15, u "([BII)I"), (9, .class_ 109), (1, u "java/lang/StringLatin1"), (32, u "()Z"), (34, .methodref 42 178), (0, .nameAndType 45 179), (0, u "([CII)[B"), (31, u "([BB)V"), (122, u "()I"), (0, .methodref 10 336), (0, .nameAndType 17 337), (0, u "()B"), (25, u "([BI)C"), (1, .class_ 367), (1, u "java/lang/Character"), (23, u "(II)V"), (35, u "(I)C"), (64, .methodref 10 493), (0, .nameAndType 494 142), (0, u "isLatin1"), (0, .methodref 107 496), (0, .nameAndType 497 363), (0, u "charAt"), (0, .methodref 42 496), (2, u "checkIndex"), (3, .methodref 10 506), (0, .nameAndType 507 334), (0, u "length"), (3, .methodref 79 512), (0, .nameAndType 513 37), (0, u "checkFromToIndex"), (0, .methodref 42 515), (0, .nameAndType 516 97), (0, u "codePointCount"), (0, .methodref 365 518), (0, .nameAndType 519 520), (0, u "offsetByCodePoints"), (0, u "(Ljava/lang/CharSequence;II)I"), (0, .methodref 10 522), (0, .nameAndType 523 524), (0, u "checkBoundsBeginEnd"), (0, u "(III)V"), (50, .class_ 576), (0, u "java/lang/CharSequence"), (22, u "CASE_INSENSITIVE_ORDER"), (0, u "Ljava/util/Comparator;"), (35, u "(II)I"), (46, u "substring"), (0, u "(II)Ljava/lang/String;"), (0, .methodref 107 686), (0, .nameAndType 687 688), (0, u "newString"), (0, u "([BII)Ljava/lang/String;"), (0, .methodref 42 686), (320, u "([C)V"), (42, .fieldref 1054 1055), (0, .class_ 1056), (0, .nameAndType 1057 1058), (0, u "jdk/internal/util/Preconditions"), (0, u "SIOOBE_FORMATTER"), (0, u "Ljava/util/function/BiFunction;"), (0, .methodref 1054 1060), (0, .nameAndType 501 1061), (0, u "(IILjava/util/function/BiFunction;)I"), (0, .methodref 1054 1063), (0, .nameAndType 513 1064), (0, u "(IIILjava/util/function/BiFunction;)I"), (0, .methodref 1054 1066), (0, .nameAndType 1067 1064), (0, u "checkFromIndexSize"), (33, u "serialPersistentFields"), (0, u "[Ljava/io/ObjectStreamField;"), (0, .class_ 1104), (0, u "java/lang/String$CaseInsensitiveComparator"), (1, .class_ 1107), (0, u "java/io/Serializable"), (0, .class_ 1109), (0, u "java/lang/Comparable"), (0, .class_ 1111), (0, u "java/lang/constant/Constable"), (0, .class_ 1113), (0, u "java/lang/constant/ConstantDesc"), (2, u "serialVersionUID"), (0, u "J"), (3, u "REPL"), (0, u "C"), (2, u "LATIN1"), (1, u "UTF16")] 323

def k7m0 : Method := { name := "<init>", desc := "()V", sig := { parameters := [], returnType := none }, accessFlags := 1, code := none }
def k7c1 : Code := { maxStack := 5, maxLocals := 2, code := jdk_42_method_3_code, exceptionTable := #[], attributes := #[] }
def k7m1 : Method := { name := "<init>", desc := "([C)V", sig := { parameters := [(.array .char)], returnType := none }, accessFlags := 1, code := some k7c1 }
def k7c2 : Code := { maxStack := 2, maxLocals := 1, code := jdk_42_method_54_code, exceptionTable := #[], attributes := #[] }
def k7m2 : Method := { name := "length", desc := "()I", sig := { parameters := [], returnType := some .int }, accessFlags := 1, code := some k7c2 }
def k7c3 : Code := { maxStack := 2, maxLocals := 2, code := jdk_42_method_56_code, exceptionTable := #[], attributes := #[] }
def k7m3 : Method := { name := "charAt", desc := "(I)C", sig := { parameters := [.int], returnType := some .char }, accessFlags := 1, code := some k7c3 }
def k7c4 : Code := { maxStack := 3, maxLocals := 3, code := jdk_42_method_59_code, exceptionTable := #[], attributes := #[] }
def k7m4 : Method := { name := "codePointCount", desc := "(II)I", sig := { parameters := [.int, .int], returnType := some .int }, accessFlags := 1, code := some k7c4 }
def k7c5 : Code := { maxStack := 3, maxLocals := 3, code := jdk_42_method_60_code, exceptionTable := #[], attributes := #[] }
def k7m5 : Method := { name := "offsetByCodePoints", desc := "(II)I", sig := { parameters := [.int, .int], returnType := some .int }, accessFlags := 1, code := some k7c5 }
def k7c6 : Code := { maxStack := 3, maxLocals := 5, code := jdk_42_method_92_code, exceptionTable := #[], attributes := #[] }
def k7m6 : Method := { name := "substring", desc := "(II)Ljava/lang/String;", sig := { parameters := [.int, .int], returnType := some (.object "java/lang/String") }, accessFlags := 1, code := some k7c6 }
def k7c7 : Code := { maxStack := 4, maxLocals := 6, code := jdk_42_method_149_code, exceptionTable := #[], attributes := #[] }
def k7m7 : Method := { name := "<init>", desc := "([CIILjava/lang/Void;)V", sig := { parameters := [(.array .char), .int, .int, (.object "java/lang/Void")], returnType := none }, accessFlags := 2, code := some k7c7 }
def k7c8 : Code := { maxStack := 2, maxLocals := 3, code := jdk_42_method_151_code, exceptionTable := #[], attributes := #[] }
def k7m8 : Method := { name := "<init>", desc := "([BB)V", sig := { parameters := [(.array .byte), .byte], returnType := none }, accessFlags := 0, code := some k7c8 }
def k7c9 : Code := { maxStack := 1, maxLocals := 1, code := jdk_42_method_152_code, exceptionTable := #[], attributes := #[] }
def k7m9 : Method := { name := "coder", desc := "()B", sig := { parameters := [], returnType := some .byte }, accessFlags := 0, code := some k7c9 }
def k7c10 : Code := { maxStack := 1, maxLocals := 1, code := jdk_42_method_154_code, exceptionTable := #[], attributes := #[] }
def k7m10 : Method := { name := "isLatin1", desc := "()Z", sig := { parameters := [], returnType := some .boolean }, accessFlags := 0, code := some k7c10 }
def k7c11 : Code := { maxStack := 3, maxLocals := 2, code := jdk_42_method_155_code, exceptionTable := #[], attributes := #[] }
def k7m11 : Method := { name := "checkIndex", desc := "(II)V", sig := { parameters := [.int, .int], returnType := none }, accessFlags := 8, code := some k7c11 }
def k7c12 : Code := { maxStack := 4, maxLocals := 3, code := jdk_42_method_157_code, exceptionTable := #[], attributes := #[] }
def k7m12 : Method := { name := "checkBoundsOffCount", desc := "(III)I", sig := { parameters := [.int, .int, .int], returnType := some .int }, accessFlags := 8, code := some k7c12 }
def k7c13 : Code := { maxStack := 4, maxLocals := 3, code := jdk_42_method_158_code, exceptionTable := #[], attributes := #[] }
def k7m13 : Method := { name := "checkBoundsBeginEnd", desc := "(III)V", sig := { parameters := [.int, .int, .int], returnType := none }, accessFlags := 8, code := some k7c13 }
/-- java/lang/String -/
def k7 : Class := { plain "java/lang/String" (some 0) with
  accessFlags := 49
  interfaces := #[2, 3, 4, 5, 6]
  cf := some (fileOf pool7 10 #[.nestMembers #[1103]] #[{ accessFlags := 1, nameIndex := 5, descriptorIndex := 6, attributes := #[] }, { accessFlags := 1, nameIndex := 5, descriptorIndex := 1010, attributes := #[] }, { accessFlags := 1, nameIndex := 507, descriptorIndex := 334, attributes := #[] }, { accessFlags := 1, nameIndex := 497, descriptorIndex := 427, attributes := #[] }, { accessFlags := 1, nameIndex := 516, descriptorIndex := 636, attributes := #[] }, { accessFlags := 1, nameIndex := 519, descriptorIndex := 636, attributes := #[] }, { accessFlags := 1, nameIndex := 683, descriptorIndex := 684, attributes := #[] }, { accessFlags := 2, nameIndex := 5, descriptorIndex := 29, attributes := #[] }, { accessFlags := 0, nameIndex := 5, descriptorIndex := 211, attributes := #[] }, { accessFlags := 0, nameIndex := 17, descriptorIndex := 337, attributes := #[] }, { accessFlags := 0, nameIndex := 494, descriptorIndex := 142, attributes := #[] }, { accessFlags := 8, nameIndex := 501, descriptorIndex := 391, attributes := #[] }, { accessFlags := 8, nameIndex := 36, descriptorIndex := 37, attributes := #[] }, { accessFlags := 8, nameIndex := 523, descriptorIndex := 524, attributes := #[] }] 49 2 #[1106, 1108, 575, 1110, 1112] #[{ accessFlags := 18, nameIndex := 13, descriptorIndex := 14, attributes := #[] }, { accessFlags := 18, nameIndex := 17, descriptorIndex := 18, attributes := #[] }, { accessFlags := 2, nameIndex := 21, descriptorIndex := 22, attributes := #[] }, { accessFlags := 2, nameIndex := 25, descriptorIndex := 26, attributes := #[] }, { accessFlags := 26, nameIndex := 1116, descriptorIndex := 1117, attributes := #[] }, { accessFlags := 24, nameIndex := 40, descriptorIndex := 26, attributes := #[] }, { accessFlags := 26, nameIndex := 1101, descriptorIndex := 1102, attributes := #[] }, { accessFlags := 26, nameIndex := 1121, descriptorIndex := 1122, attributes := #[] }, { accessFlags := 25, nameIndex := 599, descriptorIndex := 600, attributes := #[] }, { accessFlags := 24, nameIndex := 1125, descriptorIndex := 18, attributes := #[] }, { accessFlags := 24, nameIndex := 1127, descriptorIndex := 18, attributes := #[] }])
  fields := #[{ name := "value", type := (.array .byte), accessFlags := 18, slot := 0, constantValue := 0 }, { name := "coder", type := .byte, accessFlags := 18, slot := 1, constantValue := 0 }, { name := "hash", type := .int, accessFlags := 2, slot := 2, constantValue := 0 }, { name := "hashIsZero", type := .boolean, accessFlags := 2, slot := 3, constantValue := 0 }, { name := "serialVersionUID", type := .long, accessFlags := 26, slot := 0, constantValue := 0 }, { name := "COMPACT_STRINGS", type := .boolean, accessFlags := 24, slot := 1, constantValue := 0 }, { name := "serialPersistentFields", type := (.array (.object "java/io/ObjectStreamField")), accessFlags := 26, slot := 2, constantValue := 0 }, { name := "REPL", type := .char, accessFlags := 26, slot := 3, constantValue := 0 }, { name := "CASE_INSENSITIVE_ORDER", type := (.object "java/util/Comparator"), accessFlags := 25, slot := 4, constantValue := 0 }, { name := "LATIN1", type := .byte, accessFlags := 24, slot := 5, constantValue := 0 }, { name := "UTF16", type := .byte, accessFlags := 24, slot := 6, constantValue := 0 }]
  methods := #[k7m0, k7m1, k7m2, k7m3, k7m4, k7m5, k7m6, k7m7, k7m8, k7m9, k7m10, k7m11, k7m12, k7m13]
  instanceTypes := #[(.array .byte), .byte, .int, .boolean]
  staticTypes := #[.long, .boolean, (.array (.object "java/io/ObjectStreamField")), .char, (.object "java/util/Comparator"), .byte, .byte]
  resolved := Array.replicate 1451 none
  statics := some 0 }

def pool8 : Array CpInfo := pool [(2, .class_ 4), (1, u "java/lang/Object"), (0, u "<init>"), (0, u "()V"), (0, .methodref 8 9), (0, .class_ 10), (0, .nameAndType 11 12), (0, u "java/lang/String"), (0, u "length"), (0, u "()I"), (0, .methodref 8 14), (0, .nameAndType 15 16), (0, u "codePointCount"), (0, u "(II)I"), (0, .methodref 8 18), (0, .nameAndType 19 16), (0, u "offsetByCodePoints"), (0, .methodref 8 21), (0, .nameAndType 22 23), (0, u "substring"), (0, u "(II)Ljava/lang/String;"), (0, .class_ 25), (0, u "com/example/idpd/idpd/Texts"), (2, u "prefix"), (0, u "(Ljava/lang/String;I)Ljava/lang/String;")] 3

def k8m0 : Method := { name := "<init>", desc := "()V", sig := { parameters := [], returnType := none }, accessFlags := 2, code := none }
def k8c1 : Code := { maxStack := 5, maxLocals := 3, code := prog_25_method_2_code, exceptionTable := #[], attributes := #[] }
def k8m1 : Method := { name := "prefix", desc := "(Ljava/lang/String;I)Ljava/lang/String;", sig := { parameters := [(.object "java/lang/String"), .int], returnType := some (.object "java/lang/String") }, accessFlags := 8, code := some k8c1 }
/-- com/example/idpd/idpd/Texts -/
def k8 : Class := { plain "com/example/idpd/idpd/Texts" (some 0) with
  accessFlags := 32
  interfaces := #[]
  cf := some (fileOf pool8 24 #[] #[{ accessFlags := 2, nameIndex := 5, descriptorIndex := 6, attributes := #[] }, { accessFlags := 8, nameIndex := 28, descriptorIndex := 29, attributes := #[] }] 32 2 #[] #[])
  fields := #[]
  methods := #[k8m0, k8m1]
  instanceTypes := #[]
  staticTypes := #[]
  resolved := Array.replicate 33 none
  statics := none }

def pool9 : Array CpInfo := pool [(2, .class_ 4), (1, u "java/lang/Object"), (0, u "<init>"), (0, u "()V"), (35, .class_ 44), (1, u "java/util/Objects"), (61, .class_ 108), (1, u "jdk/internal/util/Preconditions"), (2, .methodref 106 112), (0, .nameAndType 113 114), (0, u "checkFromToIndex"), (0, u "(IIILjava/util/function/BiFunction;)I"), (60, u "(III)I")] 8

def k9m0 : Method := { name := "<init>", desc := "()V", sig := { parameters := [], returnType := none }, accessFlags := 2, code := none }
def k9c1 : Code := { maxStack := 4, maxLocals := 3, code := jdk_31_method_18_code, exceptionTable := #[], attributes := #[] }
def k9m1 : Method := { name := "checkFromToIndex", desc := "(III)I", sig := { parameters := [.int, .int, .int], returnType := some .int }, accessFlags := 9, code := some k9c1 }
/-- java/util/Objects -/
def k9 : Class := { plain "java/util/Objects" (some 0) with
  accessFlags := 49
  interfaces := #[]
  cf := some (fileOf pool9 42 #[] #[{ accessFlags := 2, nameIndex := 5, descriptorIndex := 6, attributes := #[] }, { accessFlags := 9, nameIndex := 113, descriptorIndex := 175, attributes := #[] }] 49 2 #[] #[])
  fields := #[]
  methods := #[k9m0, k9m1]
  instanceTypes := #[]
  staticTypes := #[]
  resolved := Array.replicate 184 none
  statics := none }

def pool10 : Array CpInfo := pool [(2, .class_ 4), (1, u "java/lang/Object"), (0, u "<init>"), (0, u "()V"), (17, .class_ 26), (1, u "jdk/internal/util/Preconditions"), (6, u "checkIndex"), (13, u "checkFromToIndex"), (1, u "checkFromIndexSize"), (5, .class_ 56), (0, u "jdk/internal/util/Preconditions$4"), (57, .class_ 115), (0, u "jdk/internal/util/Preconditions$1"), (7, u "SIOOBE_FORMATTER"), (0, u "Ljava/util/function/BiFunction;"), (0, .class_ 126), (0, u "jdk/internal/util/Preconditions$2"), (3, u "AIOOBE_FORMATTER"), (0, .class_ 132), (0, u "jdk/internal/util/Preconditions$3"), (3, u "IOOBE_FORMATTER"), (41, u "(IILjava/util/function/BiFunction;)I"), (4, u "(IIILjava/util/function/BiFunction;)I")] 10

def k10m0 : Method := { name := "<init>", desc := "()V", sig := { parameters := [], returnType := none }, accessFlags := 1, code := none }
def k10c1 : Code := { maxStack := 3, maxLocals := 3, code := jdk_41_method_11_code, exceptionTable := #[], attributes := #[] }
def k10m1 : Method := { name := "checkIndex", desc := "(IILjava/util/function/BiFunction;)I", sig := { parameters := [.int, .int, (.object "java/util/function/BiFunction")], returnType := some .int }, accessFlags := 9, code := some k10c1 }
def k10c2 : Code := { maxStack := 4, maxLocals := 4, code := jdk_41_method_12_code, exceptionTable := #[], attributes := #[] }
def k10m2 : Method := { name := "checkFromToIndex", desc := "(IIILjava/util/function/BiFunction;)I", sig := { parameters := [.int, .int, .int, (.object "java/util/function/BiFunction")], returnType := some .int }, accessFlags := 9, code := some k10c2 }
def k10c3 : Code := { maxStack := 4, maxLocals := 4, code := jdk_41_method_13_code, exceptionTable := #[], attributes := #[] }
def k10m3 : Method := { name := "checkFromIndexSize", desc := "(IIILjava/util/function/BiFunction;)I", sig := { parameters := [.int, .int, .int, (.object "java/util/function/BiFunction")], returnType := some .int }, accessFlags := 9, code := some k10c3 }
/-- jdk/internal/util/Preconditions -/
def k10 : Class := { plain "jdk/internal/util/Preconditions" (some 0) with
  accessFlags := 33
  interfaces := #[]
  cf := some (fileOf pool10 24 #[.nestMembers #[55, 131, 125, 114]] #[{ accessFlags := 1, nameIndex := 5, descriptorIndex := 6, attributes := #[] }, { accessFlags := 9, nameIndex := 33, descriptorIndex := 178, attributes := #[] }, { accessFlags := 9, nameIndex := 47, descriptorIndex := 183, attributes := #[] }, { accessFlags := 9, nameIndex := 49, descriptorIndex := 183, attributes := #[] }] 33 2 #[] #[{ accessFlags := 25, nameIndex := 123, descriptorIndex := 124, attributes := #[] }, { accessFlags := 25, nameIndex := 130, descriptorIndex := 124, attributes := #[] }, { accessFlags := 25, nameIndex := 136, descriptorIndex := 124, attributes := #[] }])
  fields := #[{ name := "SIOOBE_FORMATTER", type := (.object "java/util/function/BiFunction"), accessFlags := 25, slot := 0, constantValue := 0 }, { name := "AIOOBE_FORMATTER", type := (.object "java/util/function/BiFunction"), accessFlags := 25, slot := 1, constantValue := 0 }, { name := "IOOBE_FORMATTER", type := (.object "java/util/function/BiFunction"), accessFlags := 25, slot := 2, constantValue := 0 }]
  methods := #[k10m0, k10m1, k10m2, k10m3]
  instanceTypes := #[]
  staticTypes := #[(.object "java/util/function/BiFunction"), (.object "java/util/function/BiFunction"), (.object "java/util/function/BiFunction")]
  resolved := Array.replicate 194 none
  statics := some 1 }

def pool11 : Array CpInfo := pool [(3, .class_ 4), (0, u "java/lang/String"), (1, .class_ 8), (1, u "java/lang/Object"), (0, u "<init>"), (0, u "()V"), (0, .methodref 12 13), (0, .class_ 14), (0, .nameAndType 15 16), (0, u "java/lang/StringUTF16"), (0, u "newBytesLength"), (0, u "(I)I"), (3, .integer 1073741823), (23, .fieldref 12 45), (0, .nameAndType 46 47), (0, u "$assertionsDisabled"), (0, u "Z"), (0, .methodref 12 49), (0, .nameAndType 50 51), (0, u "length"), (0, u "([B)I"), (7, .fieldref 12 60), (0, .nameAndType 61 62), (0, u "HI_BYTE_SHIFT"), (0, u "I"), (0, .fieldref 12 64), (0, .nameAndType 65 62), (0, u "LO_BYTE_SHIFT"), (1, .methodref 12 68), (0, .nameAndType 69 70), (0, u "checkIndex"), (0, u "(I[B)V"), (0, .methodref 12 72), (0, .nameAndType 73 74), (0, u "getChar"), (0, u "([BI)C"), (0, .methodref 76 77), (0, .class_ 78), (0, .nameAndType 79 80), (0, u "java/lang/Character"), (0, u "isHighSurrogate"), (0, u "(C)Z"), (0, .methodref 76 82), (0, .nameAndType 83 80), (0, u "isLowSurrogate"), (7, u "([BIIZ)I"), (7, u "(II[B)V"), (0, .methodref 12 101), (0, .nameAndType 102 91), (0, u "codePointCount"), (4, .methodref 12 108), (0, .nameAndType 109 110), (0, u "newBytesFor"), (0, u "(I)[B"), (0, .methodref 12 112), (0, .nameAndType 113 114), (0, u "putChar"), (0, u "([BII)V"), (0, .methodref 12 116), (0, .nameAndType 117 118), (0, u "compress"), (0, u "([CI[BII)I"), (0, .methodref 12 120), (0, .nameAndType 121 122), (0, u "toBytes"), (0, u "([CII)[B"), (0, .methodref 12 124), (0, .nameAndType 117 125), (0, u "([BI[BII)I"), (0, .methodref 127 128), (0, .class_ 129), (0, .nameAndType 130 131), (0, u "java/util/Arrays"), (0, u "copyOfRange"), (0, u "([BII)[B"), (41, .methodref 12 174), (0, .nameAndType 175 99), (0, u "checkBoundsOffCount"), (74, u "([BII)I"), (0, .fieldref 3 252), (0, .nameAndType 253 47), (0, u "COMPACT_STRINGS"), (3, .methodref 12 258), (0, .nameAndType 117 131), (0, .methodref 12 260), (0, .nameAndType 261 262), (0, u "coderFromArrayLen"), (0, u "([BI)B"), (0, .methodref 3 264), (0, .nameAndType 9 265), (0, u "([BB)V"), (15, u "(III)I"), (13, .string 296), (0, u ""), (30, u "newString"), (0, u "([BII)Ljava/lang/String;"), (40, .class_ 371), (1, u "java/lang/StringUTF16$LinesSpliterator"), (20, u "charAt"), (21, .methodref 3 415), (0, .nameAndType 69 416), (0, u "(II)V"), (2, .methodref 3 420), (0, .nameAndType 175 281), (9, u "MAX_LENGTH"), (196, .class_ 628), (0, u "java/lang/StringUTF16$CodePointsSpliterator"), (0, .class_ 630), (0, u "java/lang/StringUTF16$CharsSpliterator")] 4

def k11m0 : Method := { name := "<init>", desc := "()V", sig := { parameters := [], returnType := none }, accessFlags := 0, code := none }
def k11c1 : Code := { maxStack := 1, maxLocals := 1, code := jdk_52_method_2_code, exceptionTable := #[], attributes := #[] }
def k11m1 : Method := { name := "newBytesFor", desc := "(I)[B", sig := { parameters := [.int], returnType := some (.array .byte) }, accessFlags := 9, code := some k11c1 }
def k11c2 : Code := { maxStack := 4, maxLocals := 1, code := jdk_52_method_3_code, exceptionTable := #[], attributes := #[] }
def k11m2 : Method := { name := "newBytesLength", desc := "(I)I", sig := { parameters := [.int], returnType := some .int }, accessFlags := 9, code := some k11c2 }
def k11c3 : Code := { maxStack := 4, maxLocals := 3, code := jdk_52_method_4_code, exceptionTable := #[], attributes := #[] }
def k11m3 : Method := { name := "putChar", desc := "([BII)V", sig := { parameters := [(.array .byte), .int, .int], returnType := none }, accessFlags := 8, code := some k11c3 }
def k11c4 : Code := { maxStack := 3, maxLocals := 2, code := jdk_52_method_5_code, exceptionTable := #[], attributes := #[] }
def k11m4 : Method := { name := "getChar", desc := "([BI)C", sig := { parameters := [(.array .byte), .int], returnType := some .char }, accessFlags := 8, code := some k11c4 }
def k11c5 : Code := { maxStack := 2, maxLocals := 1, code := jdk_52_method_6_code, exceptionTable := #[], attributes := #[] }
def k11m5 : Method := { name := "length", desc := "([B)I", sig := { parameters := [(.array .byte)], returnType := some .int }, accessFlags := 9, code := some k11c5 }
def k11c6 : Code := { maxStack := 3, maxLocals := 6, code := jdk_52_method_11_code, exceptionTable := #[], attributes := #[] }
def k11m6 : Method := { name := "codePointCount", desc := "([BIIZ)I", sig := { parameters := [(.array .byte), .int, .int, .boolean], returnType := some .int }, accessFlags := 10, code := some k11c6 }
def k11c7 : Code := { maxStack := 4, maxLocals := 3, code := jdk_52_method_12_code, exceptionTable := #[], attributes := #[] }
def k11m7 : Method := { name := "codePointCount", desc := "([BII)I", sig := { parameters := [(.array .byte), .int, .int], returnType := some .int }, accessFlags := 9, code := some k11c7 }
def k11c8 : Code := { maxStack := 4, maxLocals := 5, code := jdk_52_method_14_code, exceptionTable := #[], attributes := #[] }
def k11m8 : Method := { name := "toBytes", desc := "([CII)[B", sig := { parameters := [(.array .char), .int, .int], returnType := some (.array .byte) }, accessFlags := 9, code := some k11c8 }
def k11c9 : Code := { maxStack := 2, maxLocals := 2, code := jdk_52_method_15_code, exceptionTable := #[], attributes := #[] }
def k11m9 : Method := { name := "coderFromArrayLen", desc := "([BI)B", sig := { parameters := [(.array .byte), .int], returnType := some .byte }, accessFlags := 8, code := some k11c9 }
def k11c10 : Code := { maxStack := 5, maxLocals := 6, code := jdk_52_method_16_code, exceptionTable := #[], attributes := #[] }
def k11m10 : Method := { name := "compress", desc := "([CII)[B", sig := { parameters := [(.array .char), .int, .int], returnType := some (.array .byte) }, accessFlags := 9, code := some k11c10 }
def k11c11 : Code := { maxStack := 5, maxLocals := 6, code := jdk_52_method_17_code, exceptionTable := #[], attributes := #[] }
def k11m11 : Method := { name := "compress", desc := "([BII)[B", sig := { parameters := [(.array .byte), .int, .int], returnType := some (.array .byte) }, accessFlags := 9, code := some k11c11 }
def k11c12 : Code := { maxStack := 3, maxLocals := 7, code := jdk_52_method_21_code, exceptionTable := #[], attributes := #[] }
def k11m12 : Method := { name := "compress", desc := "([CI[BII)I", sig := { parameters := [(.array .char), .int, (.array .byte), .int, .int], returnType := some .int }, accessFlags := 9, code := some k11c12 }
def k11c13 : Code := { maxStack := 3, maxLocals := 7, code := jdk_52_method_22_code, exceptionTable := #[], attributes := #[] }
def k11m13 : Method := { name := "compress", desc := "([BI[BII)I", sig := { parameters := [(.array .byte), .int, (.array .byte), .int, .int], returnType := some .int }, accessFlags := 9, code := some k11c13 }
def k11c14 : Code := { maxStack := 6, maxLocals := 5, code := jdk_52_method_69_code, exceptionTable := #[], attributes := #[] }
def k11m14 : Method := { name := "newString", desc := "([BII)Ljava/lang/String;", sig := { parameters := [(.array .byte), .int, .int], returnType := some (.object "java/lang/String") }, accessFlags := 9, code := some k11c14 }
def k11c15 : Code := { maxStack := 2, maxLocals := 2, code := jdk_52_method_83_code, exceptionTable := #[], attributes := #[] }
def k11m15 : Method := { name := "charAt", desc := "([BI)C", sig := { parameters := [(.array .byte), .int], returnType := some .char }, accessFlags := 9, code := some k11c15 }
def k11c16 : Code := { maxStack := 2, maxLocals := 2, code := jdk_52_method_91_code, exceptionTable := #[], attributes := #[] }
def k11m16 : Method := { name := "checkIndex", desc := "(I[B)V", sig := { parameters := [.int, (.array .byte)], returnType := none }, accessFlags := 9, code := some k11c16 }
def k11c17 : Code := { maxStack := 3, maxLocals := 3, code := jdk_52_method_94_code, exceptionTable := #[], attributes := #[] }
def k11m17 : Method := { name := "checkBoundsOffCount", desc := "(II[B)V", sig := { parameters := [.int, .int, (.array .byte)], returnType := none }, accessFlags := 9, code := some k11c17 }
/-- java/lang/StringUTF16 -/
def k11 : Class := { plain "java/lang/StringUTF16" (some 0) with
  accessFlags := 48
  interfaces := #[]
  cf := some (fileOf pool11 12 #[.nestMembers #[627, 629, 369]] #[{ accessFlags := 0, nameIndex := 9, descriptorIndex := 10, attributes := #[] }, { accessFlags := 9, nameIndex := 109, descriptorIndex := 110, attributes := #[] }, { accessFlags := 9, nameIndex := 15, descriptorIndex := 16, attributes := #[] }, { accessFlags := 8, nameIndex := 113, descriptorIndex := 114, attributes := #[] }, { accessFlags := 8, nameIndex := 73, descriptorIndex := 74, attributes := #[] }, { accessFlags := 9, nameIndex := 50, descriptorIndex := 51, attributes := #[] }, { accessFlags := 10, nameIndex := 102, descriptorIndex := 91, attributes := #[] }, { accessFlags := 9, nameIndex := 102, descriptorIndex := 250, attributes := #[] }, { accessFlags := 9, nameIndex := 121, descriptorIndex := 122, attributes := #[] }, { accessFlags := 8, nameIndex := 261, descriptorIndex := 262, attributes := #[] }, { accessFlags := 9, nameIndex := 117, descriptorIndex := 122, attributes := #[] }, { accessFlags := 9, nameIndex := 117, descriptorIndex := 131, attributes := #[] }, { accessFlags := 9, nameIndex := 117, descriptorIndex := 118, attributes := #[] }, { accessFlags := 9, nameIndex := 117, descriptorIndex := 125, attributes := #[] }, { accessFlags := 9, nameIndex := 327, descriptorIndex := 328, attributes := #[] }, { accessFlags := 9, nameIndex := 392, descriptorIndex := 74, attributes := #[] }, { accessFlags := 9, nameIndex := 69, descriptorIndex := 70, attributes := #[] }, { accessFlags := 9, nameIndex := 175, descriptorIndex := 99, attributes := #[] }] 48 6 #[] #[{ accessFlags := 26, nameIndex := 61, descriptorIndex := 62, attributes := #[] }, { accessFlags := 26, nameIndex := 65, descriptorIndex := 62, attributes := #[] }, { accessFlags := 24, nameIndex := 430, descriptorIndex := 62, attributes := #[] }, { accessFlags := 4120, nameIndex := 46, descriptorIndex := 47, attributes := #[] }])
  fields := #[{ name := "HI_BYTE_SHIFT", type := .int, accessFlags := 26, slot := 0, constantValue := 0 }, { name := "LO_BYTE_SHIFT", type := .int, accessFlags := 26, slot := 1, constantValue := 0 }, { name := "MAX_LENGTH", type := .int, accessFlags := 24, slot := 2, constantValue := 0 }, { name := "$assertionsDisabled", type := .boolean, accessFlags := 4120, slot := 3, constantValue := 0 }]
  methods := #[k11m0, k11m1, k11m2, k11m3, k11m4, k11m5, k11m6, k11m7, k11m8, k11m9, k11m10, k11m11, k11m12, k11m13, k11m14, k11m15, k11m16, k11m17]
  instanceTypes := #[]
  staticTypes := #[.int, .int, .int, .boolean]
  resolved := Array.replicate 635 none
  statics := some 2 }

def pool12 : Array CpInfo := pool [(1, .class_ 2), (0, u "java/lang/Character"), (18, u "value"), (0, u "C"), (19, .class_ 44), (1, u "java/lang/Object"), (3, .class_ 50), (1, u "java/lang/Character$CharacterCache"), (24, .integer 55296), (0, .integer 56320), (0, .integer 57344), (0, .methodref 1 79), (0, .nameAndType 80 81), (0, u "isHighSurrogate"), (0, u "(C)Z"), (0, .methodref 1 83), (0, .nameAndType 84 81), (0, u "isLowSurrogate"), (1, .interfaceMethodref 87 88), (0, .class_ 89), (0, .nameAndType 90 91), (0, u "java/lang/CharSequence"), (0, u "charAt"), (0, u "(I)C"), (0, .interfaceMethodref 87 93), (0, .nameAndType 94 95), (0, u "length"), (0, u "()I"), (188, u "$assertionsDisabled"), (0, u "Z"), (21, .class_ 309), (1, u "java/lang/Character$UnicodeBlock"), (73, u "TYPE"), (0, u "Ljava/lang/Class;"), (0, .class_ 386), (0, u "java/io/Serializable"), (0, .class_ 388), (0, u "java/lang/Comparable"), (0, .class_ 390), (0, u "java/lang/constant/Constable"), (0, u "MIN_RADIX"), (0, u "I"), (2, u "MAX_RADIX"), (1, u "MIN_VALUE"), (1, u "MAX_VALUE"), (3, u "UNASSIGNED"), (0, u "B"), (0, u "UPPERCASE_LETTER"), (1, u "LOWERCASE_LETTER"), (0, u "TITLECASE_LETTER"), (1, u "MODIFIER_LETTER"), (1, u "OTHER_LETTER"), (1, u "NON_SPACING_MARK"), (1, u "ENCLOSING_MARK"), (1, u "COMBINING_SPACING_MARK"), (1, u "DECIMAL_DIGIT_NUMBER"), (1, u "LETTER_NUMBER"), (1, u "OTHER_NUMBER"), (1, u "SPACE_SEPARATOR"), (1, u "LINE_SEPARATOR"), (1, u "PARAGRAPH_SEPARATOR"), (1, u "CONTROL"), (1, u "FORMAT"), (1, u "PRIVATE_USE"), (1, u "SURROGATE"), (1, u "DASH_PUNCTUATION"), (1, u "START_PUNCTUATION"), (1, u "END_PUNCTUATION"), (1, u "CONNECTOR_PUNCTUATION"), (1, u "OTHER_PUNCTUATION"), (1, u "MATH_SYMBOL"), (1, u "CURRENCY_SYMBOL"), (1, u "MODIFIER_SYMBOL"), (1, u "OTHER_SYMBOL"), (1, u "INITIAL_QUOTE_PUNCTUATION"), (1, u "FINAL_QUOTE_PUNCTUATION"), (1, u "ERROR"), (1, u "DIRECTIONALITY_UNDEFINED"), (0, u "DIRECTIONALITY_LEFT_TO_RIGHT"), (0, u "DIRECTIONALITY_RIGHT_TO_LEFT"), (0, u "DIRECTIONALITY_RIGHT_TO_LEFT_ARABIC"), (0, u "DIRECTIONALITY_EUROPEAN_NUMBER"), (0, u "DIRECTIONALITY_EUROPEAN_NUMBER_SEPARATOR"), (0, u "DIRECTIONALITY_EUROPEAN_NUMBER_TERMINATOR"), (0, u "DIRECTIONALITY_ARABIC_NUMBER"), (0, u "DIRECTIONALITY_COMMON_NUMBER_SEPARATOR"), (0, u "DIRECTIONALITY_NONSPACING_MARK"), (0, u "DIRECTIONALITY_BOUNDARY_NEUTRAL"), (0, u "DIRECTIONALITY_PARAGRAPH_SEPARATOR"), (0, u "DIRECTIONALITY_SEGMENT_SEPARATOR"), (0, u "DIRECTIONALITY_WHITESPACE"), (0, u "DIRECTIONALITY_OTHER_NEUTRALS"), (0, u "DIRECTIONALITY_LEFT_TO_RIGHT_EMBEDDING"), (0, u "DIRECTIONALITY_LEFT_TO_RIGHT_OVERRIDE"), (0, u "DIRECTIONALITY_RIGHT_TO_LEFT_EMBEDDING"), (0, u "DIRECTIONALITY_RIGHT_TO_LEFT_OVERRIDE"), (1, u "DIRECTIONALITY_POP_DIRECTIONAL_FORMAT"), (0, u "DIRECTIONALITY_LEFT_TO_RIGHT_ISOLATE"), (0, u "DIRECTIONALITY_RIGHT_TO_LEFT_ISOLATE"), (0, u "DIRECTIONALITY_FIRST_STRONG_ISOLATE"), (0, u "DIRECTIONALITY_POP_DIRECTIONAL_ISOLATE"), (0, u "MIN_HIGH_SURROGATE"), (0, u "MAX_HIGH_SURROGATE"), (1, u "MIN_LOW_SURROGATE"), (0, u "MAX_LOW_SURROGATE"), (1, u "MIN_SURROGATE"), (0, u "MAX_SURROGATE"), (0, u "MIN_SUPPLEMENTARY_CODE_POINT"), (0, u "MIN_CODE_POINT"), (0, u "MAX_CODE_POINT"), (1, u "serialVersionUID"), (0, u "J"), (2, u "SIZE"), (0, u "BYTES"), (49, u "(Ljava/lang/CharSequence;II)I"), (6, u "offsetByCodePoints"), (31, .class_ 596), (0, u "java/lang/Character$UnicodeScript"), (0, .class_ 598), (0, u "java/lang/Character$Subset")] 5

def k12c0 : Code := { maxStack := 2, maxLocals := 1, code := jdk_89_method_14_code, exceptionTable := #[], attributes := #[] }
def k12m0 : Method := { name := "isHighSurrogate", desc := "(C)Z", sig := { parameters := [.char], returnType := some .boolean }, accessFlags := 9, code := some k12c0 }
def k12c1 : Code := { maxStack := 2, maxLocals := 1, code := jdk_89_method_15_code, exceptionTable := #[], attributes := #[] }
def k12m1 : Method := { name := "isLowSurrogate", desc := "(C)Z", sig := { parameters := [.char], returnType := some .boolean }, accessFlags := 9, code := some k12c1 }
def k12c2 : Code := { maxStack := 3, maxLocals := 6, code := jdk_89_method_36_code, exceptionTable := #[], attributes := #[] }
def k12m2 : Method := { name := "offsetByCodePoints", desc := "(Ljava/lang/CharSequence;II)I", sig := { parameters := [(.object "java/lang/CharSequence"), .int, .int], returnType := some .int }, accessFlags := 9, code := some k12c2 }
/-- java/lang/Character -/
def k12 : Class := { plain "java/lang/Character" (some 0) with
  accessFlags := 49
  interfaces := #[2, 3, 5]
  cf := some (fileOf pool12 1 #[.nestMembers #[48, 595, 307, 597]] #[{ accessFlags := 9, nameIndex := 80, descriptorIndex := 81, attributes := #[] }, { accessFlags := 9, nameIndex := 84, descriptorIndex := 81, attributes := #[] }, { accessFlags := 9, nameIndex := 563, descriptorIndex := 556, attributes := #[] }] 49 42 #[385, 387, 389] #[{ accessFlags := 25, nameIndex := 391, descriptorIndex := 392, attributes := #[] }, { accessFlags := 25, nameIndex := 395, descriptorIndex := 392, attributes := #[] }, { accessFlags := 25, nameIndex := 397, descriptorIndex := 22, attributes := #[] }, { accessFlags := 25, nameIndex := 399, descriptorIndex := 22, attributes := #[] }, { accessFlags := 25, nameIndex := 383, descriptorIndex := 384, attributes := #[] }, { accessFlags := 25, nameIndex := 403, descriptorIndex := 404, attributes := #[] }, { accessFlags := 25, nameIndex := 405, descriptorIndex := 404, attributes := #[] }, { accessFlags := 25, nameIndex := 407, descriptorIndex := 404, attributes := #[] }, { accessFlags := 25, nameIndex := 408, descriptorIndex := 404, attributes := #[] }, { accessFlags := 25, nameIndex := 410, descriptorIndex := 404, attributes := #[] }, { accessFlags := 25, nameIndex := 412, descriptorIndex := 404, attributes := #[] }, { accessFlags := 25, nameIndex := 414, descriptorIndex := 404, attributes := #[] }, { accessFlags := 25, nameIndex := 416, descriptorIndex := 404, attributes := #[] }, { accessFlags := 25, nameIndex := 418, descriptorIndex := 404, attributes := #[] }, { accessFlags := 25, nameIndex := 420, descriptorIndex := 404, attributes := #[] }, { accessFlags := 25, nameIndex := 422, descriptorIndex := 404, attributes := #[] }, { accessFlags := 25, nameIndex := 424, descriptorIndex := 404, attributes := #[] }, { accessFlags := 25, nameIndex := 426, descriptorIndex := 404, attributes := #[] }, { accessFlags := 25, nameIndex := 428, descriptorIndex := 404, attributes := #[] }, { accessFlags := 25, nameIndex := 430, descriptorIndex := 404, attributes := #[] }, { accessFlags := 25, nameIndex := 432, descriptorIndex := 404, attributes := #[] }, { accessFlags := 25, nameIndex := 434, descriptorIndex := 404, attributes := #[] }, { accessFlags := 25, nameIndex := 436, descriptorIndex := 404, attributes := #[] }, { accessFlags := 25, nameIndex := 438, descriptorIndex := 404, attributes := #[] }, { accessFlags := 25, nameIndex := 440, descriptorIndex := 404, attributes := #[] }, { accessFlags := 25, nameIndex := 442, descriptorIndex := 404, attributes := #[] }, { accessFlags := 25, nameIndex := 444, descriptorIndex := 404, attributes := #[] }, { accessFlags := 25, nameIndex := 446, descriptorIndex := 404, attributes := #[] }, { accessFlags := 25, nameIndex := 448, descriptorIndex := 404, attributes := #[] }, { accessFlags := 25, nameIndex := 450, descriptorIndex := 404, attributes := #[] }, { accessFlags := 25, nameIndex := 452, descriptorIndex := 404, attributes := #[] }, { accessFlags := 25, nameIndex := 454, descriptorIndex := 404, attributes := #[] }, { accessFlags := 25, nameIndex := 456, descriptorIndex := 404, attributes := #[] }, { accessFlags := 25, nameIndex := 458, descriptorIndex := 404, attributes := #[] }, { accessFlags := 25, nameIndex := 460, descriptorIndex := 404, attributes := #[] }, { accessFlags := 24, nameIndex := 462, descriptorIndex := 392, attributes := #[] }, { accessFlags := 25, nameIndex := 464, descriptorIndex := 404, attributes := #[] }, { accessFlags := 25, nameIndex := 465, descriptorIndex := 404, attributes := #[] }, { accessFlags := 25, nameIndex := 466, descriptorIndex := 404, attributes := #[] }, { accessFlags := 25, nameIndex := 467, descriptorIndex := 404, attributes := #[] }, { accessFlags := 25, nameIndex := 468, descriptorIndex := 404, attributes := #[] }, { accessFlags := 25, nameIndex := 469, descriptorIndex := 404, attributes := #[] }, { accessFlags := 25, nameIndex := 470, descriptorIndex := 404, attributes := #[] }, { accessFlags := 25, nameIndex := 471, descriptorIndex := 404, attributes := #[] }, { accessFlags := 25, nameIndex := 472, descriptorIndex := 404, attributes := #[] }, { accessFlags := 25, nameIndex := 473, descriptorIndex := 404, attributes := #[] }, { accessFlags := 25, nameIndex := 474, descriptorIndex := 404, attributes := #[] }, { accessFlags := 25, nameIndex := 475, descriptorIndex := 404, attributes := #[] }, { accessFlags := 25, nameIndex := 476, descriptorIndex := 404, attributes := #[] }, { accessFlags := 25, nameIndex := 477, descriptorIndex := 404, attributes := #[] }, { accessFlags := 25, nameIndex := 478, descriptorIndex := 404, attributes := #[] }, { accessFlags := 25, nameIndex := 479, descriptorIndex := 404, attributes := #[] }, { accessFlags := 25, nameIndex := 480, descriptorIndex := 404, attributes := #[] }, { accessFlags := 25, nameIndex := 481, descriptorIndex := 404, attributes := #[] }, { accessFlags := 25, nameIndex := 482, descriptorIndex := 404, attributes := #[] }, { accessFlags := 25, nameIndex := 484, descriptorIndex := 404, attributes := #[] }, { accessFlags := 25, nameIndex := 485, descriptorIndex := 404, attributes := #[] }, { accessFlags := 25, nameIndex := 486, descriptorIndex := 404, attributes := #[] }, { accessFlags := 25, nameIndex := 487, descriptorIndex := 404, attributes := #[] }, { accessFlags := 25, nameIndex := 488, descriptorIndex := 404, attributes := #[] }, { accessFlags := 25, nameIndex := 489, descriptorIndex := 22, attributes := #[] }, { accessFlags := 25, nameIndex := 490, descriptorIndex := 22, attributes := #[] }, { accessFlags := 25, nameIndex := 492, descriptorIndex := 22, attributes := #[] }, { accessFlags := 25, nameIndex := 493, descriptorIndex := 22, attributes := #[] }, { accessFlags := 25, nameIndex := 495, descriptorIndex := 22, attributes := #[] }, { accessFlags := 25, nameIndex := 496, descriptorIndex := 22, attributes := #[] }, { accessFlags := 25, nameIndex := 497, descriptorIndex := 392, attributes := #[] }, { accessFlags := 25, nameIndex := 498, descriptorIndex := 392, attributes := #[] }, { accessFlags := 25, nameIndex := 499, descriptorIndex := 392, attributes := #[] }, { accessFlags := 18, nameIndex := 21, descriptorIndex := 22, attributes := #[] }, { accessFlags := 26, nameIndex := 501, descriptorIndex := 502, attributes := #[] }, { accessFlags := 25, nameIndex := 505, descriptorIndex := 392, attributes := #[] }, { accessFlags := 25, nameIndex := 506, descriptorIndex := 392, attributes := #[] }, { accessFlags := 4120, nameIndex := 284, descriptorIndex := 285, attributes := #[] }])
  fields := #[{ name := "MIN_RADIX", type := .int, accessFlags := 25, slot := 0, constantValue := 0 }, { name := "MAX_RADIX", type := .int, accessFlags := 25, slot := 1, constantValue := 0 }, { name := "MIN_VALUE", type := .char, accessFlags := 25, slot := 2, constantValue := 0 }, { name := "MAX_VALUE", type := .char, accessFlags := 25, slot := 3, constantValue := 0 }, { name := "TYPE", type := (.object "java/lang/Class"), accessFlags := 25, slot := 4, constantValue := 0 }, { name := "UNASSIGNED", type := .byte, accessFlags := 25, slot := 5, constantValue := 0 }, { name := "UPPERCASE_LETTER", type := .byte, accessFlags := 25, slot := 6, constantValue := 0 }, { name := "LOWERCASE_LETTER", type := .byte, accessFlags := 25, slot := 7, constantValue := 0 }, { name := "TITLECASE_LETTER", type := .byte, accessFlags := 25, slot := 8, constantValue := 0 }, { name := "MODIFIER_LETTER", type := .byte, accessFlags := 25, slot := 9, constantValue := 0 }, { name := "OTHER_LETTER", type := .byte, accessFlags := 25, slot := 10, constantValue := 0 }, { name := "NON_SPACING_MARK", type := .byte, accessFlags := 25, slot := 11, constantValue := 0 }, { name := "ENCLOSING_MARK", type := .byte, accessFlags := 25, slot := 12, constantValue := 0 }, { name := "COMBINING_SPACING_MARK", type := .byte, accessFlags := 25, slot := 13, constantValue := 0 }, { name := "DECIMAL_DIGIT_NUMBER", type := .byte, accessFlags := 25, slot := 14, constantValue := 0 }, { name := "LETTER_NUMBER", type := .byte, accessFlags := 25, slot := 15, constantValue := 0 }, { name := "OTHER_NUMBER", type := .byte, accessFlags := 25, slot := 16, constantValue := 0 }, { name := "SPACE_SEPARATOR", type := .byte, accessFlags := 25, slot := 17, constantValue := 0 }, { name := "LINE_SEPARATOR", type := .byte, accessFlags := 25, slot := 18, constantValue := 0 }, { name := "PARAGRAPH_SEPARATOR", type := .byte, accessFlags := 25, slot := 19, constantValue := 0 }, { name := "CONTROL", type := .byte, accessFlags := 25, slot := 20, constantValue := 0 }, { name := "FORMAT", type := .byte, accessFlags := 25, slot := 21, constantValue := 0 }, { name := "PRIVATE_USE", type := .byte, accessFlags := 25, slot := 22, constantValue := 0 }, { name := "SURROGATE", type := .byte, accessFlags := 25, slot := 23, constantValue := 0 }, { name := "DASH_PUNCTUATION", type := .byte, accessFlags := 25, slot := 24, constantValue := 0 }, { name := "START_PUNCTUATION", type := .byte, accessFlags := 25, slot := 25, constantValue := 0 }, { name := "END_PUNCTUATION", type := .byte, accessFlags := 25, slot := 26, constantValue := 0 }, { name := "CONNECTOR_PUNCTUATION", type := .byte, accessFlags := 25, slot := 27, constantValue := 0 }, { name := "OTHER_PUNCTUATION", type := .byte, accessFlags := 25, slot := 28, constantValue := 0 }, { name := "MATH_SYMBOL", type := .byte, accessFlags := 25, slot := 29, constantValue := 0 }, { name := "CURRENCY_SYMBOL", type := .byte, accessFlags := 25, slot := 30, constantValue := 0 }, { name := "MODIFIER_SYMBOL", type := .byte, accessFlags := 25, slot := 31, constantValue := 0 }, { name := "OTHER_SYMBOL", type := .byte, accessFlags := 25, slot := 32, constantValue := 0 }, { name := "INITIAL_QUOTE_PUNCTUATION", type := .byte, accessFlags := 25, slot := 33, constantValue := 0 }, { name := "FINAL_QUOTE_PUNCTUATION", type := .byte, accessFlags := 25, slot := 34, constantValue := 0 }, { name := "ERROR", type := .int, accessFlags := 24, slot := 35, constantValue := 0 }, { name := "DIRECTIONALITY_UNDEFINED", type := .byte, accessFlags := 25, slot := 36, constantValue := 0 }, { name := "DIRECTIONALITY_LEFT_TO_RIGHT", type := .byte, accessFlags := 25, slot := 37, constantValue := 0 }, { name := "DIRECTIONALITY_RIGHT_TO_LEFT", type := .byte, accessFlags := 25, slot := 38, constantValue := 0 }, { name := "DIRECTIONALITY_RIGHT_TO_LEFT_ARABIC", type := .byte, accessFlags := 25, slot := 39, constantValue := 0 }, { name := "DIRECTIONALITY_EUROPEAN_NUMBER", type := .byte, accessFlags := 25, slot := 40, constantValue := 0 }, { name := "DIRECTIONALITY_EUROPEAN_NUMBER_SEPARATOR", type := .byte, accessFlags := 25, slot := 41, constantValue := 0 }, { name := "DIRECTIONALITY_EUROPEAN_NUMBER_TERMINATOR", type := .byte, accessFlags := 25, slot := 42, constantValue := 0 }, { name := "DIRECTIONALITY_ARABIC_NUMBER", type := .byte, accessFlags := 25, slot := 43, constantValue := 0 }, { name := "DIRECTIONALITY_COMMON_NUMBER_SEPARATOR", type := .byte, accessFlags := 25, slot := 44, constantValue := 0 }, { name := "DIRECTIONALITY_NONSPACING_MARK", type := .byte, accessFlags := 25, slot := 45, constantValue := 0 }, { name := "DIRECTIONALITY_BOUNDARY_NEUTRAL", type := .byte, accessFlags := 25, slot := 46, constantValue := 0 }, { name := "DIRECTIONALITY_PARAGRAPH_SEPARATOR", type := .byte, accessFlags := 25, slot := 47, constantValue := 0 }, { name := "DIRECTIONALITY_SEGMENT_SEPARATOR", type := .byte, accessFlags := 25, slot := 48, constantValue := 0 }, { name := "DIRECTIONALITY_WHITESPACE", type := .byte, accessFlags := 25, slot := 49, constantValue := 0 }, { name := "DIRECTIONALITY_OTHER_NEUTRALS", type := .byte, accessFlags := 25, slot := 50, constantValue := 0 }, { name := "DIRECTIONALITY_LEFT_TO_RIGHT_EMBEDDING", type := .byte, accessFlags := 25, slot := 51, constantValue := 0 }, { name := "DIRECTIONALITY_LEFT_TO_RIGHT_OVERRIDE", type := .byte, accessFlags := 25, slot := 52, constantValue := 0 }, { name := "DIRECTIONALITY_RIGHT_TO_LEFT_EMBEDDING", type := .byte, accessFlags := 25, slot := 53, constantValue := 0 }, { name := "DIRECTIONALITY_RIGHT_TO_LEFT_OVERRIDE", type := .byte, accessFlags := 25, slot := 54, constantValue := 0 }, { name := "DIRECTIONALITY_POP_DIRECTIONAL_FORMAT", type := .byte, accessFlags := 25, slot := 55, constantValue := 0 }, { name := "DIRECTIONALITY_LEFT_TO_RIGHT_ISOLATE", type := .byte, accessFlags := 25, slot := 56, constantValue := 0 }, { name := "DIRECTIONALITY_RIGHT_TO_LEFT_ISOLATE", type := .byte, accessFlags := 25, slot := 57, constantValue := 0 }, { name := "DIRECTIONALITY_FIRST_STRONG_ISOLATE", type := .byte, accessFlags := 25, slot := 58, constantValue := 0 }, { name := "DIRECTIONALITY_POP_DIRECTIONAL_ISOLATE", type := .byte, accessFlags := 25, slot := 59, constantValue := 0 }, { name := "MIN_HIGH_SURROGATE", type := .char, accessFlags := 25, slot := 60, constantValue := 0 }, { name := "MAX_HIGH_SURROGATE", type := .char, accessFlags := 25, slot := 61, constantValue := 0 }, { name := "MIN_LOW_SURROGATE", type := .char, accessFlags := 25, slot := 62, constantValue := 0 }, { name := "MAX_LOW_SURROGATE", type := .char, accessFlags := 25, slot := 63, constantValue := 0 }, { name := "MIN_SURROGATE", type := .char, accessFlags := 25, slot := 64, constantValue := 0 }, { name := "MAX_SURROGATE", type := .char, accessFlags := 25, slot := 65, constantValue := 0 }, { name := "MIN_SUPPLEMENTARY_CODE_POINT", type := .int, accessFlags := 25, slot := 66, constantValue := 0 }, { name := "MIN_CODE_POINT", type := .int, accessFlags := 25, slot := 67, constantValue := 0 }, { name := "MAX_CODE_POINT", type := .int, accessFlags := 25, slot := 68, constantValue := 0 }, { name := "value", type := .char, accessFlags := 18, slot := 0, constantValue := 0 }, { name := "serialVersionUID", type := .long, accessFlags := 26, slot := 69, constantValue := 0 }, { name := "SIZE", type := .int, accessFlags := 25, slot := 70, constantValue := 0 }, { name := "BYTES", type := .int, accessFlags := 25, slot := 71, constantValue := 0 }, { name := "$assertionsDisabled", type := .boolean, accessFlags := 4120, slot := 72, constantValue := 0 }]
  methods := #[k12m0, k12m1, k12m2]
  instanceTypes := #[.char]
  staticTypes := #[.int, .int, .char, .char, (.object "java/lang/Class"), .byte, .byte, .byte, .byte, .byte, .byte, .byte, .byte, .byte, .byte, .byte, .byte, .byte, .byte, .byte, .byte, .byte, .byte, .byte, .byte, .byte, .byte, .byte, .byte, .byte, .byte, .byte, .byte, .byte, .byte, .int, .byte, .byte, .byte, .byte, .byte, .byte, .byte, .byte, .byte, .byte, .byte, .byte, .byte, .byte, .byte, .byte, .byte, .byte, .byte, .byte, .byte, .byte, .byte, .byte, .char, .char, .char, .char, .char, .char, .int, .int, .int, .long, .int, .int, .boolean]
  resolved := Array.replicate 604 none
  statics := none }

def pool13 : Array CpInfo := pool [(1, .class_ 2), (0, u "java/lang/String"), (1, .class_ 6), (1, u "java/lang/Object"), (0, u "<init>"), (0, u "()V"), (0, .methodref 1 10), (0, .nameAndType 11 12), (0, u "checkIndex"), (0, u "(II)V"), (1, .class_ 16), (1, u "java/lang/StringLatin1"), (36, u "([BI)C"), (58, .methodref 1 113), (0, .nameAndType 7 114), (0, u "([BB)V"), (6, u "$assertionsDisabled"), (0, u "Z"), (8, .class_ 133), (1, u "java/util/Arrays"), (17, .string 152), (0, u ""), (43, u "newString"), (0, u "([BII)Ljava/lang/String;"), (23, .class_ 223), (1, u "java/lang/StringLatin1$LinesSpliterator"), (8, .methodref 131 233), (0, .nameAndType 234 235), (0, u "copyOfRange"), (0, u "([BII)[B"), (16, u "charAt"), (137, .class_ 391), (0, u "java/lang/StringLatin1$CharsSpliterator")] 3

def k13m0 : Method := { name := "<init>", desc := "()V", sig := { parameters := [], returnType := none }, accessFlags := 0, code := none }
def k13c1 : Code := { maxStack := 2, maxLocals := 2, code := jdk_43_method_2_code, exceptionTable := #[], attributes := #[] }
def k13m1 : Method := { name := "charAt", desc := "([BI)C", sig := { parameters := [(.array .byte), .int], returnType := some .char }, accessFlags := 9, code := some k13c1 }
def k13c2 : Code := { maxStack := 6, maxLocals := 3, code := jdk_43_method_47_code, exceptionTable := #[], attributes := #[] }
def k13m2 : Method := { name := "newString", desc := "([BII)Ljava/lang/String;", sig := { parameters := [(.array .byte), .int, .int], returnType := some (.object "java/lang/String") }, accessFlags := 9, code := some k13c2 }
/-- java/lang/StringLatin1 -/
def k13 : Class := { plain "java/lang/StringLatin1" (some 0) with
  accessFlags := 48
  interfaces := #[]
  cf := some (fileOf pool13 14 #[.nestMembers #[390, 221]] #[{ accessFlags := 0, nameIndex := 7, descriptorIndex := 8, attributes := #[] }, { accessFlags := 9, nameIndex := 252, descriptorIndex := 53, attributes := #[] }, { accessFlags := 9, nameIndex := 196, descriptorIndex := 197, attributes := #[] }] 48 4 #[] #[{ accessFlags := 4120, nameIndex := 121, descriptorIndex := 122, attributes := #[] }])
  fields := #[{ name := "$assertionsDisabled", type := .boolean, accessFlags := 4120, slot := 0, constantValue := 0 }]
  methods := #[k13m0, k13m1, k13m2]
  instanceTypes := #[]
  staticTypes := #[.boolean]
  resolved := Array.replicate 395 none
  statics := none }

def pool14 : Array CpInfo := pool [(2, .class_ 4), (1, u "java/lang/Object"), (0, u "<init>"), (0, u "()V"), (7, .class_ 16), (1, u "java/util/Arrays"), (57, .class_ 76), (1, u "java/util/Arrays$NaturalOrder"), (36, .class_ 115), (1, u "java/util/Arrays$LegacyMergeSort"), (1, u "Z"), (21, u "copyOfRange"), (10, .methodref 151 152), (0, .class_ 153), (0, .nameAndType 154 155), (0, u "java/lang/System"), (0, u "arraycopy"), (0, u "(Ljava/lang/Object;ILjava/lang/Object;II)V"), (148, .methodref 305 306), (0, .class_ 307), (0, .nameAndType 308 309), (0, u "java/lang/Math"), (0, u "min"), (0, u "(II)I"), (29, .methodref 14 340), (0, .nameAndType 341 342), (0, u "copyOfRangeByte"), (0, u "([BII)[B"), (0, .methodref 14 344), (0, .nameAndType 345 346), (0, u "checkLength"), (0, u "(II)V"), (28, .class_ 376), (0, u "java/util/Arrays$ArrayList"), (68, u "$assertionsDisabled"), (269, u "MIN_ARRAY_SORT_GRAN"), (0, u "I"), (2, u "INSERTIONSORT_THRESHOLD"), (255, .class_ 976), (0, u "java/util/Arrays$ArrayItr")] 52

def k14m0 : Method := { name := "<init>", desc := "()V", sig := { parameters := [], returnType := none }, accessFlags := 2, code := none }
def k14c1 : Code := { maxStack := 4, maxLocals := 2, code := jdk_65_method_131_code, exceptionTable := #[], attributes := #[] }
def k14m1 : Method := { name := "checkLength", desc := "(II)V", sig := { parameters := [.int, .int], returnType := none }, accessFlags := 10, code := some k14c1 }
def k14c2 : Code := { maxStack := 3, maxLocals := 3, code := jdk_65_method_132_code, exceptionTable := #[], attributes := #[] }
def k14m2 : Method := { name := "copyOfRange", desc := "([BII)[B", sig := { parameters := [(.array .byte), .int, .int], returnType := some (.array .byte) }, accessFlags := 9, code := some k14c2 }
def k14c3 : Code := { maxStack := 6, maxLocals := 5, code := jdk_65_method_133_code, exceptionTable := #[], attributes := #[] }
def k14m3 : Method := { name := "copyOfRangeByte", desc := "([BII)[B", sig := { parameters := [(.array .byte), .int, .int], returnType := some (.array .byte) }, accessFlags := 10, code := some k14c3 }
/-- java/util/Arrays -/
def k14 : Class := { plain "java/util/Arrays" (some 0) with
  accessFlags := 49
  interfaces := #[]
  cf := some (fileOf pool14 14 #[.nestMembers #[975, 375, 113, 74]] #[{ accessFlags := 2, nameIndex := 5, descriptorIndex := 6, attributes := #[] }, { accessFlags := 10, nameIndex := 345, descriptorIndex := 346, attributes := #[] }, { accessFlags := 9, nameIndex := 139, descriptorIndex := 342, attributes := #[] }, { accessFlags := 10, nameIndex := 341, descriptorIndex := 342, attributes := #[] }] 49 2 #[] #[{ accessFlags := 26, nameIndex := 715, descriptorIndex := 716, attributes := #[] }, { accessFlags := 26, nameIndex := 719, descriptorIndex := 716, attributes := #[] }, { accessFlags := 4120, nameIndex := 445, descriptorIndex := 117, attributes := #[] }])
  fields := #[{ name := "MIN_ARRAY_SORT_GRAN", type := .int, accessFlags := 26, slot := 0, constantValue := 0 }, { name := "INSERTIONSORT_THRESHOLD", type := .int, accessFlags := 26, slot := 1, constantValue := 0 }, { name := "$assertionsDisabled", type := .boolean, accessFlags := 4120, slot := 2, constantValue := 0 }]
  methods := #[k14m0, k14m1, k14m2, k14m3]
  instanceTypes := #[]
  staticTypes := #[.int, .int, .boolean]
  resolved := Array.replicate 1029 none
  statics := none }

def pool15 : Array CpInfo := pool [(1, .class_ 2), (0, u "java/lang/Math"), (1, .class_ 6), (1, u "java/lang/Object"), (0, u "<init>"), (0, u "()V"), (89, .class_ 100), (1, u "java/lang/Math$RandomNumberGeneratorHolder"), (71, u "negativeZeroFloatBits"), (0, u "J"), (2, u "negativeZeroDoubleBits"), (24, u "min"), (43, u "$assertionsDisabled"), (0, u "Z"), (88, u "(II)I"), (2, u "twoToTheDoubleScaleDown"), (0, u "D"), (4, u "twoToTheDoubleScaleUp"), (9, u "E"), (3, u "PI"), (2, u "TAU"), (2, u "DEGREES_TO_RADIANS"), (0, u "RADIANS_TO_DEGREES")] 94

def k15m0 : Method := { name := "<init>", desc := "()V", sig := { parameters := [], returnType := none }, accessFlags := 2, code := none }
def k15c1 : Code := { maxStack := 2, maxLocals := 2, code := jdk_29_method_69_code, exceptionTable := #[], attributes := #[] }
def k15m1 : Method := { name := "min", desc := "(II)I", sig := { parameters := [.int, .int], returnType := some .int }, accessFlags := 9, code := some k15c1 }
/-- java/lang/Math -/
def k15 : Class := { plain "java/lang/Math" (some 0) with
  accessFlags := 49
  interfaces := #[]
  cf := some (fileOf pool15 1 #[.nestMembers #[98]] #[{ accessFlags := 2, nameIndex := 7, descriptorIndex := 8, attributes := #[] }, { accessFlags := 9, nameIndex := 201, descriptorIndex := 335, attributes := #[] }] 49 4 #[] #[{ accessFlags := 25, nameIndex := 354, descriptorIndex := 339, attributes := #[] }, { accessFlags := 25, nameIndex := 358, descriptorIndex := 339, attributes := #[] }, { accessFlags := 25, nameIndex := 361, descriptorIndex := 339, attributes := #[] }, { accessFlags := 26, nameIndex := 364, descriptorIndex := 339, attributes := #[] }, { accessFlags := 26, nameIndex := 365, descriptorIndex := 339, attributes := #[] }, { accessFlags := 26, nameIndex := 172, descriptorIndex := 173, attributes := #[] }, { accessFlags := 26, nameIndex := 176, descriptorIndex := 173, attributes := #[] }, { accessFlags := 8, nameIndex := 344, descriptorIndex := 339, attributes := #[] }, { accessFlags := 8, nameIndex := 338, descriptorIndex := 339, attributes := #[] }, { accessFlags := 4120, nameIndex := 245, descriptorIndex := 246, attributes := #[] }])
  fields := #[{ name := "E", type := .double, accessFlags := 25, slot := 0, constantValue := 0 }, { name := "PI", type := .double, accessFlags := 25, slot := 1, constantValue := 0 }, { name := "TAU", type := .double, accessFlags := 25, slot := 2, constantValue := 0 }, { name := "DEGREES_TO_RADIANS", type := .double, accessFlags := 26, slot := 3, constantValue := 0 }, { name := "RADIANS_TO_DEGREES", type := .double, accessFlags := 26, slot := 4, constantValue := 0 }, { name := "negativeZeroFloatBits", type := .long, accessFlags := 26, slot := 5, constantValue := 0 }, { name := "negativeZeroDoubleBits", type := .long, accessFlags := 26, slot := 6, constantValue := 0 }, { name := "twoToTheDoubleScaleUp", type := .double, accessFlags := 8, slot := 7, constantValue := 0 }, { name := "twoToTheDoubleScaleDown", type := .double, accessFlags := 8, slot := 8, constantValue := 0 }, { name := "$assertionsDisabled", type := .boolean, accessFlags := 4120, slot := 9, constantValue := 0 }]
  methods := #[k15m0, k15m1]
  instanceTypes := #[]
  staticTypes := #[.double, .double, .double, .double, .double, .long, .long, .double, .double, .boolean]
  resolved := Array.replicate 460 none
  statics := none }

def pool16 : Array CpInfo := pool [(2, .class_ 4), (1, u "java/lang/Object"), (0, u "<init>"), (0, u "()V"), (1, .class_ 10), (1, u "java/lang/System"), (0, u "allowSecurityManager"), (0, u "I"), (16, u "cons"), (0, u "Ljava/io/Console;"), (77, .class_ 110), (1, u "java/lang/System$CallersHolder"), (43, u "initialErrStream"), (0, u "Ljava/io/PrintStream;"), (19, u "security"), (0, u "Ljava/lang/SecurityManager;"), (31, .class_ 209), (0, u "java/lang/System$1"), (7, u "props"), (0, u "Ljava/util/Properties;"), (2, u "lineSeparator"), (0, u "Ljava/lang/String;"), (96, .class_ 321), (1, u "java/lang/System$LoggerFinder"), (5, .class_ 328), (0, u "java/lang/System$Logger"), (67, u "err"), (2, u "out"), (91, u "notSupportedJnuEncoding"), (15, u "in"), (17, u "initialIn"), (0, u "Ljava/io/InputStream;"), (35, u "bootLayer"), (0, u "Ljava/lang/ModuleLayer;"), (99, .class_ 664), (0, u "java/lang/System$2"), (9, u "NEVER"), (2, u "MAYBE"), (49, u "arraycopy"), (0, u "(Ljava/lang/Object;ILjava/lang/Object;II)V"), (72, .class_ 802), (0, u "java/lang/System$Logger$Level")] 31

def k16m0 : Method := { name := "<init>", desc := "()V", sig := { parameters := [], returnType := none }, accessFlags := 2, code := none }
def k16m1 : Method := { name := "arraycopy", desc := "(Ljava/lang/Object;ILjava/lang/Object;II)V", sig := { parameters := [(.object "java/lang/Object"), .int, (.object "java/lang/Object"), .int, .int], returnType := none }, accessFlags := 265, code := none }
/-- java/lang/System -/
def k16 : Class := { plain "java/lang/System" (some 0) with
  accessFlags := 49
  interfaces := #[]
  cf := some (fileOf pool16 8 #[.nestMembers #[319, 327, 801, 108, 663, 208]] #[{ accessFlags := 2, nameIndex := 5, descriptorIndex := 6, attributes := #[] }, { accessFlags := 265, nameIndex := 727, descriptorIndex := 728, attributes := #[] }] 49 2 #[] #[{ accessFlags := 25, nameIndex := 507, descriptorIndex := 526, attributes := #[] }, { accessFlags := 25, nameIndex := 399, descriptorIndex := 155, attributes := #[] }, { accessFlags := 25, nameIndex := 396, descriptorIndex := 155, attributes := #[] }, { accessFlags := 10, nameIndex := 525, descriptorIndex := 526, attributes := #[] }, { accessFlags := 26, nameIndex := 674, descriptorIndex := 12, attributes := #[] }, { accessFlags := 26, nameIndex := 677, descriptorIndex := 12, attributes := #[] }, { accessFlags := 10, nameIndex := 11, descriptorIndex := 12, attributes := #[] }, { accessFlags := 74, nameIndex := 175, descriptorIndex := 176, attributes := #[] }, { accessFlags := 10, nameIndex := 491, descriptorIndex := 222, attributes := #[] }, { accessFlags := 74, nameIndex := 29, descriptorIndex := 30, attributes := #[] }, { accessFlags := 74, nameIndex := 154, descriptorIndex := 155, attributes := #[] }, { accessFlags := 10, nameIndex := 217, descriptorIndex := 218, attributes := #[] }, { accessFlags := 10, nameIndex := 221, descriptorIndex := 222, attributes := #[] }, { accessFlags := 8, nameIndex := 562, descriptorIndex := 563, attributes := #[] }])
  fields := #[{ name := "in", type := (.object "java/io/InputStream"), accessFlags := 25, slot := 0, constantValue := 0 }, { name := "out", type := (.object "java/io/PrintStream"), accessFlags := 25, slot := 1, constantValue := 0 }, { name := "err", type := (.object "java/io/PrintStream"), accessFlags := 25, slot := 2, constantValue := 0 }, { name := "initialIn", type := (.object "java/io/InputStream"), accessFlags := 10, slot := 3, constantValue := 0 }, { name := "NEVER", type := .int, accessFlags := 26, slot := 4, constantValue := 0 }, { name := "MAYBE", type := .int, accessFlags := 26, slot := 5, constantValue := 0 }, { name := "allowSecurityManager", type := .int, accessFlags := 10, slot := 6, constantValue := 0 }, { name := "security", type := (.object "java/lang/SecurityManager"), accessFlags := 74, slot := 7, constantValue := 0 }, { name := "notSupportedJnuEncoding", type := (.object "java/lang/String"), accessFlags := 10, slot := 8, constantValue := 0 }, { name := "cons", type := (.object "java/io/Console"), accessFlags := 74, slot := 9, constantValue := 0 }, { name := "initialErrStream", type := (.object "java/io/PrintStream"), accessFlags := 74, slot := 10, constantValue := 0 }, { name := "props", type := (.object "java/util/Properties"), accessFlags := 10, slot := 11, constantValue := 0 }, { name := "lineSeparator", type := (.object "java/lang/String"), accessFlags := 10, slot := 12, constantValue := 0 }, { name := "bootLayer", type := (.object "java/lang/ModuleLayer"), accessFlags := 8, slot := 13, constantValue := 0 }]
  methods := #[k16m0, k16m1]
  instanceTypes := #[]
  staticTypes := #[(.object "java/io/InputStream"), (.object "java/io/PrintStream"), (.object "java/io/PrintStream"), (.object "java/io/InputStream"), .int, .int, .int, (.object "java/lang/SecurityManager"), (.object "java/lang/String"), (.object "java/io/Console"), (.object "java/io/PrintStream"), (.object "java/util/Properties"), (.object "java/lang/String"), (.object "java/lang/ModuleLayer")]
  resolved := Array.replicate 834 none
  statics := none }

def pool17 : Array CpInfo := pool [(9, u "<init>"), (6, .class_ 18), (1, u "java/lang/Object"), (0, u "()V"), (1, .class_ 23), (1, u "jdk/internal/util/ArraysSupport"), (0, u "LOG2_ARRAY_LONG_INDEX_SCALE"), (0, u "I"), (2, u "U"), (0, u "Ljdk/internal/misc/Unsafe;"), (8, u "BIG_ENDIAN"), (0, u "Z"), (8, u "LOG2_BYTE_BIT_SIZE"), (4, u "LOG2_ARRAY_INT_INDEX_SCALE"), (54, u "JLA"), (0, u "Ljdk/internal/access/JavaLangAccess;"), (11, u "LOG2_ARRAY_BOOLEAN_INDEX_SCALE"), (9, u "LOG2_ARRAY_BYTE_INDEX_SCALE"), (5, u "LOG2_ARRAY_CHAR_INDEX_SCALE"), (5, u "LOG2_ARRAY_SHORT_INDEX_SCALE"), (18, u "LOG2_ARRAY_FLOAT_INDEX_SCALE"), (24, u "LOG2_ARRAY_DOUBLE_INDEX_SCALE"), (89, u "T_BOOLEAN"), (2, u "T_CHAR"), (1, u "T_FLOAT"), (1, u "T_DOUBLE"), (1, u "T_BYTE"), (1, u "T_SHORT"), (1, u "T_INT"), (1, u "T_LONG"), (1, u "SOFT_MAX_ARRAY_LENGTH")] 83

def k17m0 : Method := { name := "<init>", desc := "()V", sig := { parameters := [], returnType := none }, accessFlags := 2, code := none }
/-- jdk/internal/util/ArraysSupport -/
def k17 : Class := { plain "jdk/internal/util/ArraysSupport" (some 0) with
  accessFlags := 33
  interfaces := #[]
  cf := some (fileOf pool17 21 #[] #[{ accessFlags := 2, nameIndex := 9, descriptorIndex := 19, attributes := #[] }] 33 16 #[] #[{ accessFlags := 24, nameIndex := 28, descriptorIndex := 29, attributes := #[] }, { accessFlags := 26, nameIndex := 38, descriptorIndex := 39, attributes := #[] }, { accessFlags := 25, nameIndex := 121, descriptorIndex := 25, attributes := #[] }, { accessFlags := 25, nameIndex := 131, descriptorIndex := 25, attributes := #[] }, { accessFlags := 25, nameIndex := 137, descriptorIndex := 25, attributes := #[] }, { accessFlags := 25, nameIndex := 143, descriptorIndex := 25, attributes := #[] }, { accessFlags := 25, nameIndex := 53, descriptorIndex := 25, attributes := #[] }, { accessFlags := 25, nameIndex := 24, descriptorIndex := 25, attributes := #[] }, { accessFlags := 25, nameIndex := 162, descriptorIndex := 25, attributes := #[] }, { accessFlags := 25, nameIndex := 187, descriptorIndex := 25, attributes := #[] }, { accessFlags := 26, nameIndex := 48, descriptorIndex := 25, attributes := #[] }, { accessFlags := 25, nameIndex := 277, descriptorIndex := 25, attributes := #[] }, { accessFlags := 25, nameIndex := 280, descriptorIndex := 25, attributes := #[] }, { accessFlags := 25, nameIndex := 282, descriptorIndex := 25, attributes := #[] }, { accessFlags := 25, nameIndex := 284, descriptorIndex := 25, attributes := #[] }, { accessFlags := 25, nameIndex := 286, descriptorIndex := 25, attributes := #[] }, { accessFlags := 25, nameIndex := 288, descriptorIndex := 25, attributes := #[] }, { accessFlags := 25, nameIndex := 290, descriptorIndex := 25, attributes := #[] }, { accessFlags := 25, nameIndex := 292, descriptorIndex := 25, attributes := #[] }, { accessFlags := 26, nameIndex := 108, descriptorIndex := 109, attributes := #[] }, { accessFlags := 25, nameIndex := 294, descriptorIndex := 25, attributes := #[] }])
  fields := #[{ name := "U", type := (.object "jdk/internal/misc/Unsafe"), accessFlags := 24, slot := 0, constantValue := 0 }, { name := "BIG_ENDIAN", type := .boolean, accessFlags := 26, slot := 1, constantValue := 0 }, { name := "LOG2_ARRAY_BOOLEAN_INDEX_SCALE", type := .int, accessFlags := 25, slot := 2, constantValue := 0 }, { name := "LOG2_ARRAY_BYTE_INDEX_SCALE", type := .int, accessFlags := 25, slot := 3, constantValue := 0 }, { name := "LOG2_ARRAY_CHAR_INDEX_SCALE", type := .int, accessFlags := 25, slot := 4, constantValue := 0 }, { name := "LOG2_ARRAY_SHORT_INDEX_SCALE", type := .int, accessFlags := 25, slot := 5, constantValue := 0 }, { name := "LOG2_ARRAY_INT_INDEX_SCALE", type := .int, accessFlags := 25, slot := 6, constantValue := 0 }, { name := "LOG2_ARRAY_LONG_INDEX_SCALE", type := .int, accessFlags := 25, slot := 7, constantValue := 0 }, { name := "LOG2_ARRAY_FLOAT_INDEX_SCALE", type := .int, accessFlags := 25, slot := 8, constantValue := 0 }, { name := "LOG2_ARRAY_DOUBLE_INDEX_SCALE", type := .int, accessFlags := 25, slot := 9, constantValue := 0 }, { name := "LOG2_BYTE_BIT_SIZE", type := .int, accessFlags := 26, slot := 10, constantValue := 0 }, { name := "T_BOOLEAN", type := .int, accessFlags := 25, slot := 11, constantValue := 0 }, { name := "T_CHAR", type := .int, accessFlags := 25, slot := 12, constantValue := 0 }, { name := "T_FLOAT", type := .int, accessFlags := 25, slot := 13, constantValue := 0 }, { name := "T_DOUBLE", type := .int, accessFlags := 25, slot := 14, constantValue := 0 }, { name := "T_BYTE", type := .int, accessFlags := 25, slot := 15, constantValue := 0 }, { name := "T_SHORT", type := .int, accessFlags := 25, slot := 16, constantValue := 0 }, { name := "T_INT", type := .int, accessFlags := 25, slot := 17, constantValue := 0 }, { name := "T_LONG", type := .int, accessFlags := 25, slot := 18, constantValue := 0 }, { name := "JLA", type := (.object "jdk/internal/access/JavaLangAccess"), accessFlags := 26, slot := 19, constantValue := 0 }, { name := "SOFT_MAX_ARRAY_LENGTH", type := .int, accessFlags := 25, slot := 20, constantValue := 0 }]
  methods := #[k17m0]
  instanceTypes := #[]
  staticTypes := #[(.object "jdk/internal/misc/Unsafe"), .boolean, .int, .int, .int, .int, .int, .int, .int, .int, .int, .int, .int, .int, .int, .int, .int, .int, .int, (.object "jdk/internal/access/JavaLangAccess"), .int]
  resolved := Array.replicate 378 none
  statics := none }

def pool18 : Array CpInfo := pool [(1, u "java/lang/Cloneable"), (0, .class_ 1), (0, u "java/lang/Object"), (0, .class_ 3)] 3

/-- java/lang/Cloneable -/
def k18 : Class := { plain "java/lang/Cloneable" (some 0) with
  accessFlags := 1537
  interfaces := #[]
  cf := some (fileOf pool18 2 #[] #[] 1537 4 #[] #[])
  fields := #[]
  methods := #[]
  instanceTypes := #[]
  staticTypes := #[]
  resolved := Array.replicate 8 none
  statics := none }

/-- the primitive byte -/
def k19 : Class := { plain "byte" none with kind := .primitive 'B', accessFlags := 0x411 }
/-- [B -/
def k20 : Class := { plain "[B" (some 0) with kind := .array 19 .byte, interfaces := #[18, 2], accessFlags := 1041 }

/-- the primitive char -/
def k21 : Class := { plain "char" none with kind := .primitive 'C', accessFlags := 0x411 }
/-- [C -/
def k22 : Class := { plain "[C" (some 0) with kind := .array 21 .char, interfaces := #[18, 2], accessFlags := 1041 }

/-- the primitive int -/
def k23 : Class := { plain "int" none with kind := .primitive 'I', accessFlags := 0x411 }
/-- [I -/
def k24 : Class := { plain "[I" (some 0) with kind := .array 23 .int, interfaces := #[18, 2], accessFlags := 1041 }

def heap : Heap := #[{ cls := 7, slots := #[.long 0, .int 1, .null, .int 0, .null, .int 0, .int 0], vm := .statics 7 },
  { cls := 10, slots := #[.null, .null, .null], vm := .statics 10 },
  { cls := 11, slots := #[.int 0, .int 8, .int 0, .int 1], vm := .statics 11 }]
def classes : Array Class := #[k0, k1, k2, k3, k4, k5, k6, k7, k8, k9, k10, k11, k12, k13, k14, k15, k16, k17, k18, k19, k20, k21, k22, k23, k24]
def interned : List (Array UInt16 × Addr) := []
def slotsUsed : Nat := 14
def theMethod : MethodId := ⟨1, 6⟩
def args0 : Array Value := #[.int 3, .int 2, .int 260, .int 1, .int 2, .int 3]
def aboutOver (below : List Frame) : State where
  vm := { classes := classes, interned := interned.toArray }
  heap := heap
  slotsUsed := slotsUsed
  threads := #[{ frames := .invoking theMethod args0 :: below }]
def below0 : List Frame := [.native { method := ⟨0, 0⟩, args := #[] }]
def about1 : State := aboutOver below0
def p0 : Program := .bare "" "" ""
def e0 : Env := launch0.env 0 0 0
theorem w_frames : about1.frames = Frame.invoking theMethod args0 :: below0 := rfl
set_option maxRecDepth 65536 in
theorem w_args : argsFit about1.vm theMethod args0 = true := by decide +kernel
set_option maxRecDepth 65536 in
theorem w_heap : heapFits about1 = true := by decide +kernel
set_option maxRecDepth 65536 in
theorem w_runnable : about1.curStatus? = some .runnable := by decide +kernel
set_option maxRecDepth 65536 in
theorem w_alone : about1.alone = true := by decide +kernel
set_option maxRecDepth 65536 in
theorem w_named : about1.methodNamed? x = some theMethod := by decide +kernel
set_option maxRecDepth 65536 in
theorem w_hears : about1.hears theMethod below0 = true := by decide +kernel
set_option maxRecDepth 65536 in
theorem w_ripe : about1.ripe theMethod args0 below0 = true := by decide +kernel
theorem w_running : about1.status = .running := rfl
set_option maxRecDepth 65536 in
theorem w_room : about1.hasRoom e0.platform room_1 = true :=
  launch0.hasRoom_least _ room_1 (by decide +kernel) (by decide +kernel) (by decide +kernel) (by decide +kernel) (by decide +kernel) (by decide +kernel)
theorem allAtoms_all (ts : List Jvm.Cond) (a : Array Jvm.Value) (st : Jvm.State) : (allAtoms ts).before a st = ts.all (fun c => c.before a st) := by
  induction ts with
  | nil => rfl
  | cons c t ih =>
    show (Jvm.Cond.and c (allAtoms t)).before a st = _
    rw [Jvm.Cond.before_and, ih, List.all_cons]
def words1 : List Jvm.Cond := Jvm.Cond.code x code maxLocals ret :: tables_1
/-- a 'code' word, met by the world's own term for the bytes: nothing is compared byte by byte -/
theorem code_word {y : MethodName} {bytes : ByteArray} {mx : Nat} {rt : Option FieldType} {a : Array Value} {s : State} {m : MethodId} {meth : Method} {c : Code} (h1 : s.methodNamed? y = some m) (h2 : s.vm.method? m = some meth) (h3 : meth.code = some c) (h4 : c.code = bytes)
    (h5 : (c.maxLocals == mx && c.exceptionTable.isEmpty && decide (c.maxStack ≤ mostOperands) && decide (meth.sig.returnType = rt) && !meth.locks && decide (parseMethodDescriptor y.desc = some meth.sig)) = true) : (Jvm.Cond.code y bytes mx rt).before a s = true := by
  simp only [Bool.and_eq_true, beq_iff_eq, Bool.not_eq_true', decide_eq_true_eq] at h5
  obtain ⟨⟨⟨⟨⟨g1, g2⟩, g3⟩, g4⟩, g5⟩, g6⟩ := h5
  simp [Cond.before, Cond.holds, Cond.value, h1, h2, h3, h4, g1, g2, g3, g4, g5, g6]
def isCode : Jvm.Cond → Bool
  | .code _ _ _ _ => true
  | _ => false
theorem all_split {L : List Jvm.Cond} {P : Jvm.Cond → Bool} (h1 : L.all (fun c => isCode c || P c) = true) (h2 : ∀ c ∈ L.filter isCode, P c = true) : L.all P = true := by
  refine List.all_eq_true.mpr fun c hc => ?_
  have h := List.all_eq_true.mp h1 c hc
  rcases Bool.eq_false_or_eq_true (isCode c) with hi | hi
  · exact h2 c (List.mem_filter.mpr ⟨hc, hi⟩)
  · simpa [hi] using h
set_option maxRecDepth 65536 in
theorem w_c0 : (Jvm.Cond.code x code maxLocals ret).before args0 about1 = true := code_word (m := ⟨1, 6⟩) (meth := k1m6) (c := k1c6) (by decide +kernel) rfl rfl rfl (by decide +kernel)
set_option maxRecDepth 65536 in
theorem w_c1 : (Jvm.Cond.code ({ cls := "com/example/idpd/idpd/TextsPrefixPinLaw", name := "draw", desc := "(I)C" } : Jvm.MethodName) method_2_code (3 : Nat) (Option.some Jvm.ClassFile.FieldType.char)).before args0 about1 = true := code_word (m := ⟨1, 1⟩) (meth := k1m1) (c := k1c1) (by decide +kernel) rfl rfl rfl (by decide +kernel)
set_option maxRecDepth 65536 in
theorem w_c2 : (Jvm.Cond.code ({ cls := "com/example/idpd/idpd/TextsPrefixPinLaw", name := "make", desc := "(I[C)Ljava/lang/String;" } : Jvm.MethodName) method_6_code (3 : Nat) (Option.some (Jvm.ClassFile.FieldType.object "java/lang/String"))).before args0 about1 = true := code_word (m := ⟨1, 5⟩) (meth := k1m5) (c := k1c5) (by decide +kernel) rfl rfl rfl (by decide +kernel)
set_option maxRecDepth 65536 in
theorem w_c3 : (Jvm.Cond.code ({ cls := "java/lang/String", name := "<init>", desc := "([C)V" } : Jvm.MethodName) jdk_42_method_3_code (2 : Nat) (Option.none : Option Jvm.ClassFile.FieldType)).before args0 about1 = true := code_word (m := ⟨7, 1⟩) (meth := k7m1) (c := k7c1) (by decide +kernel) rfl rfl rfl (by decide +kernel)
set_option maxRecDepth 65536 in
theorem w_c4 : (Jvm.Cond.code ({ cls := "java/lang/String", name := "<init>", desc := "([CIILjava/lang/Void;)V" } : Jvm.MethodName) jdk_42_method_149_code (6 : Nat) (Option.none : Option Jvm.ClassFile.FieldType)).before args0 about1 = true := code_word (m := ⟨7, 7⟩) (meth := k7m7) (c := k7c7) (by decide +kernel) rfl rfl rfl (by decide +kernel)
set_option maxRecDepth 65536 in
theorem w_c5 : (Jvm.Cond.code ({ cls := "java/lang/Object", name := "<init>", desc := "()V" } : Jvm.MethodName) object_method_1_code (1 : Nat) (Option.none : Option Jvm.ClassFile.FieldType)).before args0 about1 = true := code_word (m := ⟨0, 0⟩) (meth := k0m0) (c := k0c0) (by decide +kernel) rfl rfl rfl (by decide +kernel)
set_option maxRecDepth 65536 in
theorem w_c6 : (Jvm.Cond.code ({ cls := "com/example/idpd/idpd/Texts", name := "prefix", desc := "(Ljava/lang/String;I)Ljava/lang/String;" } : Jvm.MethodName) prog_25_method_2_code (3 : Nat) (Option.some (Jvm.ClassFile.FieldType.object "java/lang/String"))).before args0 about1 = true := code_word (m := ⟨8, 1⟩) (meth := k8m1) (c := k8c1) (by decide +kernel) rfl rfl rfl (by decide +kernel)
set_option maxRecDepth 65536 in
theorem w_c7 : (Jvm.Cond.code ({ cls := "java/lang/String", name := "length", desc := "()I" } : Jvm.MethodName) jdk_42_method_54_code (1 : Nat) (Option.some Jvm.ClassFile.FieldType.int)).before args0 about1 = true := code_word (m := ⟨7, 2⟩) (meth := k7m2) (c := k7c2) (by decide +kernel) rfl rfl rfl (by decide +kernel)
set_option maxRecDepth 65536 in
theorem w_c8 : (Jvm.Cond.code ({ cls := "java/lang/String", name := "coder", desc := "()B" } : Jvm.MethodName) jdk_42_method_152_code (1 : Nat) (Option.some Jvm.ClassFile.FieldType.byte)).before args0 about1 = true := code_word (m := ⟨7, 9⟩) (meth := k7m9) (c := k7c9) (by decide +kernel) rfl rfl rfl (by decide +kernel)
set_option maxRecDepth 65536 in
theorem w_c9 : (Jvm.Cond.code ({ cls := "java/lang/String", name := "codePointCount", desc := "(II)I" } : Jvm.MethodName) jdk_42_method_59_code (3 : Nat) (Option.some Jvm.ClassFile.FieldType.int)).before args0 about1 = true := code_word (m := ⟨7, 4⟩) (meth := k7m4) (c := k7c4) (by decide +kernel) rfl rfl rfl (by decide +kernel)
set_option maxRecDepth 65536 in
theorem w_c10 : (Jvm.Cond.code ({ cls := "java/util/Objects", name := "checkFromToIndex", desc := "(III)I" } : Jvm.MethodName) jdk_31_method_18_code (3 : Nat) (Option.some Jvm.ClassFile.FieldType.int)).before args0 about1 = true := code_word (m := ⟨9, 1⟩) (meth := k9m1) (c := k9c1) (by decide +kernel) rfl rfl rfl (by decide +kernel)
set_option maxRecDepth 65536 in
theorem w_c11 : (Jvm.Cond.code ({ cls := "jdk/internal/util/Preconditions", name := "checkFromToIndex", desc := "(IIILjava/util/function/BiFunction;)I" } : Jvm.MethodName) jdk_41_method_12_code (4 : Nat) (Option.some Jvm.ClassFile.FieldType.int)).before args0 about1 = true := code_word (m := ⟨10, 2⟩) (meth := k10m2) (c := k10c2) (by decide +kernel) rfl rfl rfl (by decide +kernel)
set_option maxRecDepth 65536 in
theorem w_c12 : (Jvm.Cond.code ({ cls := "java/lang/String", name := "isLatin1", desc := "()Z" } : Jvm.MethodName) jdk_42_method_154_code (1 : Nat) (Option.some Jvm.ClassFile.FieldType.boolean)).before args0 about1 = true := code_word (m := ⟨7, 10⟩) (meth := k7m10) (c := k7c10) (by decide +kernel) rfl rfl rfl (by decide +kernel)
set_option maxRecDepth 65536 in
theorem w_c13 : (Jvm.Cond.code ({ cls := "java/lang/StringUTF16", name := "compress", desc := "([CII)[B" } : Jvm.MethodName) jdk_52_method_16_code (6 : Nat) (Option.some (Jvm.ClassFile.FieldType.array Jvm.ClassFile.FieldType.byte))).before args0 about1 = true := code_word (m := ⟨11, 10⟩) (meth := k11m10) (c := k11c10) (by decide +kernel) rfl rfl rfl (by decide +kernel)
set_option maxRecDepth 65536 in
theorem w_c14 : (Jvm.Cond.code ({ cls := "java/lang/StringUTF16", name := "compress", desc := "([CI[BII)I" } : Jvm.MethodName) jdk_52_method_21_code (7 : Nat) (Option.some Jvm.ClassFile.FieldType.int)).before args0 about1 = true := code_word (m := ⟨11, 12⟩) (meth := k11m12) (c := k11c12) (by decide +kernel) rfl rfl rfl (by decide +kernel)
set_option maxRecDepth 65536 in
theorem w_c15 : (Jvm.Cond.code ({ cls := "java/lang/StringUTF16", name := "toBytes", desc := "([CII)[B" } : Jvm.MethodName) jdk_52_method_14_code (5 : Nat) (Option.some (Jvm.ClassFile.FieldType.array Jvm.ClassFile.FieldType.byte))).before args0 about1 = true := code_word (m := ⟨11, 8⟩) (meth := k11m8) (c := k11c8) (by decide +kernel) rfl rfl rfl (by decide +kernel)
set_option maxRecDepth 65536 in
theorem w_c16 : (Jvm.Cond.code ({ cls := "java/lang/StringUTF16", name := "newBytesFor", desc := "(I)[B" } : Jvm.MethodName) jdk_52_method_2_code (1 : Nat) (Option.some (Jvm.ClassFile.FieldType.array Jvm.ClassFile.FieldType.byte))).before args0 about1 = true := code_word (m := ⟨11, 1⟩) (meth := k11m1) (c := k11c1) (by decide +kernel) rfl rfl rfl (by decide +kernel)
set_option maxRecDepth 65536 in
theorem w_c17 : (Jvm.Cond.code ({ cls := "java/lang/StringUTF16", name := "newBytesLength", desc := "(I)I" } : Jvm.MethodName) jdk_52_method_3_code (1 : Nat) (Option.some Jvm.ClassFile.FieldType.int)).before args0 about1 = true := code_word (m := ⟨11, 2⟩) (meth := k11m2) (c := k11c2) (by decide +kernel) rfl rfl rfl (by decide +kernel)
set_option maxRecDepth 65536 in
theorem w_c18 : (Jvm.Cond.code ({ cls := "java/lang/StringUTF16", name := "putChar", desc := "([BII)V" } : Jvm.MethodName) jdk_52_method_4_code (3 : Nat) (Option.none : Option Jvm.ClassFile.FieldType)).before args0 about1 = true := code_word (m := ⟨11, 3⟩) (meth := k11m3) (c := k11c3) (by decide +kernel) rfl rfl rfl (by decide +kernel)
set_option maxRecDepth 65536 in
theorem w_c19 : (Jvm.Cond.code ({ cls := "java/lang/StringUTF16", name := "getChar", desc := "([BI)C" } : Jvm.MethodName) jdk_52_method_5_code (2 : Nat) (Option.some Jvm.ClassFile.FieldType.char)).before args0 about1 = true := code_word (m := ⟨11, 4⟩) (meth := k11m4) (c := k11c4) (by decide +kernel) rfl rfl rfl (by decide +kernel)
set_option maxRecDepth 65536 in
theorem w_c20 : (Jvm.Cond.code ({ cls := "java/lang/StringUTF16", name := "coderFromArrayLen", desc := "([BI)B" } : Jvm.MethodName) jdk_52_method_15_code (2 : Nat) (Option.some Jvm.ClassFile.FieldType.byte)).before args0 about1 = true := code_word (m := ⟨11, 9⟩) (meth := k11m9) (c := k11c9) (by decide +kernel) rfl rfl rfl (by decide +kernel)
set_option maxRecDepth 65536 in
theorem w_c21 : (Jvm.Cond.code ({ cls := "com/example/idpd/idpd/TextsPrefixPinLaw", name := "step", desc := "([CII)I" } : Jvm.MethodName) method_5_code (3 : Nat) (Option.some Jvm.ClassFile.FieldType.int)).before args0 about1 = true := code_word (m := ⟨1, 4⟩) (meth := k1m4) (c := k1c4) (by decide +kernel) rfl rfl rfl (by decide +kernel)
set_option maxRecDepth 65536 in
theorem w_c22 : (Jvm.Cond.code ({ cls := "com/example/idpd/idpd/TextsPrefixPinLaw", name := "isHigh", desc := "(C)Z" } : Jvm.MethodName) method_3_code (1 : Nat) (Option.some Jvm.ClassFile.FieldType.boolean)).before args0 about1 = true := code_word (m := ⟨1, 2⟩) (meth := k1m2) (c := k1c2) (by decide +kernel) rfl rfl rfl (by decide +kernel)
set_option maxRecDepth 65536 in
theorem w_c23 : (Jvm.Cond.code ({ cls := "java/lang/StringUTF16", name := "codePointCount", desc := "([BII)I" } : Jvm.MethodName) jdk_52_method_12_code (3 : Nat) (Option.some Jvm.ClassFile.FieldType.int)).before args0 about1 = true := code_word (m := ⟨11, 7⟩) (meth := k11m7) (c := k11c7) (by decide +kernel) rfl rfl rfl (by decide +kernel)
set_option maxRecDepth 65536 in
theorem w_c24 : (Jvm.Cond.code ({ cls := "java/lang/StringUTF16", name := "codePointCount", desc := "([BIIZ)I" } : Jvm.MethodName) jdk_52_method_11_code (6 : Nat) (Option.some Jvm.ClassFile.FieldType.int)).before args0 about1 = true := code_word (m := ⟨11, 6⟩) (meth := k11m6) (c := k11c6) (by decide +kernel) rfl rfl rfl (by decide +kernel)
set_option maxRecDepth 65536 in
theorem w_c25 : (Jvm.Cond.code ({ cls := "java/lang/Character", name := "isHighSurrogate", desc := "(C)Z" } : Jvm.MethodName) jdk_89_method_14_code (1 : Nat) (Option.some Jvm.ClassFile.FieldType.boolean)).before args0 about1 = true := code_word (m := ⟨12, 0⟩) (meth := k12m0) (c := k12c0) (by decide +kernel) rfl rfl rfl (by decide +kernel)
set_option maxRecDepth 65536 in
theorem w_c26 : (Jvm.Cond.code ({ cls := "java/lang/String", name := "charAt", desc := "(I)C" } : Jvm.MethodName) jdk_42_method_56_code (2 : Nat) (Option.some Jvm.ClassFile.FieldType.char)).before args0 about1 = true := code_word (m := ⟨7, 3⟩) (meth := k7m3) (c := k7c3) (by decide +kernel) rfl rfl rfl (by decide +kernel)
set_option maxRecDepth 65536 in
theorem w_c27 : (Jvm.Cond.code ({ cls := "java/lang/StringUTF16", name := "charAt", desc := "([BI)C" } : Jvm.MethodName) jdk_52_method_83_code (2 : Nat) (Option.some Jvm.ClassFile.FieldType.char)).before args0 about1 = true := code_word (m := ⟨11, 15⟩) (meth := k11m15) (c := k11c15) (by decide +kernel) rfl rfl rfl (by decide +kernel)
set_option maxRecDepth 65536 in
theorem w_c28 : (Jvm.Cond.code ({ cls := "java/lang/StringUTF16", name := "checkIndex", desc := "(I[B)V" } : Jvm.MethodName) jdk_52_method_91_code (2 : Nat) (Option.none : Option Jvm.ClassFile.FieldType)).before args0 about1 = true := code_word (m := ⟨11, 16⟩) (meth := k11m16) (c := k11c16) (by decide +kernel) rfl rfl rfl (by decide +kernel)
set_option maxRecDepth 65536 in
theorem w_c29 : (Jvm.Cond.code ({ cls := "java/lang/StringUTF16", name := "length", desc := "([B)I" } : Jvm.MethodName) jdk_52_method_6_code (1 : Nat) (Option.some Jvm.ClassFile.FieldType.int)).before args0 about1 = true := code_word (m := ⟨11, 5⟩) (meth := k11m5) (c := k11c5) (by decide +kernel) rfl rfl rfl (by decide +kernel)
set_option maxRecDepth 65536 in
theorem w_c30 : (Jvm.Cond.code ({ cls := "java/lang/String", name := "checkIndex", desc := "(II)V" } : Jvm.MethodName) jdk_42_method_155_code (2 : Nat) (Option.none : Option Jvm.ClassFile.FieldType)).before args0 about1 = true := code_word (m := ⟨7, 11⟩) (meth := k7m11) (c := k7c11) (by decide +kernel) rfl rfl rfl (by decide +kernel)
set_option maxRecDepth 65536 in
theorem w_c31 : (Jvm.Cond.code ({ cls := "jdk/internal/util/Preconditions", name := "checkIndex", desc := "(IILjava/util/function/BiFunction;)I" } : Jvm.MethodName) jdk_41_method_11_code (3 : Nat) (Option.some Jvm.ClassFile.FieldType.int)).before args0 about1 = true := code_word (m := ⟨10, 1⟩) (meth := k10m1) (c := k10c1) (by decide +kernel) rfl rfl rfl (by decide +kernel)
set_option maxRecDepth 65536 in
theorem w_c32 : (Jvm.Cond.code ({ cls := "com/example/idpd/idpd/TextsPrefixPinLaw", name := "isLow", desc := "(C)Z" } : Jvm.MethodName) method_4_code (1 : Nat) (Option.some Jvm.ClassFile.FieldType.boolean)).before args0 about1 = true := code_word (m := ⟨1, 3⟩) (meth := k1m3) (c := k1c3) (by decide +kernel) rfl rfl rfl (by decide +kernel)
set_option maxRecDepth 65536 in
theorem w_c33 : (Jvm.Cond.code ({ cls := "java/lang/Character", name := "isLowSurrogate", desc := "(C)Z" } : Jvm.MethodName) jdk_89_method_15_code (1 : Nat) (Option.some Jvm.ClassFile.FieldType.boolean)).before args0 about1 = true := code_word (m := ⟨12, 1⟩) (meth := k12m1) (c := k12c1) (by decide +kernel) rfl rfl rfl (by decide +kernel)
set_option maxRecDepth 65536 in
theorem w_c34 : (Jvm.Cond.code ({ cls := "java/lang/String", name := "offsetByCodePoints", desc := "(II)I" } : Jvm.MethodName) jdk_42_method_60_code (3 : Nat) (Option.some Jvm.ClassFile.FieldType.int)).before args0 about1 = true := code_word (m := ⟨7, 5⟩) (meth := k7m5) (c := k7c5) (by decide +kernel) rfl rfl rfl (by decide +kernel)
set_option maxRecDepth 65536 in
theorem w_c35 : (Jvm.Cond.code ({ cls := "java/lang/Character", name := "offsetByCodePoints", desc := "(Ljava/lang/CharSequence;II)I" } : Jvm.MethodName) jdk_89_method_36_code (6 : Nat) (Option.some Jvm.ClassFile.FieldType.int)).before args0 about1 = true := code_word (m := ⟨12, 2⟩) (meth := k12m2) (c := k12c2) (by decide +kernel) rfl rfl rfl (by decide +kernel)
set_option maxRecDepth 65536 in
theorem w_c36 : (Jvm.Cond.code ({ cls := "java/lang/String", name := "substring", desc := "(II)Ljava/lang/String;" } : Jvm.MethodName) jdk_42_method_92_code (5 : Nat) (Option.some (Jvm.ClassFile.FieldType.object "java/lang/String"))).before args0 about1 = true := code_word (m := ⟨7, 6⟩) (meth := k7m6) (c := k7c6) (by decide +kernel) rfl rfl rfl (by decide +kernel)
set_option maxRecDepth 65536 in
theorem w_c37 : (Jvm.Cond.code ({ cls := "java/lang/String", name := "checkBoundsBeginEnd", desc := "(III)V" } : Jvm.MethodName) jdk_42_method_158_code (3 : Nat) (Option.none : Option Jvm.ClassFile.FieldType)).before args0 about1 = true := code_word (m := ⟨7, 13⟩) (meth := k7m13) (c := k7c13) (by decide +kernel) rfl rfl rfl (by decide +kernel)
set_option maxRecDepth 65536 in
theorem w_c38 : (Jvm.Cond.code ({ cls := "java/lang/StringUTF16", name := "newString", desc := "([BII)Ljava/lang/String;" } : Jvm.MethodName) jdk_52_method_69_code (5 : Nat) (Option.some (Jvm.ClassFile.FieldType.object "java/lang/String"))).before args0 about1 = true := code_word (m := ⟨11, 14⟩) (meth := k11m14) (c := k11c14) (by decide +kernel) rfl rfl rfl (by decide +kernel)
set_option maxRecDepth 65536 in
theorem w_c39 : (Jvm.Cond.code ({ cls := "java/lang/StringLatin1", name := "charAt", desc := "([BI)C" } : Jvm.MethodName) jdk_43_method_2_code (2 : Nat) (Option.some Jvm.ClassFile.FieldType.char)).before args0 about1 = true := code_word (m := ⟨13, 1⟩) (meth := k13m1) (c := k13c1) (by decide +kernel) rfl rfl rfl (by decide +kernel)
set_option maxRecDepth 65536 in
theorem w_c40 : (Jvm.Cond.code ({ cls := "java/lang/StringUTF16", name := "compress", desc := "([BII)[B" } : Jvm.MethodName) jdk_52_method_17_code (6 : Nat) (Option.some (Jvm.ClassFile.FieldType.array Jvm.ClassFile.FieldType.byte))).before args0 about1 = true := code_word (m := ⟨11, 11⟩) (meth := k11m11) (c := k11c11) (by decide +kernel) rfl rfl rfl (by decide +kernel)
set_option maxRecDepth 65536 in
theorem w_c41 : (Jvm.Cond.code ({ cls := "java/lang/StringUTF16", name := "compress", desc := "([BI[BII)I" } : Jvm.MethodName) jdk_52_method_22_code (7 : Nat) (Option.some Jvm.ClassFile.FieldType.int)).before args0 about1 = true := code_word (m := ⟨11, 13⟩) (meth := k11m13) (c := k11c13) (by decide +kernel) rfl rfl rfl (by decide +kernel)
set_option maxRecDepth 65536 in
theorem w_c42 : (Jvm.Cond.code ({ cls := "java/lang/StringUTF16", name := "checkBoundsOffCount", desc := "(II[B)V" } : Jvm.MethodName) jdk_52_method_94_code (3 : Nat) (Option.none : Option Jvm.ClassFile.FieldType)).before args0 about1 = true := code_word (m := ⟨11, 17⟩) (meth := k11m17) (c := k11c17) (by decide +kernel) rfl rfl rfl (by decide +kernel)
set_option maxRecDepth 65536 in
theorem w_c43 : (Jvm.Cond.code ({ cls := "java/lang/String", name := "checkBoundsOffCount", desc := "(III)I" } : Jvm.MethodName) jdk_42_method_157_code (3 : Nat) (Option.some Jvm.ClassFile.FieldType.int)).before args0 about1 = true := code_word (m := ⟨7, 12⟩) (meth := k7m12) (c := k7c12) (by decide +kernel) rfl rfl rfl (by decide +kernel)
set_option maxRecDepth 65536 in
theorem w_c44 : (Jvm.Cond.code ({ cls := "jdk/internal/util/Preconditions", name := "checkFromIndexSize", desc := "(IIILjava/util/function/BiFunction;)I" } : Jvm.MethodName) jdk_41_method_13_code (4 : Nat) (Option.some Jvm.ClassFile.FieldType.int)).before args0 about1 = true := code_word (m := ⟨10, 3⟩) (meth := k10m3) (c := k10c3) (by decide +kernel) rfl rfl rfl (by decide +kernel)
set_option maxRecDepth 65536 in
theorem w_c45 : (Jvm.Cond.code ({ cls := "java/util/Arrays", name := "copyOfRange", desc := "([BII)[B" } : Jvm.MethodName) jdk_65_method_132_code (3 : Nat) (Option.some (Jvm.ClassFile.FieldType.array Jvm.ClassFile.FieldType.byte))).before args0 about1 = true := code_word (m := ⟨14, 2⟩) (meth := k14m2) (c := k14c2) (by decide +kernel) rfl rfl rfl (by decide +kernel)
set_option maxRecDepth 65536 in
theorem w_c46 : (Jvm.Cond.code ({ cls := "java/util/Arrays", name := "copyOfRangeByte", desc := "([BII)[B" } : Jvm.MethodName) jdk_65_method_133_code (5 : Nat) (Option.some (Jvm.ClassFile.FieldType.array Jvm.ClassFile.FieldType.byte))).before args0 about1 = true := code_word (m := ⟨14, 3⟩) (meth := k14m3) (c := k14c3) (by decide +kernel) rfl rfl rfl (by decide +kernel)
set_option maxRecDepth 65536 in
theorem w_c47 : (Jvm.Cond.code ({ cls := "java/util/Arrays", name := "checkLength", desc := "(II)V" } : Jvm.MethodName) jdk_65_method_131_code (2 : Nat) (Option.none : Option Jvm.ClassFile.FieldType)).before args0 about1 = true := code_word (m := ⟨14, 1⟩) (meth := k14m1) (c := k14c1) (by decide +kernel) rfl rfl rfl (by decide +kernel)
set_option maxRecDepth 65536 in
theorem w_c48 : (Jvm.Cond.code ({ cls := "java/lang/Math", name := "min", desc := "(II)I" } : Jvm.MethodName) jdk_29_method_69_code (2 : Nat) (Option.some Jvm.ClassFile.FieldType.int)).before args0 about1 = true := code_word (m := ⟨15, 1⟩) (meth := k15m1) (c := k15c1) (by decide +kernel) rfl rfl rfl (by decide +kernel)
set_option maxRecDepth 65536 in
theorem w_c49 : (Jvm.Cond.code ({ cls := "java/lang/String", name := "<init>", desc := "([BB)V" } : Jvm.MethodName) jdk_42_method_151_code (3 : Nat) (Option.none : Option Jvm.ClassFile.FieldType)).before args0 about1 = true := code_word (m := ⟨7, 8⟩) (meth := k7m8) (c := k7c8) (by decide +kernel) rfl rfl rfl (by decide +kernel)
set_option maxRecDepth 65536 in
theorem w_c50 : (Jvm.Cond.code ({ cls := "java/lang/StringLatin1", name := "newString", desc := "([BII)Ljava/lang/String;" } : Jvm.MethodName) jdk_43_method_47_code (3 : Nat) (Option.some (Jvm.ClassFile.FieldType.object "java/lang/String"))).before args0 about1 = true := code_word (m := ⟨13, 2⟩) (meth := k13m2) (c := k13c2) (by decide +kernel) rfl rfl rfl (by decide +kernel)
def codes1 : List Jvm.Cond := [Jvm.Cond.code x code maxLocals ret, Jvm.Cond.code ({ cls := "com/example/idpd/idpd/TextsPrefixPinLaw", name := "draw", desc := "(I)C" } : Jvm.MethodName) method_2_code (3 : Nat) (Option.some Jvm.ClassFile.FieldType.char), Jvm.Cond.code ({ cls := "com/example/idpd/idpd/TextsPrefixPinLaw", name := "make", desc := "(I[C)Ljava/lang/String;" } : Jvm.MethodName) method_6_code (3 : Nat) (Option.some (Jvm.ClassFile.FieldType.object "java/lang/String")), Jvm.Cond.code ({ cls := "java/lang/String", name := "<init>", desc := "([C)V" } : Jvm.MethodName) jdk_42_method_3_code (2 : Nat) (Option.none : Option Jvm.ClassFile.FieldType), Jvm.Cond.code ({ cls := "java/lang/String", name := "<init>", desc := "([CIILjava/lang/Void;)V" } : Jvm.MethodName) jdk_42_method_149_code (6 : Nat) (Option.none : Option Jvm.ClassFile.FieldType), Jvm.Cond.code ({ cls := "java/lang/Object", name := "<init>", desc := "()V" } : Jvm.MethodName) object_method_1_code (1 : Nat) (Option.none : Option Jvm.ClassFile.FieldType), Jvm.Cond.code ({ cls := "com/example/idpd/idpd/Texts", name := "prefix", desc := "(Ljava/lang/String;I)Ljava/lang/String;" } : Jvm.MethodName) prog_25_method_2_code (3 : Nat) (Option.some (Jvm.ClassFile.FieldType.object "java/lang/String")), Jvm.Cond.code ({ cls := "java/lang/String", name := "length", desc := "()I" } : Jvm.MethodName) jdk_42_method_54_code (1 : Nat) (Option.some Jvm.ClassFile.FieldType.int), Jvm.Cond.code ({ cls := "java/lang/String", name := "coder", desc := "()B" } : Jvm.MethodName) jdk_42_method_152_code (1 : Nat) (Option.some Jvm.ClassFile.FieldType.byte), Jvm.Cond.code ({ cls := "java/lang/String", name := "codePointCount", desc := "(II)I" } : Jvm.MethodName) jdk_42_method_59_code (3 : Nat) (Option.some Jvm.ClassFile.FieldType.int), Jvm.Cond.code ({ cls := "java/util/Objects", name := "checkFromToIndex", desc := "(III)I" } : Jvm.MethodName) jdk_31_method_18_code (3 : Nat) (Option.some Jvm.ClassFile.FieldType.int), Jvm.Cond.code ({ cls := "jdk/internal/util/Preconditions", name := "checkFromToIndex", desc := "(IIILjava/util/function/BiFunction;)I" } : Jvm.MethodName) jdk_41_method_12_code (4 : Nat) (Option.some Jvm.ClassFile.FieldType.int), Jvm.Cond.code ({ cls := "java/lang/String", name := "isLatin1", desc := "()Z" } : Jvm.MethodName) jdk_42_method_154_code (1 : Nat) (Option.some Jvm.ClassFile.FieldType.boolean), Jvm.Cond.code ({ cls := "java/lang/StringUTF16", name := "compress", desc := "([CII)[B" } : Jvm.MethodName) jdk_52_method_16_code (6 : Nat) (Option.some (Jvm.ClassFile.FieldType.array Jvm.ClassFile.FieldType.byte)), Jvm.Cond.code ({ cls := "java/lang/StringUTF16", name := "compress", desc := "([CI[BII)I" } : Jvm.MethodName) jdk_52_method_21_code (7 : Nat) (Option.some Jvm.ClassFile.FieldType.int), Jvm.Cond.code ({ cls := "java/lang/StringUTF16", name := "toBytes", desc := "([CII)[B" } : Jvm.MethodName) jdk_52_method_14_code (5 : Nat) (Option.some (Jvm.ClassFile.FieldType.array Jvm.ClassFile.FieldType.byte)), Jvm.Cond.code ({ cls := "java/lang/StringUTF16", name := "newBytesFor", desc := "(I)[B" } : Jvm.MethodName) jdk_52_method_2_code (1 : Nat) (Option.some (Jvm.ClassFile.FieldType.array Jvm.ClassFile.FieldType.byte)), Jvm.Cond.code ({ cls := "java/lang/StringUTF16", name := "newBytesLength", desc := "(I)I" } : Jvm.MethodName) jdk_52_method_3_code (1 : Nat) (Option.some Jvm.ClassFile.FieldType.int), Jvm.Cond.code ({ cls := "java/lang/StringUTF16", name := "putChar", desc := "([BII)V" } : Jvm.MethodName) jdk_52_method_4_code (3 : Nat) (Option.none : Option Jvm.ClassFile.FieldType), Jvm.Cond.code ({ cls := "java/lang/StringUTF16", name := "getChar", desc := "([BI)C" } : Jvm.MethodName) jdk_52_method_5_code (2 : Nat) (Option.some Jvm.ClassFile.FieldType.char), Jvm.Cond.code ({ cls := "java/lang/StringUTF16", name := "coderFromArrayLen", desc := "([BI)B" } : Jvm.MethodName) jdk_52_method_15_code (2 : Nat) (Option.some Jvm.ClassFile.FieldType.byte), Jvm.Cond.code ({ cls := "com/example/idpd/idpd/TextsPrefixPinLaw", name := "step", desc := "([CII)I" } : Jvm.MethodName) method_5_code (3 : Nat) (Option.some Jvm.ClassFile.FieldType.int), Jvm.Cond.code ({ cls := "com/example/idpd/idpd/TextsPrefixPinLaw", name := "isHigh", desc := "(C)Z" } : Jvm.MethodName) method_3_code (1 : Nat) (Option.some Jvm.ClassFile.FieldType.boolean), Jvm.Cond.code ({ cls := "java/lang/StringUTF16", name := "codePointCount", desc := "([BII)I" } : Jvm.MethodName) jdk_52_method_12_code (3 : Nat) (Option.some Jvm.ClassFile.FieldType.int), Jvm.Cond.code ({ cls := "java/lang/StringUTF16", name := "codePointCount", desc := "([BIIZ)I" } : Jvm.MethodName) jdk_52_method_11_code (6 : Nat) (Option.some Jvm.ClassFile.FieldType.int), Jvm.Cond.code ({ cls := "java/lang/Character", name := "isHighSurrogate", desc := "(C)Z" } : Jvm.MethodName) jdk_89_method_14_code (1 : Nat) (Option.some Jvm.ClassFile.FieldType.boolean), Jvm.Cond.code ({ cls := "java/lang/String", name := "charAt", desc := "(I)C" } : Jvm.MethodName) jdk_42_method_56_code (2 : Nat) (Option.some Jvm.ClassFile.FieldType.char), Jvm.Cond.code ({ cls := "java/lang/StringUTF16", name := "charAt", desc := "([BI)C" } : Jvm.MethodName) jdk_52_method_83_code (2 : Nat) (Option.some Jvm.ClassFile.FieldType.char), Jvm.Cond.code ({ cls := "java/lang/StringUTF16", name := "checkIndex", desc := "(I[B)V" } : Jvm.MethodName) jdk_52_method_91_code (2 : Nat) (Option.none : Option Jvm.ClassFile.FieldType), Jvm.Cond.code ({ cls := "java/lang/StringUTF16", name := "length", desc := "([B)I" } : Jvm.MethodName) jdk_52_method_6_code (1 : Nat) (Option.some Jvm.ClassFile.FieldType.int), Jvm.Cond.code ({ cls := "java/lang/String", name := "checkIndex", desc := "(II)V" } : Jvm.MethodName) jdk_42_method_155_code (2 : Nat) (Option.none : Option Jvm.ClassFile.FieldType), Jvm.Cond.code ({ cls := "jdk/internal/util/Preconditions", name := "checkIndex", desc := "(IILjava/util/function/BiFunction;)I" } : Jvm.MethodName) jdk_41_method_11_code (3 : Nat) (Option.some Jvm.ClassFile.FieldType.int), Jvm.Cond.code ({ cls := "com/example/idpd/idpd/TextsPrefixPinLaw", name := "isLow", desc := "(C)Z" } : Jvm.MethodName) method_4_code (1 : Nat) (Option.some Jvm.ClassFile.FieldType.boolean), Jvm.Cond.code ({ cls := "java/lang/Character", name := "isLowSurrogate", desc := "(C)Z" } : Jvm.MethodName) jdk_89_method_15_code (1 : Nat) (Option.some Jvm.ClassFile.FieldType.boolean), Jvm.Cond.code ({ cls := "java/lang/String", name := "offsetByCodePoints", desc := "(II)I" } : Jvm.MethodName) jdk_42_method_60_code (3 : Nat) (Option.some Jvm.ClassFile.FieldType.int), Jvm.Cond.code ({ cls := "java/lang/Character", name := "offsetByCodePoints", desc := "(Ljava/lang/CharSequence;II)I" } : Jvm.MethodName) jdk_89_method_36_code (6 : Nat) (Option.some Jvm.ClassFile.FieldType.int), Jvm.Cond.code ({ cls := "java/lang/String", name := "substring", desc := "(II)Ljava/lang/String;" } : Jvm.MethodName) jdk_42_method_92_code (5 : Nat) (Option.some (Jvm.ClassFile.FieldType.object "java/lang/String")), Jvm.Cond.code ({ cls := "java/lang/String", name := "checkBoundsBeginEnd", desc := "(III)V" } : Jvm.MethodName) jdk_42_method_158_code (3 : Nat) (Option.none : Option Jvm.ClassFile.FieldType), Jvm.Cond.code ({ cls := "java/lang/StringUTF16", name := "newString", desc := "([BII)Ljava/lang/String;" } : Jvm.MethodName) jdk_52_method_69_code (5 : Nat) (Option.some (Jvm.ClassFile.FieldType.object "java/lang/String")), Jvm.Cond.code ({ cls := "java/lang/StringLatin1", name := "charAt", desc := "([BI)C" } : Jvm.MethodName) jdk_43_method_2_code (2 : Nat) (Option.some Jvm.ClassFile.FieldType.char), Jvm.Cond.code ({ cls := "java/lang/StringUTF16", name := "compress", desc := "([BII)[B" } : Jvm.MethodName) jdk_52_method_17_code (6 : Nat) (Option.some (Jvm.ClassFile.FieldType.array Jvm.ClassFile.FieldType.byte)), Jvm.Cond.code ({ cls := "java/lang/StringUTF16", name := "compress", desc := "([BI[BII)I" } : Jvm.MethodName) jdk_52_method_22_code (7 : Nat) (Option.some Jvm.ClassFile.FieldType.int), Jvm.Cond.code ({ cls := "java/lang/StringUTF16", name := "checkBoundsOffCount", desc := "(II[B)V" } : Jvm.MethodName) jdk_52_method_94_code (3 : Nat) (Option.none : Option Jvm.ClassFile.FieldType), Jvm.Cond.code ({ cls := "java/lang/String", name := "checkBoundsOffCount", desc := "(III)I" } : Jvm.MethodName) jdk_42_method_157_code (3 : Nat) (Option.some Jvm.ClassFile.FieldType.int), Jvm.Cond.code ({ cls := "jdk/internal/util/Preconditions", name := "checkFromIndexSize", desc := "(IIILjava/util/function/BiFunction;)I" } : Jvm.MethodName) jdk_41_method_13_code (4 : Nat) (Option.some Jvm.ClassFile.FieldType.int), Jvm.Cond.code ({ cls := "java/util/Arrays", name := "copyOfRange", desc := "([BII)[B" } : Jvm.MethodName) jdk_65_method_132_code (3 : Nat) (Option.some (Jvm.ClassFile.FieldType.array Jvm.ClassFile.FieldType.byte)), Jvm.Cond.code ({ cls := "java/util/Arrays", name := "copyOfRangeByte", desc := "([BII)[B" } : Jvm.MethodName) jdk_65_method_133_code (5 : Nat) (Option.some (Jvm.ClassFile.FieldType.array Jvm.ClassFile.FieldType.byte)), Jvm.Cond.code ({ cls := "java/util/Arrays", name := "checkLength", desc := "(II)V" } : Jvm.MethodName) jdk_65_method_131_code (2 : Nat) (Option.none : Option Jvm.ClassFile.FieldType), Jvm.Cond.code ({ cls := "java/lang/Math", name := "min", desc := "(II)I" } : Jvm.MethodName) jdk_29_method_69_code (2 : Nat) (Option.some Jvm.ClassFile.FieldType.int), Jvm.Cond.code ({ cls := "java/lang/String", name := "<init>", desc := "([BB)V" } : Jvm.MethodName) jdk_42_method_151_code (3 : Nat) (Option.none : Option Jvm.ClassFile.FieldType), Jvm.Cond.code ({ cls := "java/lang/StringLatin1", name := "newString", desc := "([BII)Ljava/lang/String;" } : Jvm.MethodName) jdk_43_method_47_code (3 : Nat) (Option.some (Jvm.ClassFile.FieldType.object "java/lang/String"))]
set_option maxRecDepth 65536 in
theorem codes_eq : words1.filter isCode = codes1 := rfl
theorem w_codes : ∀ c ∈ words1.filter isCode, c.before args0 about1 = true := by
  rw [codes_eq]
  intro c hc
  simp only [codes1, List.mem_cons, List.not_mem_nil, or_false] at hc
  rcases hc with rfl | rfl | rfl | rfl | rfl | rfl | rfl | rfl | rfl | rfl | rfl | rfl | rfl | rfl | rfl | rfl | rfl | rfl | rfl | rfl | rfl | rfl | rfl | rfl | rfl | rfl | rfl | rfl | rfl | rfl | rfl | rfl | rfl | rfl | rfl | rfl | rfl | rfl | rfl | rfl | rfl | rfl | rfl | rfl | rfl | rfl | rfl | rfl | rfl | rfl | rfl
  · exact w_c0
  · exact w_c1
  · exact w_c2
  · exact w_c3
  · exact w_c4
  · exact w_c5
  · exact w_c6
  · exact w_c7
  · exact w_c8
  · exact w_c9
  · exact w_c10
  · exact w_c11
  · exact w_c12
  · exact w_c13
  · exact w_c14
  · exact w_c15
  · exact w_c16
  · exact w_c17
  · exact w_c18
  · exact w_c19
  · exact w_c20
  · exact w_c21
  · exact w_c22
  · exact w_c23
  · exact w_c24
  · exact w_c25
  · exact w_c26
  · exact w_c27
  · exact w_c28
  · exact w_c29
  · exact w_c30
  · exact w_c31
  · exact w_c32
  · exact w_c33
  · exact w_c34
  · exact w_c35
  · exact w_c36
  · exact w_c37
  · exact w_c38
  · exact w_c39
  · exact w_c40
  · exact w_c41
  · exact w_c42
  · exact w_c43
  · exact w_c44
  · exact w_c45
  · exact w_c46
  · exact w_c47
  · exact w_c48
  · exact w_c49
  · exact w_c50
set_option maxRecDepth 65536 in
theorem w_t1 : (words1.take 24).all (fun c => isCode c || c.before args0 about1) = true := by decide +kernel
set_option maxRecDepth 65536 in
theorem w_t2 : ((words1.drop 24).take 24).all (fun c => isCode c || c.before args0 about1) = true := by decide +kernel
set_option maxRecDepth 65536 in
theorem w_t3 : (((words1.drop 24).drop 24).take 24).all (fun c => isCode c || c.before args0 about1) = true := by decide +kernel
set_option maxRecDepth 65536 in
theorem w_t4 : ((((words1.drop 24).drop 24).drop 24).take 24).all (fun c => isCode c || c.before args0 about1) = true := by decide +kernel
set_option maxRecDepth 65536 in
theorem w_t5 : (((((words1.drop 24).drop 24).drop 24).drop 24).take 24).all (fun c => isCode c || c.before args0 about1) = true := by decide +kernel
set_option maxRecDepth 65536 in
theorem w_t6 : ((((((words1.drop 24).drop 24).drop 24).drop 24).drop 24).take 24).all (fun c => isCode c || c.before args0 about1) = true := by decide +kernel
set_option maxRecDepth 65536 in
theorem w_t7 : (((((((words1.drop 24).drop 24).drop 24).drop 24).drop 24).drop 24).take 24).all (fun c => isCode c || c.before args0 about1) = true := by decide +kernel
set_option maxRecDepth 65536 in
theorem w_t8 : ((((((((words1.drop 24).drop 24).drop 24).drop 24).drop 24).drop 24).drop 24).take 24).all (fun c => isCode c || c.before args0 about1) = true := by decide +kernel
set_option maxRecDepth 65536 in
theorem w_t9 : (((((((((words1.drop 24).drop 24).drop 24).drop 24).drop 24).drop 24).drop 24).drop 24).take 24).all (fun c => isCode c || c.before args0 about1) = true := by decide +kernel
set_option maxRecDepth 65536 in
theorem w_t10 : (((((((((words1.drop 24).drop 24).drop 24).drop 24).drop 24).drop 24).drop 24).drop 24).drop 24).all (fun c => isCode c || c.before args0 about1) = true := by decide +kernel
theorem w_tables : (allAtoms (Jvm.Cond.code x code maxLocals ret :: tables_1)).before args0 about1 = true := by
  rw [allAtoms_all]
  show words1.all (fun c => c.before args0 about1) = true
  refine all_split ?_ w_codes
  rw [← List.take_append_drop 24 words1, List.all_append, w_t1, ← List.take_append_drop 24 (words1.drop 24), List.all_append, w_t2, ← List.take_append_drop 24 ((words1.drop 24).drop 24), List.all_append, w_t3, ← List.take_append_drop 24 (((words1.drop 24).drop 24).drop 24), List.all_append, w_t4, ← List.take_append_drop 24 ((((words1.drop 24).drop 24).drop 24).drop 24), List.all_append, w_t5, ← List.take_append_drop 24 (((((words1.drop 24).drop 24).drop 24).drop 24).drop 24), List.all_append, w_t6, ← List.take_append_drop 24 ((((((words1.drop 24).drop 24).drop 24).drop 24).drop 24).drop 24), List.all_append, w_t7, ← List.take_append_drop 24 (((((((words1.drop 24).drop 24).drop 24).drop 24).drop 24).drop 24).drop 24), List.all_append, w_t8, ← List.take_append_drop 24 ((((((((words1.drop 24).drop 24).drop 24).drop 24).drop 24).drop 24).drop 24).drop 24), List.all_append, w_t9, w_t10]
  rfl
set_option maxRecDepth 65536 in
theorem w_rest : rest_1_c.before args0 about1 = true := by decide +kernel
set_option maxRecDepth 65536 in
theorem w_case : (Jvm.Cond.and given_1 narrow_1).before args0 about1 = true := by decide +kernel
set_option maxRecDepth 65536 in
theorem w_consts : constsHeld consts_1 about1 := Jvm.Lit.constsHeldB_iff.mp (by decide +kernel)
theorem w_applies : (headSpec (Jvm.Cond.code x code maxLocals ret :: tables_1) room_1).applies x e0.platform about1 = true :=
  (Spec.applies_iff w_frames).mpr ⟨w_running, w_runnable, w_alone, w_named, w_hears, w_ripe, w_room, w_tables⟩
theorem atStart : AtStart classFile x code maxLocals ret World_1 tables_1 room_1 Calls_1 rest_1 Pre_1 launch0 p0 e0 about1 theMethod args0 below0 :=
  ⟨lists_1, trivial, launch0.admits_env _ _ _, launch0.least_env, fairChoices_fair.cas, fairChoices_fair.clock, w_frames, w_args, w_heap, w_applies, ⟨w_consts, trivial⟩, w_rest, w_case⟩
end start1
theorem witness_1 : WitnessClaimed_1 := ⟨start1.p0, start1.e0, start1.about1, start1.theMethod, start1.args0, start1.below0, start1.atStart⟩
end Jvm.Pilot.@@N@@
