import JvmDerived
import JvmDerived.Pilot.@@N@@Statement
import JvmDerived.Pilot.@@N@@Code
set_option linter.unusedVariables false
set_option linter.unusedSimpArgs false
namespace Jvm.Pilot.@@N@@
open Jvm Jvm.ClassFile Sem Op Lib Jvm.Free Jvm.Stand Jvm.LawKit Jvm.RoadKit Bundle Jvm.Pilot.@@N@@.Jvm.D
section Own
variable {p : Program} {l : Launch} {e : Env} {R : Room} {s : State} {m : MethodId} {args : Array Value} {below : List Frame} {meth : Method} {c : Code} {T : State} {locs : List Loc} {cells slots : Nat}
/-- from S the run comes to an end that E tells -/
def OwnG (p : Program) (e : Env) (below : List Frame) (E : Outcome → State → Prop) (S : State) : Prop :=
  ∃ s₂ o, Steps p.tables e below S s₂ ∧ s₂.status = .running ∧ Ended s₂ below o ∧ E o s₂
/-- it returned, Q holds of the value and the heap, and the frame is k new cells of n slots -/
def OwnE (s : State) (Q : Option Value → Heap → List Loc → Prop) (k n : Nat) (o : Outcome) (U : State) : Prop :=
  ∃ v L, o = .returned v ∧ Q v U.heap L ∧ FrameEnd s o U L k n
theorem own_by {E : Outcome → State → Prop} {S S' : State} (h : ∀ t, Steps p.tables e below S' t → Steps p.tables e below S t) (g : OwnG p e below E S') : OwnG p e below E S := by
  obtain ⟨s2, o, h1, r⟩ := g
  exact ⟨s2, o, h _ h1, r⟩
theorem own_ret (X : Stand p l e R s m args below meth c T locs cells slots) (hx : p.tables.exec = Jvm.exec) {pc : Nat} {Ls : Array Slot} {w : Value} {t : FieldType} {i : Instr} {rest : List Value} (hret : meth.sig.returnType = some t) (hn : narrow t w = w)
    (hi : (i = .ireturn ∧ (t = .int ∨ t = .boolean ∨ t = .byte ∨ t = .char ∨ t = .short) ∧ ∃ z, w = .int z) ∨ (i = .lreturn ∧ t = .long ∧ ∃ z, w = .long z) ∨ (i = .dreturn ∧ t = .double ∧ ∃ z, w = .double z) ∨ (i = .freturn ∧ t = .float ∧ ∃ z, w = .float z) ∨ (i = .areturn ∧ t.isReference = true ∧ w.isRef = true))
    (hd : decode c.code pc = .ok (i, 1)) (hlk : meth.locks = false) {Q : Option Value → Heap → List Loc → Prop} {k n : Nat} (hk : cells ≤ k) (hs : slots ≤ n) (hQ : Q (some w) T.heap locs) : OwnG p e below (OwnE s Q k n) (T.setTop (mkF m pc Ls (w :: rest))) := by
  obtain ⟨fs, hr, hrun, hended, hW, hsame⟩ := X.leave (v := some w) (fun h => by rw [hret] at h; cases h) hlk
  exact ⟨_, _, retOut X hx hret hn hi hd hr, hrun, hended, _, _, rfl, hQ, ⟨_, rfl⟩, hW, hsame.mono hk hs⟩
theorem own_retI (X : Stand p l e R s m args below meth c T locs cells slots) (hx : p.tables.exec = Jvm.exec) {pc : Nat} {Ls : Array Slot} {z : Int32} {t : FieldType} {rest : List Value} (hret : meth.sig.returnType = some t) (ht : t = .int ∨ t = .boolean ∨ t = .byte ∨ t = .char ∨ t = .short) (hn : narrow t (.int z) = .int z)
    (hd : decode c.code pc = .ok (.ireturn, 1)) (hlk : meth.locks = false) {Q : Option Value → Heap → List Loc → Prop} {k n : Nat} (hk : cells ≤ k) (hs : slots ≤ n) (hQ : Q (some (.int z)) T.heap locs) : OwnG p e below (OwnE s Q k n) (T.setTop (mkF m pc Ls (.int z :: rest))) :=
  own_ret X hx hret hn (Or.inl ⟨rfl, ht, _, rfl⟩) hd hlk hk hs hQ
theorem own_retL (X : Stand p l e R s m args below meth c T locs cells slots) (hx : p.tables.exec = Jvm.exec) {pc : Nat} {Ls : Array Slot} {z : Int64} {rest : List Value} (hret : meth.sig.returnType = some .long)
    (hd : decode c.code pc = .ok (.lreturn, 1)) (hlk : meth.locks = false) {Q : Option Value → Heap → List Loc → Prop} {k n : Nat} (hk : cells ≤ k) (hs : slots ≤ n) (hQ : Q (some (.long z)) T.heap locs) : OwnG p e below (OwnE s Q k n) (T.setTop (mkF m pc Ls (.long z :: rest))) :=
  own_ret X hx hret rfl (Or.inr (Or.inl ⟨rfl, rfl, _, rfl⟩)) hd hlk hk hs hQ
theorem own_retD (X : Stand p l e R s m args below meth c T locs cells slots) (hx : p.tables.exec = Jvm.exec) {pc : Nat} {Ls : Array Slot} {z : UInt64} {rest : List Value} (hret : meth.sig.returnType = some .double)
    (hd : decode c.code pc = .ok (.dreturn, 1)) (hlk : meth.locks = false) {Q : Option Value → Heap → List Loc → Prop} {k n : Nat} (hk : cells ≤ k) (hs : slots ≤ n) (hQ : Q (some (.double z)) T.heap locs) : OwnG p e below (OwnE s Q k n) (T.setTop (mkF m pc Ls (.double z :: rest))) :=
  own_ret X hx hret rfl (Or.inr (Or.inr (Or.inl ⟨rfl, rfl, _, rfl⟩))) hd hlk hk hs hQ
theorem own_narR {t : FieldType} (ht : t.isReference = true) {w : Value} (hw : w.isRef = true) : narrow t w = w := by
  cases t <;> cases w <;> first | rfl | (simp [FieldType.isReference] at ht; done) | (simp [Value.isRef] at hw; done)
theorem own_retA (X : Stand p l e R s m args below meth c T locs cells slots) (hx : p.tables.exec = Jvm.exec) {pc : Nat} {Ls : Array Slot} {w : Value} {t : FieldType} {rest : List Value} (hret : meth.sig.returnType = some t) (ht : t.isReference = true) (hw : w.isRef = true)
    (hd : decode c.code pc = .ok (.areturn, 1)) (hlk : meth.locks = false) {Q : Option Value → Heap → List Loc → Prop} {k n : Nat} (hk : cells ≤ k) (hs : slots ≤ n) (hQ : Q (some w) T.heap locs) : OwnG p e below (OwnE s Q k n) (T.setTop (mkF m pc Ls (w :: rest))) :=
  own_ret X hx hret (own_narR ht hw) (Or.inr (Or.inr (Or.inr (Or.inr ⟨rfl, ht, hw⟩)))) hd hlk hk hs hQ
theorem own_ret0 (X : Stand p l e R s m args below meth c T locs cells slots) (hx : p.tables.exec = Jvm.exec) {pc : Nat} {Ls : Array Slot} (hret : meth.sig.returnType = none)
    (hd : decode c.code pc = .ok (.return_, 1)) (hlk : meth.locks = false) {Q : Option Value → Heap → List Loc → Prop} {k n : Nat} (hk : cells ≤ k) (hs : slots ≤ n) (hQ : Q none T.heap locs) : OwnG p e below (OwnE s Q k n) (T.setTop (mkF m pc Ls [])) := by
  obtain ⟨fs, hr, hrun, hended, hW, hsame⟩ := X.leave (v := none) (fun _ => rfl) hlk
  exact ⟨_, _, X.returnOut hx hret hd hr, hrun, hended, _, _, rfl, hQ, ⟨_, rfl⟩, hW, hsame.mono hk hs⟩
/-- the same, where the walk may have interned -/
def OwnEW (s : State) (Q : Option Value → Heap → List Loc → Prop) (k n : Nat) (o : Outcome) (U : State) : Prop :=
  ∃ v L, o = .returned v ∧ Q v U.heap L ∧ ReturnedEndW s o U L k n
theorem own_endW {s U : State} {o : Outcome} {L : List Loc} {k n k' n' : Nat} (h : ReturnedEndW s o U L k n) (hk : k ≤ k') (hn : n ≤ n') : ReturnedEndW s o U L k' n' := ⟨h.1, h.2.1, h.2.2.1, h.2.2.2.mono hk hn⟩
theorem own_retW {vm₁ : Vm} (X : Stand p l e R (s.setVm vm₁) m args below meth c T locs cells slots) {n1 : Nat} (hS : s.Since vm₁ n1) (hn1 : n1 ≤ T.heap.size) (hx : p.tables.exec = Jvm.exec) {pc : Nat} {Ls : Array Slot} {w : Value} {t : FieldType} {i : Instr} {rest : List Value} (hret : meth.sig.returnType = some t) (hn : narrow t w = w)
    (hi : (i = .ireturn ∧ (t = .int ∨ t = .boolean ∨ t = .byte ∨ t = .char ∨ t = .short) ∧ ∃ z, w = .int z) ∨ (i = .lreturn ∧ t = .long ∧ ∃ z, w = .long z) ∨ (i = .dreturn ∧ t = .double ∧ ∃ z, w = .double z) ∨ (i = .freturn ∧ t = .float ∧ ∃ z, w = .float z) ∨ (i = .areturn ∧ t.isReference = true ∧ w.isRef = true))
    (hd : decode c.code pc = .ok (i, 1)) (hlk : meth.locks = false) {Q : Option Value → Heap → List Loc → Prop} {k n : Nat} (hk : cells ≤ k) (hs : slots ≤ n) (hQ : Q (some w) T.heap locs) : OwnG p e below (OwnEW s Q k n) (T.setTop (mkF m pc Ls (w :: rest))) := by
  obtain ⟨fs, hr, hrun, hended, hE⟩ := X.leaveW hS hn1 (v := some w) (fun h => by rw [hret] at h; cases h) hlk
  exact ⟨_, _, retOut X hx hret hn hi hd hr, hrun, hended, _, _, rfl, hQ, own_endW hE hk hs⟩
theorem own_retWI {vm₁ : Vm} (X : Stand p l e R (s.setVm vm₁) m args below meth c T locs cells slots) {n1 : Nat} (hS : s.Since vm₁ n1) (hn1 : n1 ≤ T.heap.size) (hx : p.tables.exec = Jvm.exec) {pc : Nat} {Ls : Array Slot} {z : Int32} {t : FieldType} {rest : List Value} (hret : meth.sig.returnType = some t) (ht : t = .int ∨ t = .boolean ∨ t = .byte ∨ t = .char ∨ t = .short) (hn : narrow t (.int z) = .int z)
    (hd : decode c.code pc = .ok (.ireturn, 1)) (hlk : meth.locks = false) {Q : Option Value → Heap → List Loc → Prop} {k n : Nat} (hk : cells ≤ k) (hs : slots ≤ n) (hQ : Q (some (.int z)) T.heap locs) : OwnG p e below (OwnEW s Q k n) (T.setTop (mkF m pc Ls (.int z :: rest))) :=
  own_retW X hS hn1 hx hret hn (Or.inl ⟨rfl, ht, _, rfl⟩) hd hlk hk hs hQ
theorem own_retWA {vm₁ : Vm} (X : Stand p l e R (s.setVm vm₁) m args below meth c T locs cells slots) {n1 : Nat} (hS : s.Since vm₁ n1) (hn1 : n1 ≤ T.heap.size) (hx : p.tables.exec = Jvm.exec) {pc : Nat} {Ls : Array Slot} {w : Value} {t : FieldType} {rest : List Value} (hret : meth.sig.returnType = some t) (ht : t.isReference = true) (hw : w.isRef = true)
    (hd : decode c.code pc = .ok (.areturn, 1)) (hlk : meth.locks = false) {Q : Option Value → Heap → List Loc → Prop} {k n : Nat} (hk : cells ≤ k) (hs : slots ≤ n) (hQ : Q (some w) T.heap locs) : OwnG p e below (OwnEW s Q k n) (T.setTop (mkF m pc Ls (w :: rest))) :=
  own_retW X hS hn1 hx hret (own_narR ht hw) (Or.inr (Or.inr (Or.inr (Or.inr ⟨rfl, ht, hw⟩)))) hd hlk hk hs hQ
theorem own_retW0 {vm₁ : Vm} (X : Stand p l e R (s.setVm vm₁) m args below meth c T locs cells slots) {n1 : Nat} (hS : s.Since vm₁ n1) (hn1 : n1 ≤ T.heap.size) (hx : p.tables.exec = Jvm.exec) {pc : Nat} {Ls : Array Slot} (hret : meth.sig.returnType = none)
    (hd : decode c.code pc = .ok (.return_, 1)) (hlk : meth.locks = false) {Q : Option Value → Heap → List Loc → Prop} {k n : Nat} (hk : cells ≤ k) (hs : slots ≤ n) (hQ : Q none T.heap locs) : OwnG p e below (OwnEW s Q k n) (T.setTop (mkF m pc Ls [])) := by
  obtain ⟨fs, hr, hrun, hended, hE⟩ := X.leaveW hS hn1 (v := none) (fun _ => rfl) hlk
  exact ⟨_, _, X.returnOut hx hret hd hr, hrun, hended, _, _, rfl, hQ, own_endW hE hk hs⟩
theorem own_ext0 {h h' : Heap} (K : Keep h h' []) : Ext h h' := ⟨K.1, fun a c q => K.2.1 a c q (by simp)⟩
theorem own_staK {Z : State} {h h' : Heap} {C n d : String} {v : Value} {ws : List Addr} (S : Sta Z h C n d v) (K : Keep h h' ws) (q : ∀ x ∈ ws, ∃ c : Cell, h[x]? = some c ∧ c.vm.isStatics = false) : Sta Z h' C n d v := by
  obtain ⟨cf, i, k, f, st, cell, h1, h2, h3, h4, h5, h6, h7⟩ := S
  refine ⟨cf, i, k, f, st, cell, h1, h2, h3, h4, K.2.1 st cell h5 (fun hm => ?_), h6, h7⟩
  obtain ⟨c, c1, c2⟩ := q st hm
  rw [h5] at c1
  cases c1
  rw [h6] at c2
  cases c2
theorem own_plain {Z : State} {h : Heap} {a : Addr} {C : String} (E : Exa Z h a C) : ∃ c : Cell, h[a]? = some c ∧ c.vm.isStatics = false := by
  obtain ⟨c, k, h1, h2, h3, h4, h5⟩ := E
  exact ⟨c, h1, h4⟩
theorem own_arrK {Z : State} {h h' : Heap} {a : Addr} {c : Cell} {ty : FieldType} {ws : List Addr} (A : Arr Z h a c ty) (K : Keep h h' ws) (q : a ∉ ws) : Arr Z h' a c ty := ⟨K.2.1 a c A.1 q, A.2⟩
/-- the array at a, of the class k, holds just vs -/
def OwnA (Z : State) (h : Heap) (a : Addr) (k : ClassId) (ty : FieldType) (vs : List Value) : Prop := ∃ c : Cell, Arr Z h a c ty ∧ c.cls = k ∧ c.slots.toList = vs
theorem OwnA.lt {Z : State} {h : Heap} {a : Addr} {k : ClassId} {ty : FieldType} {vs : List Value} (F : OwnA Z h a k ty vs) : a < h.size := by obtain ⟨c, A, -⟩ := F; exact A.lt
theorem OwnA.ext {Z : State} {h h' : Heap} {a : Addr} {k : ClassId} {ty : FieldType} {vs : List Value} (F : OwnA Z h a k ty vs) (E : Ext h h') : OwnA Z h' a k ty vs := by obtain ⟨c, A, r⟩ := F; exact ⟨c, A.ext E, r⟩
theorem OwnA.other {Z : State} {h h' : Heap} {a b : Addr} {k : ClassId} {ty : FieldType} {vs : List Value} {sl : Nat} {v : Value} (F : OwnA Z h a k ty vs) (W : Wr h h' b sl v) (q : a ≠ b) : OwnA Z h' a k ty vs := by obtain ⟨c, A, r⟩ := F; exact ⟨c, A.other W q, r⟩
theorem OwnA.keep {Z : State} {h h' : Heap} {a : Addr} {k : ClassId} {ty : FieldType} {vs : List Value} {ws : List Addr} (F : OwnA Z h a k ty vs) (K : Keep h h' ws) (q : a ∉ ws) : OwnA Z h' a k ty vs := by obtain ⟨c, A, r⟩ := F; exact ⟨c, own_arrK A K q, r⟩
theorem OwnA.new {Z : State} {h : Heap} {a : Addr} {k : ClassId} {ty : FieldType} {z : Int32} (A : Arr Z h a (newA k ty z) ty) : OwnA Z h a k ty (List.replicate z.toNatClampNeg (defaultValue ty)) := ⟨_, A, rfl, by simp [newA]⟩
theorem OwnA.set {Z : State} {h h' : Heap} {a : Addr} {k : ClassId} {ty : FieldType} {vs : List Value} {j : Nat} {v : Value} (F : OwnA Z h a k ty vs) (W : Wr h h' a j v) : OwnA Z h' a k ty (vs.set j v) := by
  obtain ⟨c, A, r1, r2⟩ := F
  refine ⟨_, A.same W, r1, ?_⟩
  rw [← r2]
  simp [Cell.setSlot]
theorem OwnA.inb {c : Cell} {vs : List Value} {j : Int32} (H : c.slots.toList = vs) (h1 : ¬ j < 0) (h2 : j.toNatClampNeg < vs.length) : ¬ (j < 0 ∨ c.slots.size ≤ j.toNatClampNeg) := by
  rintro (q | q)
  · exact h1 q
  · rw [← H, Array.length_toList] at h2; omega
theorem OwnA.at {c : Cell} {vs : List Value} {j : Int32} {v : Value} (H : c.slots.toList = vs) (h : vs[j.toNatClampNeg]? = some v) : c.slots[j.toNatClampNeg]? = some v := by
  rw [← H] at h; simpa using h
theorem OwnA.size {c : Cell} {vs : List Value} {z : Int32} (H : c.slots.toList = vs) (h : vs.length = z.toNatClampNeg) : c.slots.size = z.toNatClampNeg := by
  rw [← h, ← H, Array.length_toList]
theorem OwnA.ofArv {Z : State} {h : Heap} {a : Addr} {k : ClassId} {ty : FieldType} {z : Int32} {vs : List Value} {d : Value} (F : Arv Z h a k ty z vs d) (hl : z.toNatClampNeg = vs.length) : OwnA Z h a k ty vs := by
  obtain ⟨c, A, r1, r2, r3, r4, r5⟩ := F
  refine ⟨c, A, r1, ?_⟩
  apply List.ext_getElem?
  intro i
  by_cases hi : i < c.slots.size
  · have q := r4 i hi
    rw [Array.getElem?_toList, q, List.getD_eq_getElem?_getD]
    rw [r2, hl] at hi
    rw [List.getElem?_eq_getElem hi]; rfl
  · rw [Array.getElem?_toList, Array.getElem?_eq_none (by omega), List.getElem?_eq_none (by omega)]
theorem OwnA.one {Z : State} {h : Heap} {a : Addr} {k k' : ClassId} {ty ty' : FieldType} {vs vs' : List Value} (F : OwnA Z h a k ty vs) (G : OwnA Z h a k' ty' vs') : vs = vs' := by
  obtain ⟨c, A, -, r⟩ := F
  obtain ⟨c', A', -, r'⟩ := G
  have q := A.1.symm.trans A'.1
  cases q
  rw [← r, ← r']
theorem own_fldOne {Z : State} {h : Heap} {a : Addr} {C n d : String} {v w : Value} (F : Fld Z h a C n d v) (G : Fld Z h a C n d w) : v = w := by
  obtain ⟨c, cf, k, i, f, h1, h2, h3, h4, h5, h6, h7⟩ := F
  obtain ⟨c', cf', k', i', f', g1, g2, g3, g4, g5, g6, g7⟩ := G
  have q := h1.symm.trans g1
  cases q
  have q := h2.symm.trans g2
  cases q
  have q := h7.symm.trans g7
  cases q
  rfl
theorem own_decl {Z : State} {a0 : Array Value} {y : MethodName} {b : ByteArray} {ml : Nat} {rt : Option FieldType} (hi : (Jvm.Cond.instanceMethod y).before a0 Z = true) (hc : (Jvm.Cond.code y b ml rt).before a0 Z = true) : (Jvm.Cond.declares y).before a0 Z = true := by
  obtain ⟨mk, methM, hnamed, hmethM, hstM, habM⟩ := Cond.instanceMethod_spec hi
  obtain ⟨m2, cM, q1, -, -, -, -, -, -, hsig⟩ := Cond.code_spec hnamed hc
  cases hmethM.symm.trans q1
  simp [Cond.before, Cond.holds, Cond.value, hnamed, hmethM, hstM, hsig]
theorem own_selp {Z : State} {a0 : Array Value} {C : String} {y y' : MethodName} (h' : (Jvm.Cond.selects C y' y').before a0 Z = true) (hc : y'.cls = y.cls) (hp : (Jvm.Cond.privateMethod y).before a0 Z = true) (hi : (Jvm.Cond.instanceMethod y).before a0 Z = true) (hy : y.cls ≠ "java/lang/invoke/MethodHandle" ∧ y.cls ≠ "java/lang/invoke/VarHandle") : (Jvm.Cond.selects y.cls y y).before a0 Z = true := by
  obtain ⟨c2, r2, m2, q1, q2, q3, q4, kP, hkP, hkPi⟩ := Cond.selects_spec h'
  exact selects_self_of_private (c := m2.cls) (by rw [← hc]; exact findClass_of_methodNamed q3) hkP hkPi (Cond.privateMethod_at hp) hi hy
theorem own_plainA {Z : State} {h : Heap} {a : Addr} {k : ClassId} {ty : FieldType} {vs : List Value} (F : OwnA Z h a k ty vs) : ∃ c : Cell, h[a]? = some c ∧ c.vm.isStatics = false := by
  obtain ⟨c, A, -⟩ := F
  exact ⟨c, A.1, A.plain⟩
theorem own_eqI {args : Array Value} {s : State} {u : Term} {k : Int32} (h : (Jvm.Cond.eq u (.int k)).value args s none s [] = some true) : u.eval args s none [] s = some (.int k) := by
  cases hv : u.eval args s none [] s with
  | none => simp [Cond.value, hv] at h
  | some v => cases v <;> simp [Cond.value, Term.eval, hv] at h ⊢ <;> exact h
theorem own_eqL {args : Array Value} {s : State} {u : Term} {k : Int64} (h : (Jvm.Cond.eq u (.long k)).value args s none s [] = some true) : u.eval args s none [] s = some (.long k) := by
  cases hv : u.eval args s none [] s with
  | none => simp [Cond.value, hv] at h
  | some v => cases v <;> simp [Cond.value, Term.eval, hv] at h ⊢ <;> exact h
theorem own_size {args : Array Value} {s : State} {u : Term} {a : Addr} {cl : Cell} {ty : FieldType} {k : Int32} (ev : u.eval args s none [] s = some (.ref a)) (A : Arr s s.heap a cl ty) (h : (Jvm.Cond.eq (.length u) (.int k)).value args s none s [] = some true) : cl.slots.size = k.toNatClampNeg := by
  have h1 := own_eqI h
  have h2 : s.arrayAt? a = some cl := A.fin (Vm.Alike.refl _)
  simp only [Term.eval, ev, h2, Option.bind_eq_bind, Option.bind_some] at h1
  split at h1
  · rename_i hl
    have h3 : cl.slots.size.toInt32 = k := by simpa using h1
    rw [← h3]
    have := len_toInt hl
    rw [Int32.toNatClampNeg, this]; rfl
  · simp at h1
theorem own_elL {args : Array Value} {s : State} {u : Term} {a : Addr} {cl : Cell} {ty : FieldType} {j : Int32} {k : Int64} (ev : u.eval args s none [] s = some (.ref a)) (A : Arr s s.heap a cl ty) (h : (Jvm.Cond.eq (.elem u (.int j)) (.long k)).value args s none s [] = some true) : cl.slots[j.toNatClampNeg]? = some (.long k) :=
  (elem_in (own_eqL h) ev (Term.int_eval _) A.1).2
theorem own_elI {args : Array Value} {s : State} {u : Term} {a : Addr} {cl : Cell} {ty : FieldType} {j k : Int32} (ev : u.eval args s none [] s = some (.ref a)) (A : Arr s s.heap a cl ty) (h : (Jvm.Cond.eq (.elem u (.int j)) (.int k)).value args s none s [] = some true) : cl.slots[j.toNatClampNeg]? = some (.int k) :=
  (elem_in (own_eqI h) ev (Term.int_eval _) A.1).2
theorem own_ne {args : Array Value} {s : State} {u : Term} {z k : Int32} (ev : u.eval args s none [] s = some (.int z)) (h : (Jvm.Cond.not (Jvm.Cond.eq u (.int k))).value args s none s [] = some true) : ¬ z = k := by
  have h2 := not_v h
  intro q
  subst q
  simp [Cond.value, Term.eval, ev] at h2
theorem own_in {i z : Int32} {cl : Cell} (S : cl.slots.size = z.toNatClampNeg) (h1 : ¬ i < 0) (h2 : i < z) : ¬ (i < 0 ∨ cl.slots.size ≤ i.toNatClampNeg) := by
  rintro (q | q)
  · exact h1 q
  · rw [S] at q
    rw [Int32.lt_iff_toInt_lt] at h1 h2
    have e0 : (0 : Int32).toInt = 0 := rfl
    have e1 : ((i.toNatClampNeg : Nat) : Int) = i.toInt := by rw [Int32.toNatClampNeg]; exact Int.toNat_of_nonneg (by omega)
    have e2 : ((z.toNatClampNeg : Nat) : Int) = z.toInt := by rw [Int32.toNatClampNeg]; exact Int.toNat_of_nonneg (by omega)
    omega
end Own

theorem pd_0 : parseMethodDescriptor "(C)Z" = some ⟨[.char], some .boolean⟩ := by decide +kernel
theorem pd_1 : parseMethodDescriptor "(C)[B" = some ⟨[.char], some (.array .byte)⟩ := by decide +kernel
theorem pd_2 : parseMethodDescriptor "([BB)V" = some ⟨[(.array .byte), .byte], none⟩ := by decide +kernel
theorem pd_3 : parseMethodDescriptor "([CI[BII)I" = some ⟨[(.array .char), .int, (.array .byte), .int, .int], some .int⟩ := by decide +kernel
theorem pd_4 : parseMethodDescriptor "([CII)[B" = some ⟨[(.array .char), .int, .int], some (.array .byte)⟩ := by decide +kernel
theorem pd_5 : parseMethodDescriptor "([BI)B" = some ⟨[(.array .byte), .int], some .byte⟩ := by decide +kernel
theorem pd_6 : parseMethodDescriptor "([CIILjava/lang/Void;)V" = some ⟨[(.array .char), .int, .int, (.object "java/lang/Void")], none⟩ := by decide +kernel
theorem pd_7 : parseMethodDescriptor "(Ljava/lang/String;)V" = some ⟨[(.object "java/lang/String")], none⟩ := by decide +kernel
theorem pd_8 : parseMethodDescriptor "(Lcom/example/idpd/idpd/RefusedMessageException$Kind;Ljava/lang/String;)V" = some ⟨[(.object "com/example/idpd/idpd/RefusedMessageException$Kind"), (.object "java/lang/String")], none⟩ := by decide +kernel
theorem pd_9 : parseMethodDescriptor "(Ljava/lang/String;)Lcom/example/idpd/idpd/RefusedMessageException;" = some ⟨[(.object "java/lang/String")], some (.object "com/example/idpd/idpd/RefusedMessageException")⟩ := by decide +kernel
theorem pd_10 : parseMethodDescriptor "()Lcom/example/idpd/idpd/RefusedMessageException$Kind;" = some ⟨[], some (.object "com/example/idpd/idpd/RefusedMessageException$Kind")⟩ := by decide +kernel
theorem pd_11 : parseMethodDescriptor "(C)Ljava/lang/String;" = some ⟨[.char], some (.object "java/lang/String")⟩ := by decide +kernel
theorem pd_12 : parseMethodDescriptor "([C)V" = some ⟨[(.array .char)], none⟩ := by decide +kernel
theorem own_str {Z : State} {a0 : Array Value} (hw : ∀ d ∈ tables_1, d.before a0 Z = true) : ∀ a ∈ Bundle.stringAtoms, a.before a0 Z = true := by
  intro a ha
  simp only [Bundle.stringAtoms, List.mem_cons, List.not_mem_nil, or_false] at ha
  rcases ha with rfl | rfl | rfl | rfl | rfl | rfl | rfl
  · exact (hw _ (List.mem_of_getElem? (i := 73) rfl))
  · exact (hw _ (List.mem_of_getElem? (i := 72) rfl))
  · exact (hw _ (List.mem_of_getElem? (i := 87) rfl))
  · exact (hw _ (List.mem_of_getElem? (i := 97) rfl))
  · exact (hw _ (List.mem_of_getElem? (i := 95) rfl))
  · exact (hw _ (List.mem_of_getElem? (i := 113) rfl))
  · exact (hw _ (List.mem_of_getElem? (i := 114) rfl))
def QSame (r : Option Value) (h0 : Heap) (n0 : Nat) (v : Option Value) (h : Heap) (L : List Loc) : Prop := v = r ∧ Fr n0 L ∧ h = h0
section OwnX
open Jvm.Free.Exc LibCode.Throwable
variable {p : Program} {l : Launch} {e : Env} {R : Room} {s : State} {m : MethodId} {args : Array Value} {below : List Frame} {meth : Method} {c : Code} {T : State} {locs : List Loc} {cells slots : Nat}
theorem own_par {d : String} {sig : MethodDescriptor} {ps : List FieldType} (h : parseMethodDescriptor d = some sig) (q : (parseMethodDescriptor d).map (fun z => z.parameters) = some ps) : sig.parameters = ps := by
  rw [h] at q
  simpa using q
/-- Throwable's links, where the field of the suppressed ones is told of a subclass alone -/
theorem own_links {a0 : Array Value} {s : State} {pl : Platform} {rc : String} (howns : pl.frameOwnsMonitors = true) (hfin : pl.finalization = false) (hpl : pl.magicAccessors = ({} : Platform).magicAccessors)
    (h1 : (Jvm.Cond.initialized tN).before a0 s = true) (h2 : (Jvm.Cond.superclass tN "java/lang/Object").before a0 s = true) (h3 : (Jvm.Cond.instanceMethod tFill).before a0 s = true) (h4 : (Jvm.Cond.codeSync tFill Fill.code 1 (some (.object tN))).before a0 s = true)
    (h5 : (Jvm.Cond.instanceMethod tFill0).before a0 s = true) (h6 : (Jvm.Cond.native tFill0).before a0 s = true) (h7 : (Jvm.Cond.instanceMethod tInit0).before a0 s = true) (h8 : (Jvm.Cond.code tInit0 Init0.code 1 none).before a0 s = true)
    (h9 : (Jvm.Cond.instanceMethod oInit).before a0 s = true) (h10 : (Jvm.Cond.code oInit ⟨#[0xb1]⟩ 1 none).before a0 s = true) (k1 : (Jvm.Cond.methodLink tN 1 oInit).before a0 s = true) (k27 : (Jvm.Cond.methodLink tN 27 tFill).before a0 s = true) (k202 : (Jvm.Cond.methodLink tN 202 tFill0).before a0 s = true)
    (f7 : (Jvm.Cond.fieldLink tN 7 tN "cause" "Ljava/lang/Throwable;").before a0 s = true) (y7 : (Jvm.Cond.lays rc tN "cause" "Ljava/lang/Throwable;").before a0 s = true) (f17 : (Jvm.Cond.fieldLink tN 17 tN "stackTrace" steD).before a0 s = true) (y17 : (Jvm.Cond.lays rc tN "stackTrace" steD).before a0 s = true)
    (f24 : (Jvm.Cond.fieldLink tN 24 tN "suppressedExceptions" listD).before a0 s = true) (y24 : (Jvm.Cond.lays rc tN "suppressedExceptions" listD).before a0 s = true) (f13 : (Jvm.Cond.fieldLink tN 13 tN "UNASSIGNED_STACK" steD).before a0 s = true) (y13 : (Jvm.Cond.laysStatic tN "UNASSIGNED_STACK" steD).before a0 s = true)
    (f20 : (Jvm.Cond.fieldLink tN 20 tN "SUPPRESSED_SENTINEL" listD).before a0 s = true) (y20 : (Jvm.Cond.laysStatic tN "SUPPRESSED_SENTINEL" listD).before a0 s = true) (yM : (Jvm.Cond.lays rc tN "detailMessage" "Ljava/lang/String;").before a0 s = true) :
    ∃ T : ThrowableC, T.Links pl s ∧ s.vm.findClass tN = some T.cT ∧ s.methodNamed? tFill = some T.fill ∧ s.methodNamed? tFill0 = some T.fill0 ∧ s.fieldFound? tN "stackTrace" steD = some (T.cT, T.kT, T.i17, T.fStack) ∧ s.fieldFound? tN "UNASSIGNED_STACK" steD = some (T.cT, T.kT, T.i13, T.fUnassigned) ∧
      T.fStack.type = .array (.object "java/lang/StackTraceElement") := by
  obtain ⟨⟨ct, j0⟩, m0, nm0, mt0, nat0, cd0, lk0, sg0⟩ := Cond.native_spec h6
  have hc : s.vm.findClass tN = some ct := findClass_of_methodNamed nm0
  obtain ⟨kt, hk, hname⟩ := Vm.findClass_spec hc
  obtain ⟨jF, mF, nmF, mtF, atF, stF, abF, -, -⟩ := Cond.ownMethod (x := tFill) hc hk h3
  obtain ⟨mF', cdF, mtF', q1, q2, q3, q4, q5, -, sgF⟩ := Cond.codeSync_spec nmF h4
  cases mtF.symm.trans mtF'
  obtain ⟨jN, mN, nmN, mtN, atN, stN, abN, naN, deN⟩ := Cond.ownMethod (x := tFill0) hc hk h5
  cases nm0.symm.trans nmN
  cases mt0.symm.trans mtN
  obtain ⟨jZ, mZ, nmZ, mtZ, atZ, -, -, -, -⟩ := Cond.ownMethod (x := tInit0) hc hk h7
  obtain ⟨mZ', cdZ, mtZ', -, -, -, -, -, -, -⟩ := Cond.code_spec nmZ h8
  cases mtZ.symm.trans mtZ'
  obtain ⟨mO, meO, nmO, mtO, stO, abO⟩ := Cond.instanceMethod_spec h9
  obtain ⟨meO', cdO, mtO', w1, w2, w3, -, w4, -, sgO⟩ := Cond.code_spec nmO h10
  cases mtO.symm.trans mtO'
  obtain ⟨kO, hkO, hnO⟩ := Vm.findClass_spec (findClass_of_methodNamed nmO)
  obtain ⟨naO, deO⟩ := name_of_methodNamed nmO mtO
  obtain ⟨_, _, _, _, hk2, _, _, -, _, hni⟩ := Cond.superclass_spec hc h2
  cases hk.symm.trans hk2
  obtain ⟨a1, b1, cf, l1, r1, hcf, p1⟩ := Cond.linkedMethod hc hk nmO k1 pl hpl
  obtain ⟨a27, b27, cf', l27, r27, hcf', p27⟩ := Cond.linkedMethod hc hk nmF k27 pl hpl
  cases hcf.symm.trans hcf'
  obtain ⟨a202, b202, cf', l202, r202, hcf', p202⟩ := Cond.linkedMethod hc hk nm0 k202 pl hpl
  cases hcf.symm.trans hcf'
  obtain ⟨a7, i7, F7, u7, v7, at7, s7, n7, x7, t7, g7⟩ := Cond.ownField (t := .object tN) hc hk (by decide +kernel) f7 y7 pl hpl
  obtain ⟨a17, i17, F17, u17, v17, at17, s17, n17, x17, t17, g17⟩ := Cond.ownField (t := .array (.object "java/lang/StackTraceElement")) hc hk (by decide +kernel) f17 y17 pl hpl
  obtain ⟨a24, i24, F24, u24, v24, at24, s24, n24, x24, t24, g24⟩ := Cond.ownField (t := .object "java/util/List") hc hk (by decide +kernel) f24 y24 pl hpl
  obtain ⟨a13, i13, F13, aS, cS, u13, v13, at13, s13, -, -, hsta, -, -, -, -, g13⟩ := Cond.ownStatic (t := .array (.object "java/lang/StackTraceElement")) hc hk (by decide +kernel) f13 y13 pl hpl
  obtain ⟨a20, i20, F20, _, _, u20, v20, at20, s20, -, -, -, -, -, -, -, g20⟩ := Cond.ownStatic (t := .object "java/util/List") hc hk (by decide +kernel) f20 y20 pl hpl
  obtain ⟨_, _, cM, kM, iM, FM, _, _, gM, sM, nM, _⟩ := Cond.lays_spec yM
  obtain ⟨cR, kR, _, _, _, _, hcR, hkR, _⟩ := Cond.lays_spec y17
  obtain ⟨-, d17, e17, z17⟩ := Cond.laysAt hcR hkR g17 y17
  obtain ⟨-, d24, e24, z24⟩ := Cond.laysAt hcR hkR g24 y24
  have apart : F17.slot ≠ F24.slot := Cond.laysApart e17 e24 z17 z24 (by rw [x17, x24]; decide)
  refine ⟨{ cT := ct, kT := kt, cO := ct, aS := aS, fillIdx := jF, fill0Idx := j0, initSIdx := jZ, obj := mO, kObj := kO, methFill := mF, methFill0 := m0, methInitS := mZ, methObj := meO, codeFill := cdF, codeInitS := cdZ, codeObj := cdO, fBack := F7, fDepth := F7, fStack := F17, fCause := F7, fSupp := F24, fMsg := FM, fUnassigned := F13, fSentinel := F20, cfT := cf, ci1 := a1, n1 := b1, ci27 := a27, n27 := b27, ci202 := a202, n202 := b202, ci7 := a7, i7 := i7, ci13 := a13, i13 := i13, ci17 := a17, i17 := i17, ci20 := a20, i20 := i20, ci24 := a24, i24 := i24 }, ?_, hc, nmF, nm0, g17, g13, t17⟩
  constructor <;> first | assumption | skip
  · exact Vm.findClass_boot hc hk
  · exact Cond.initialized_spec hc hk h1
  · exact own_par sgF (by decide +kernel)
  · exact own_par sg0 (by decide +kernel)
  · show lookupSpecial s.vm mO.cls "<init>" meO.desc = .method mO
    rw [deO]
    exact lookupSpecial_of_named nmO mtO stO
  · exact congrArg List.length (own_par sgO (ps := []) (by decide +kernel))
def ownXw (rc : String) : List Jvm.Cond := [.initialized tN, .superclass tN "java/lang/Object", .instanceMethod tFill, .codeSync tFill Fill.code 1 (some (.object tN)), .instanceMethod tFill0, .native tFill0, .instanceMethod tInit0, .code tInit0 Init0.code 1 none, .instanceMethod oInit, .code oInit ⟨#[0xb1]⟩ 1 none, .methodLink tN 1 oInit, .methodLink tN 27 tFill, .methodLink tN 202 tFill0, .fieldLink tN 7 tN "cause" "Ljava/lang/Throwable;", .lays rc tN "cause" "Ljava/lang/Throwable;", .fieldLink tN 17 tN "stackTrace" steD, .lays rc tN "stackTrace" steD, .fieldLink tN 24 tN "suppressedExceptions" listD, .lays rc tN "suppressedExceptions" listD, .fieldLink tN 13 tN "UNASSIGNED_STACK" steD, .laysStatic tN "UNASSIGNED_STACK" steD, .fieldLink tN 20 tN "SUPPRESSED_SENTINEL" listD, .laysStatic tN "SUPPRESSED_SENTINEL" listD, .lays rc tN "detailMessage" "Ljava/lang/String;", .declares tFill, .selects rc tFill0 tFill0, .selects rc tFill tFill, .fieldLink tN 198 tN "backtrace" obD, .lays rc tN "backtrace" obD, .lays rc tN "depth" "I", .soleField tN "backtrace", .soleField tN "depth", .arrayOver (.object "java/lang/Object")]
def OwnKp (Z : State) (h h' : Heap) (x : Addr) : Prop := Keep h h' [x] ∧ ∀ cx : Cell, h[x]? = some cx → ∃ c' : Cell, h'[x]? = some c' ∧ c' = { cx with slots := c'.slots } ∧ ∀ i, i ≠ Jvm.RoadKit.slotOf Z tN "backtrace" obD → i ≠ Jvm.RoadKit.slotOf Z tN "depth" "I" → i ≠ Jvm.RoadKit.slotOf Z tN "stackTrace" steD → c'.slots[i]? = cx.slots[i]?
theorem OwnKp.fld {Z : State} {h h' : Heap} {x : Addr} {O n d : String} {v : Value} (K : OwnKp Z h h' x) (F : Fld Z h x O n d v) (n1 : Jvm.RoadKit.slotOf Z O n d ≠ Jvm.RoadKit.slotOf Z tN "backtrace" obD) (n2 : Jvm.RoadKit.slotOf Z O n d ≠ Jvm.RoadKit.slotOf Z tN "depth" "I") (n3 : Jvm.RoadKit.slotOf Z O n d ≠ Jvm.RoadKit.slotOf Z tN "stackTrace" steD) : Fld Z h' x O n d v := by
  obtain ⟨cell, cf, k, i, f, h1, h2, h3, h4, h5, h6, h7⟩ := F
  obtain ⟨c', q1, q2, q5⟩ := K.2 _ h1
  have e : Jvm.RoadKit.slotOf Z O n d = f.slot := by simp [Jvm.RoadKit.slotOf, h2]
  rw [e] at n1 n2 n3
  exact ⟨c', cf, k, i, f, q1, h2, h3, by rw [q2]; exact h4, by rw [q2]; exact h5, by rw [q2]; exact h6, by rw [q5 _ n1 n2 n3]; exact h7⟩
theorem own_fill {Z : State} {a0 : Array Value} {h : Heap} {rc : String} {nI : Nat} (X : Stand p l e R s m args below meth c T locs 0 slots) (hx : p.tables.exec = Jvm.exec) (hl : l.stackTraces = true) (hZ : Z.Warmed39 s.vm) (hown : s.vm.findClass tN = some m.cls)
    (hT0 : ThS Z s.heap) (W : ∀ d ∈ ownXw rc, d.before a0 Z = true) (wi : (Jvm.Cond.instantiable rc nI).before a0 Z = true) (hTK : s.vm.MethodsKnown) (hBelow : s.vm.FramesKnown below) (eT : T.heap = h) {x us : Addr} (hloc : ∀ y ∈ locs, y.base = x)
    (E : Exa Z h x rc) (N : Unt h x) (B : Fld Z h x tN "backtrace" obD .null) (S : Fld Z h x tN "stackTrace" steD (.ref us)) (U : Sta Z h tN "UNASSIGNED_STACK" steD (.ref us))
    {g : JFrame} (hg : g.method = m) (hsize : g.locals.size = c.maxLocals) (hstack : g.stack = [.ref x]) (hmr : g.monitorRoom = 0) (hdg : decode c.code g.pc = .ok (.invokevirtual 27, 3)) (hf : 3 ≤ R.frames) (hlo : 42 ≤ R.locals) (hce : 1 ≤ R.cells) (hsl : slots + 2752 ≤ R.slots) :
    ∃ (T' : State) (h' : Heap) (L3 : List Loc), Stand p l e R s m args below meth c T' (locs ++ L3) 1 (slots + 2752) ∧ T'.heap = h' ∧ (∀ y ∈ L3, y.base = x) ∧ OwnKp Z h h' x ∧
      ∀ target, Steps p.tables e below (T'.setTop { g with pc := g.pc + 3, stack := [.ref x] }) target → Steps p.tables e below (T.setTop g) target := by
  subst eT
  have A : ∀ d ∈ ownXw rc, d.before args s = true := fun d hd => mvX hT0 hZ (List.all_eq_true.mp (rfl : (ownXw rc).all xOk = true) d hd) (W d hd)
  have w : ∀ (i : Nat) (d : Jvm.Cond), (ownXw rc)[i]? = some d → d.before args s = true := fun i d hd => A d (List.mem_of_getElem? hd)
  have htr : e.platform.stackTraces = true := by rw [X.admits.platform]; exact hl
  have howns : e.platform.frameOwnsMonitors = true := by rw [X.admits.platform]
  have hfin : e.platform.finalization = false := by rw [X.admits.platform]
  have hpl : e.platform.magicAccessors = ({} : Platform).magicAccessors := by rw [X.admits.platform]
  obtain ⟨TC, L, yc, yf, yf0, yst, yun, tyS⟩ := own_links (rc := rc) howns hfin hpl (w 0 _ rfl) (w 1 _ rfl) (w 2 _ rfl) (w 3 _ rfl) (w 4 _ rfl) (w 5 _ rfl) (w 6 _ rfl) (w 7 _ rfl) (w 8 _ rfl) (w 9 _ rfl) (w 10 _ rfl) (w 11 _ rfl) (w 12 _ rfl) (w 13 _ rfl) (w 14 _ rfl) (w 15 _ rfl) (w 16 _ rfl) (w 17 _ rfl) (w 18 _ rfl) (w 19 _ rfl) (w 20 _ rfl) (w 21 _ rfl) (w 22 _ rfl) (w 23 _ rfl)
  have hal := hZ.alike
  obtain ⟨cell, kc, c1, c2, c3, c4, c5⟩ := E
  obtain ⟨cell', u1, u2, u3⟩ := N
  cases c1.symm.trans u1
  obtain ⟨kX, hkX, heX⟩ := hal.2.2 _ _ c3
  have hfound : s.vm.findClass rc = some cell.cls := by rw [hal.findClass]; exact c2
  obtain ⟨_, _, i1, i2, i3, -⟩ := Cond.instantiable_spec wi
  cases c2.symm.trans i1
  cases c3.symm.trans i2
  have hord : kX.kind = .ordinary := by rw [heX]; exact i3
  have hsz : cell.slots.size = kX.instanceTypes.size := by rw [heX]; exact c5 i3
  have hsel0 : selectMethod e.platform s.vm cell.cls TC.fill0 = .method TC.fill0 := by
    obtain ⟨c2', r2, m2, q1, q2, q3, q4, -⟩ := Cond.selects_spec (w 25 _ rfl)
    cases hfound.symm.trans q1
    cases (State.methodFound?_of_named yf0 (by decide)).symm.trans q2
    cases yf0.symm.trans q3
    rw [Launch.admits_selectMethod X.admits]; exact q4
  obtain ⟨cf, iu, ku, fu, st, cellS, g1, g2, g3, g4, g5, g6, g7⟩ := U
  obtain ⟨k4, v1, -⟩ := State.fieldFound?_setVm (s := Z) hal g1
  cases (show s.fieldFound? tN "UNASSIGNED_STACK" steD = _ from v1).symm.trans yun
  obtain ⟨k5, e5, he5⟩ := hal.2.2 _ _ (State.fieldFound?_spec g1).1
  cases e5.symm.trans L.cls
  have hst : TC.aS = st := by
    have q := L.statics
    rw [he5] at q
    exact Option.some.inj (q.symm.trans g4)
  obtain ⟨cellq, cfq, kq, iq, fq, r1, r2, r3, r4, r5, r6, r7⟩ := S
  cases c1.symm.trans r1
  obtain ⟨k6, v2, -⟩ := State.fieldFound?_setVm (s := Z) hal r2
  cases (show s.fieldFound? tN "stackTrace" steD = _ from v2).symm.trans yst
  obtain ⟨cellb, cfb, kb, ib, fb, b1, b2, b3, b4, b5, b6, b7⟩ := B
  cases c1.symm.trans b1
  obtain ⟨ci198, i198, fB, hk198, hg198, ha198, hsB, -, hnB, htB, hffB⟩ := Cond.ownField (t := .object "java/lang/Object") yc L.cls (by decide +kernel) (w 27 _ rfl) (w 28 _ rfl) e.platform hpl
  obtain ⟨k7, v3, -⟩ := State.fieldFound?_setVm (s := Z) hal b2
  cases (show s.fieldFound? tN "backtrace" obD = _ from v3).symm.trans hffB
  obtain ⟨cD1, kD1, cD, kD, iD, fD, -, -, hffD, hstD, -, -, -, -⟩ := Cond.lays_spec (w 29 _ rfl)
  cases (Cond.lays_declared (w 29 _ rfl) hffD).symm.trans yc
  obtain ⟨hkD, hatD⟩ := State.fieldFound?_spec hffD
  cases hkD.symm.trans L.cls
  obtain ⟨hnD, htD⟩ := State.fieldFound?_type hffD (t := .int) (by decide +kernel)
  have hfb := Cond.soleField_find yc L.cls (w 30 _ rfl) ha198 hnB hsB
  have hfd := Cond.soleField_find yc L.cls (w 31 _ rfl) hatD hnD hstD
  obtain ⟨comp, cO, kO, -, -, hkO, hkindO, hO⟩ := Cond.arrayOver_spec (w 32 _ rfl)
  obtain ⟨yS, -⟩ := Cond.laysAt hfound hkX yst (w 16 _ rfl)
  obtain ⟨yB, -⟩ := Cond.laysAt hfound hkX hffB (w 28 _ rfl)
  obtain ⟨yD, -⟩ := Cond.laysAt hfound hkX hffD (w 29 _ rfl)
  have tk : ∀ {f : Field} {v : Value}, kX.instanceTypes[f.slot]? = some f.type → fits f.type v = true → Jvm.Takes s cell f v := fun {f v} h1 h2 => by
    obtain ⟨q1, q2⟩ := Takes.of_laid (v := v) hkX hord h1 h2
    exact ⟨by rw [hsz]; simpa using q1, by rw [u2]; exact q2⟩
  have hneS : TC.aS ≠ x := fun hh => by
    rw [hst] at hh
    subst hh
    cases c1.symm.trans g5
    rw [u2] at g6
    cases g6
  have hSE := w 26 _ rfl
  obtain ⟨v6, vm6, ⟨T6, L6, c6, n6⟩, hW6, X6, ⟨hv6, C6, n, hn, hD6, q1, q2, q3, q4, hL6, hc6, hn6'⟩, come⟩ := X.virtualBack hx (own := tN) (C := rc) (index := 27) (y := tFill) (z := tFill) hown (w 11 _ rfl) (w 24 _ rfl) (notFace_of_selects hSE) hSE (w 2 _ rfl) (by decide)
    (fillPaysAny (l := l) (W := 0) hx htr TC L yf (u0 := ⟨.ref us, rfl⟩) (self := x) (cell := cell) (cellS := cellS) (fun _ => by rw [u2]; simp) (by rw [u2]; simp) (by rw [u3]) (by rw [u3]) r7 hsel0 hneS (by intro q; rw [q] at g6; cases g6) g7 (tk yS (by rw [tyS]; rfl))
      ⟨{ ci198 := ci198, i198 := ib, fBack := fb }, ⟨hk198, hg198, ha198, hsB⟩, b7⟩ hTK hBelow yc hO hkO hkindO hfb hfd (fun z => tk yB (by rw [htB]; rfl)) (fun z => tk yD (by rw [htD]; rfl)) (by omega) (by omega))
    (b := x) (cB := cell.cls) hfound ⟨cell, c1, rfl, by rw [u2]; rfl⟩ (g := g) hg hsize (Steps.refl _) (argsL := []) (rest := [])
    (fun sig h => by rw [show parseMethodDescriptor tFill.desc = some ⟨[], some (.object tN)⟩ from by decide +kernel] at h; rw [← Option.some.inj h]; rfl) hstack (by rw [hmr]; exact Nat.le_refl _) hdg
    (fun vmx hWx => ⟨rfl, by show 0 + 1 ≤ R.cells; omega, hsl, c1, by rw [hst]; exact g5⟩)
  dsimp only [Pt.U, Pt.locs, Pt.cells, Pt.slots] at X6 hD6 hL6 hc6 hn6' come
  subst hv6 hL6 hc6 hn6'
  have X7 := X6.more (Nat.le_refl _) (Nat.add_le_add_left hn slots)
  have hL3 : ∀ y ∈ ([⟨x, fb.slot⟩, ⟨x, fD.slot⟩, ⟨x, TC.fStack.slot⟩] : List Loc), y.base = x := by
    intro y hy
    simp only [List.mem_cons, List.not_mem_nil, or_false] at hy
    rcases hy with rfl | rfl | rfl <;> rfl
  have szT : T.heap.size = s.heap.size := by
    have a1 := X.same.2.1
    have a2 := X.same.2.2.1
    have a3 : (T.setVm s.vm).heap = T.heap := rfl
    rw [a3] at a1 a2
    omega
  have oth : ∀ (y : Addr) (cy : Cell), T.heap[y]? = some cy → y ≠ x → T6.heap[y]? = some cy := by
    intro y cy hy hne
    have lt := (Array.getElem?_eq_some_iff.mp hy).1
    rw [szT] at lt
    obtain ⟨d1, z1, z2, z3, z4⟩ := X.same.2.2.2.2.2 y _ (Array.getElem?_eq_getElem lt)
    obtain ⟨d2, y1, y2, y3, y4⟩ := X6.same.2.2.2.2.2 y _ (Array.getElem?_eq_getElem lt)
    have e1 : d1.slots = (s.heap[y]).slots := Array.ext_getElem? fun i => z4 i fun hm => hne (hloc _ hm)
    have e2 : d2.slots = (s.heap[y]).slots := Array.ext_getElem? fun i => y4 i fun hm => by
      rcases List.mem_append.mp hm with hm | hm
      · exact hne (hloc _ hm)
      · exact hne (hL3 _ hm)
    have f1 : d1 = d2 := by rw [z2, y2, e1, e2]
    cases hy.symm.trans z1
    rw [f1]
    exact y1
  have slf : C6 = { cell with slots := C6.slots } := by
    have lt := (Array.getElem?_eq_some_iff.mp c1).1
    rw [szT] at lt
    obtain ⟨d1, z1, z2, z3, z4⟩ := X.same.2.2.2.2.2 x _ (Array.getElem?_eq_getElem lt)
    obtain ⟨d2, y1, y2, y3, y4⟩ := X6.same.2.2.2.2.2 x _ (Array.getElem?_eq_getElem lt)
    cases c1.symm.trans z1
    cases hD6.symm.trans y1
    rw [z2, y2]
  refine ⟨T6, T6.heap, _, X7, rfl, hL3, ⟨⟨?_, fun y cy hy hne => oth y cy hy (fun q => hne (by simp [q])), fun y cy hy => ?_⟩, fun cx hcx => ?_⟩, fun target q => come.trans q⟩
  · rw [szT]; exact X6.same.2.1
  · by_cases hy' : y = x
    · subst hy'
      cases c1.symm.trans hy
      exact ⟨C6, hD6, q1, q2, q3⟩
    · exact ⟨cy, oth y cy hy hy', rfl, rfl, rfl⟩
  · cases c1.symm.trans hcx
    refine ⟨C6, hD6, slf, fun i n1 n2 n3 => q4 i ?_ ?_ ?_⟩
    · simpa [Jvm.RoadKit.slotOf, b2] using n1
    · obtain ⟨cz, kz, iz, hz⟩ := Jvm.Free.BdW.found_ride (U := s) (U' := Z) hal.symm ⟨_, _, _, hffD⟩
      simpa [Jvm.RoadKit.slotOf, hz] using n2
    · simpa [Jvm.RoadKit.slotOf, r2] using n3
end OwnX
set_option maxRecDepth 65536 in
theorem own_xw {Z : State} {a0 : Array Value} (hw : ∀ d ∈ tables_1, d.before a0 Z = true) : ∀ d ∈ ownXw "com/example/idpd/idpd/RefusedMessageException", d.before a0 Z = true := by
  intro d hd
  simp only [ownXw, List.mem_cons, List.not_mem_nil, or_false] at hd
  rcases hd with rfl | rfl | rfl | rfl | rfl | rfl | rfl | rfl | rfl | rfl | rfl | rfl | rfl | rfl | rfl | rfl | rfl | rfl | rfl | rfl | rfl | rfl | rfl | rfl | rfl | rfl | rfl | rfl | rfl | rfl | rfl | rfl | rfl
  · exact (hw _ (List.mem_of_getElem? (i := 22) rfl))
  · exact (hw _ (List.mem_of_getElem? (i := 42) rfl))
  · exact (hw _ (List.mem_of_getElem? (i := 37) rfl))
  · exact (hw _ (List.mem_of_getElem? (i := 43) rfl))
  · exact (hw _ (List.mem_of_getElem? (i := 44) rfl))
  · exact (hw _ (List.mem_of_getElem? (i := 45) rfl))
  · exact (hw _ (List.mem_of_getElem? (i := 46) rfl))
  · exact (hw _ (List.mem_of_getElem? (i := 47) rfl))
  · exact (hw _ (List.mem_of_getElem? (i := 25) rfl))
  · exact (hw _ (List.mem_of_getElem? (i := 26) rfl))
  · exact (hw _ (List.mem_of_getElem? (i := 24) rfl))
  · exact (hw _ (List.mem_of_getElem? (i := 35) rfl))
  · exact (hw _ (List.mem_of_getElem? (i := 48) rfl))
  · exact (hw _ (List.mem_of_getElem? (i := 27) rfl))
  · exact (hw _ (List.mem_of_getElem? (i := 28) rfl))
  · exact (hw _ (List.mem_of_getElem? (i := 30) rfl))
  · exact (hw _ (List.mem_of_getElem? (i := 31) rfl))
  · exact (hw _ (List.mem_of_getElem? (i := 33) rfl))
  · exact (hw _ (List.mem_of_getElem? (i := 34) rfl))
  · exact (hw _ (List.mem_of_getElem? (i := 29) rfl))
  · exact (hw _ (List.mem_of_getElem? (i := 55) rfl))
  · exact (hw _ (List.mem_of_getElem? (i := 32) rfl))
  · exact (hw _ (List.mem_of_getElem? (i := 56) rfl))
  · exact (hw _ (List.mem_of_getElem? (i := 58) rfl))
  · exact (hw _ (List.mem_of_getElem? (i := 36) rfl))
  · exact (hw _ (List.mem_of_getElem? (i := 57) rfl))
  · exact (hw _ (List.mem_of_getElem? (i := 38) rfl))
  · exact (hw _ (List.mem_of_getElem? (i := 53) rfl))
  · exact (hw _ (List.mem_of_getElem? (i := 59) rfl))
  · exact (hw _ (List.mem_of_getElem? (i := 60) rfl))
  · exact (hw _ (List.mem_of_getElem? (i := 40) rfl))
  · exact (hw _ (List.mem_of_getElem? (i := 41) rfl))
  · exact (hw _ (List.mem_of_getElem? (i := 39) rfl))
theorem own_frx {n0 : Nat} {x : Addr} {L : List Loc} (h : ∀ y ∈ L, y.base = x) (g : n0 ≤ x) : Fr n0 L := fun y hy => by rw [h y hy]; exact g
theorem own_known {s : State} {m : MethodId} {args : Array Value} {below : List Frame} (hf : s.frames = .invoking m args :: below) (h1 : framesKnown s = true) (h2 : tablesKnown s = true) : s.vm.MethodsKnown ∧ s.vm.FramesKnown below := by
  refine ⟨fun mk x hx => ?_, fun y hy mk hm => ?_⟩
  · obtain ⟨k, hk, hx'⟩ : ∃ k, s.vm.classes[mk.cls]? = some k ∧ k.methods[mk.idx]? = some x := by
      cases hk : s.vm.classes[mk.cls]? with
      | none => simp [Vm.method?, hk] at hx
      | some k => exact ⟨k, rfl, by simpa [Vm.method?, hk] using hx⟩
    refine ⟨k, hk, fun cf hcf => ?_⟩
    obtain ⟨ha, rfl⟩ := Array.getElem?_eq_some_iff.mp hk
    have q := (Array.all_eq_true_iff_forall_mem.mp h2) _ (Array.getElem_mem ha)
    simp only [hcf, beq_iff_eq] at q
    have lt := (Array.getElem?_eq_some_iff.mp hx').1
    rw [q] at lt
    simp [lt]
  · have q := List.all_eq_true.mp h1 y (by rw [hf]; exact List.mem_cons_of_mem _ hy)
    have r : methodKnown s.vm mk = true := by
      cases y with
      | java g => cases hm; exact q
      | native g => cases hm; exact q
      | _ => simp [frameMethod?] at hm
    cases hk : s.vm.classes[mk.cls]? with
    | none => simp [methodKnown, hk] at r
    | some k => exact ⟨k, hk, fun cf hcf => by simpa [methodKnown, hk, hcf] using r⟩
theorem own_c255 (x : Int32) : ¬ (255 : Int32) < nar .char ((x &&& (255 : Int32)).toUInt32.toUInt16.toUInt32.toInt32) := by
  have h1 := c_and x 255 (by decide)
  have h2 := c_i2c (x &&& 255)
  have e : (255 : Int32).toInt = 255 := rfl
  have h3 : (x &&& 255).toUInt32.toUInt16.toUInt32.toInt32.toInt = (x &&& 255).toInt := by omega
  have h4 : (x &&& 255).toUInt32.toUInt16.toUInt32.toInt32 = (x &&& 255) := Int32.toInt_inj.mp h3
  rw [h4]
  show ¬ (255 : Int32) < (x &&& 255).toUInt32.toUInt16.toUInt32.toInt32
  rw [h4, Int32.lt_iff_toInt_lt]
  omega
def QTh (Z : State) (x : Addr) (h0 : Heap) (n0 : Nat) (v : Option Value) (h : Heap) (L : List Loc) : Prop := v = none ∧ Fr n0 L ∧ Keep h0 h [x] ∧ Exa Z h x "com/example/idpd/idpd/RefusedMessageException" ∧ Fld Z h x "com/example/idpd/idpd/RefusedMessageException" "kind" "Lcom/example/idpd/idpd/RefusedMessageException$Kind;" .null
def QRe (Z : State) (x kx : Addr) (h0 : Heap) (n0 : Nat) (v : Option Value) (h : Heap) (L : List Loc) : Prop := v = none ∧ Fr n0 L ∧ Keep h0 h [x] ∧ Exa Z h x "com/example/idpd/idpd/RefusedMessageException" ∧ Fld Z h x "com/example/idpd/idpd/RefusedMessageException" "kind" "Lcom/example/idpd/idpd/RefusedMessageException$Kind;" (.ref kx)
def QEx (Z : State) (kx : Addr) (h0 : Heap) (n0 : Nat) (v : Option Value) (h : Heap) (L : List Loc) : Prop := ∃ r, v = some (.ref r) ∧ Fr n0 L ∧ Keep h0 h [] ∧ Exa Z h r "com/example/idpd/idpd/RefusedMessageException" ∧ Fld Z h r "com/example/idpd/idpd/RefusedMessageException" "kind" "Lcom/example/idpd/idpd/RefusedMessageException$Kind;" (.ref kx)
def QK (x : Addr) (h0 : Heap) (n0 : Nat) (v : Option Value) (h : Heap) (L : List Loc) : Prop := v = none ∧ Fr n0 L ∧ Keep h0 h [x]
def QRef (h0 : Heap) (n0 : Nat) (v : Option Value) (h : Heap) (L : List Loc) : Prop := ∃ r, v = some (.ref r) ∧ Fr n0 L ∧ Keep h0 h []
def QC5 (Z : State) (d : Addr) (kd : ClassId) (h0 : Heap) (n0 : Nat) (v : Option Value) (h : Heap) (L : List Loc) : Prop := v = some (.int 3) ∧ Fr n0 L ∧ Keep h0 h [d] ∧ ∃ ws, OwnA Z h d kd .byte ws ∧ ws.length = 3
def QC3 (Z : State) (h0 : Heap) (n0 : Nat) (v : Option Value) (h : Heap) (L : List Loc) : Prop := ∃ d kd ws, v = some (.ref d) ∧ Fr n0 L ∧ Keep h0 h [] ∧ OwnA Z h d kd .byte ws ∧ ws.length = 3
theorem d14_0 : decode jdk_43_method_3_code 0 = .ok (.iload_n 0, 1) := by decide +kernel
theorem d14_1 : decode jdk_43_method_3_code 1 = .ok (.sipush 255, 3) := by decide +kernel
theorem d14_4 : decode jdk_43_method_3_code 4 = .ok (.if_icmp .gt 7, 3) := by decide +kernel
theorem d14_7 : decode jdk_43_method_3_code 7 = .ok (.iconst 1, 1) := by decide +kernel
theorem d14_8 : decode jdk_43_method_3_code 8 = .ok (.goto 4, 3) := by decide +kernel
theorem d14_11 : decode jdk_43_method_3_code 11 = .ok (.iconst 0, 1) := by decide +kernel
theorem d14_12 : decode jdk_43_method_3_code 12 = .ok (.ireturn, 1) := by decide +kernel
theorem pn_0 : plainName "java/lang/StringLatin1" = true := by first | (simp [plainName, overriddenIn]; done) | decide +kernel
theorem ef_rmCE (m : MethodId) (ch : Int32) : entryFrame m #[(.int ch)] 1 = mkF m 0 #[.val (.int ch)] [] := by first | (simp [entryFrame, mkF, argsToLocals, Value.category, maxLocals]; done) | rfl
set_option maxRecDepth 65536 in
set_option maxHeartbeats 40000000 in
theorem rmCE (l : Launch) (Z : State) (a0 : Array Value) (hw : ∀ d ∈ tables_1, d.before a0 Z = true) (ws : List Jvm.Cond) (ch : Int32) (h0 : Heap) (n0 : Nat) (Z0 : n0 ≤ h0.size) (hch : ¬ (255 : Int32) < ch) :
    MetFree l (⟨"java/lang/StringLatin1", "canEncode", "(C)Z"⟩ : MethodName) (head1 (Jvm.Cond.code (⟨"java/lang/StringLatin1", "canEncode", "(C)Z"⟩ : MethodName) jdk_43_method_3_code (1 : Nat) (Option.some Jvm.ClassFile.FieldType.boolean) :: ws) ({ frames := 0, cells := 0, slots := 0, locals := 0 } : Room)) (fun aZ UZ => aZ = #[(.int ch)] ∧ Z.Warmed39 UZ.vm ∧ UZ.heap = h0) (fun _ _ _ _ _ => True) (fun _ UZ oZ VZ => ∃ vZ LZ, oZ = .returned vZ ∧ (QSame (some (.int 1)) h0 n0) vZ VZ.heap LZ ∧ FrameEnd UZ oZ VZ LZ ({ frames := 0, cells := 0, slots := 0, locals := 0 } : Room).cells ({ frames := 0, cells := 0, slots := 0, locals := 0 } : Room).slots) := by
  refine MetFree.of_bodySF (plainFor_of_name pn_0) hisR ?_
  intro p e s m args below meth c s₁ Bd hml0 hP hK
  obtain ⟨rfl, hZ, hh⟩ := hP
  have hx := Bd.exec
  have hby := Bd.bytes
  have hml : c.maxLocals = 1 := hml0
  have hown : s.vm.findClass "java/lang/StringLatin1" = some m.cls := findClass_of_methodNamed Bd.named
  have hnm := (name_of_methodNamed Bd.named Bd.method).1
  have X0 : Stand p l e ({ frames := 0, cells := 0, slots := 0, locals := 0 } : Room) s m #[(.int ch)] below meth c s₁ [] 0 0 := Stand.of_body Bd
  have e0 : s₁.heap = h0 := by rw [← hh, Bd.state]; rfl
  have N0 := Fr.nil n0
  show OwnG p e below (OwnE s (QSame (some (.int 1)) h0 n0) ({ frames := 0, cells := 0, slots := 0, locals := 0 } : Room).cells ({ frames := 0, cells := 0, slots := 0, locals := 0 } : Room).slots) _
  refine own_by (S' := s₁.setTop (mkF m 0 #[.val (.int ch)] [])) (fun tZ kZ => castTop (ef_rmCE m ch) kZ) ?_
  refine own_by (S' := s₁.setTop (mkF m 1 #[.val (.int ch)] [(.int ch)])) (fun tZ kZ => XS.iloadN X0.here hx rfl (hb hby d14_0) rfl kZ) ?_
  refine own_by (S' := s₁.setTop (mkF m 4 #[.val (.int ch)] [(.int (255 : Int32)), (.int ch)])) (fun tZ kZ => XS.sipush X0.here hx rfl (hb hby d14_1) kZ) ?_
  refine own_by (S' := s₁.setTop (mkF m 7 #[.val (.int ch)] [])) (fun tZ kZ => XS.icmpNo X0.here hx rfl (hb hby d14_4) rfl (flt hch).2.2.1 kZ) ?_
  refine own_by (S' := s₁.setTop (mkF m 8 #[.val (.int ch)] [(.int (1 : Int32))])) (fun tZ kZ => XS.iconst X0.here hx rfl (hb hby d14_7) kZ) ?_
  refine own_by (S' := s₁.setTop (mkF m 12 #[.val (.int ch)] [(.int (1 : Int32))])) (fun tZ kZ => XS.goto X0.here hx rfl (pc0 := 8) (pc' := 12) rfl (hb hby d14_8) (by decide) (by decide) kZ) ?_
  exact own_retI X0 hx (t := .boolean) Bd.returns (by simp) rfl (hb hby d14_12) Bd.notSynchronized (by decide) (by decide) ⟨rfl, N0, e0⟩
theorem d15_0 : decode jdk_43_method_46_code 0 = .ok (.iconst 1, 1) := by decide +kernel
theorem d15_1 : decode jdk_43_method_46_code 1 = .ok (.newarray .byte, 2) := by decide +kernel
theorem d15_3 : decode jdk_43_method_46_code 3 = .ok (.dup, 1) := by decide +kernel
theorem d15_4 : decode jdk_43_method_46_code 4 = .ok (.iconst 0, 1) := by decide +kernel
theorem d15_5 : decode jdk_43_method_46_code 5 = .ok (.iload_n 0, 1) := by decide +kernel
theorem d15_6 : decode jdk_43_method_46_code 6 = .ok (.i2b, 1) := by decide +kernel
theorem d15_7 : decode jdk_43_method_46_code 7 = .ok (.bastore, 1) := by decide +kernel
theorem d15_8 : decode jdk_43_method_46_code 8 = .ok (.areturn, 1) := by decide +kernel
theorem ef_rmTB (m : MethodId) (ch : Int32) : entryFrame m #[(.int ch)] 1 = mkF m 0 #[.val (.int ch)] [] := by first | (simp [entryFrame, mkF, argsToLocals, Value.category, maxLocals]; done) | rfl
set_option maxRecDepth 65536 in
set_option maxHeartbeats 40000000 in
theorem rmTB (l : Launch) (Z : State) (a0 : Array Value) (hw : ∀ d ∈ tables_1, d.before a0 Z = true) (ws : List Jvm.Cond) (ch : Int32) (h0 : Heap) (n0 : Nat) (Z0 : n0 ≤ h0.size) :
    MetFree l (⟨"java/lang/StringLatin1", "toBytes", "(C)[B"⟩ : MethodName) (head1 (Jvm.Cond.code (⟨"java/lang/StringLatin1", "toBytes", "(C)[B"⟩ : MethodName) jdk_43_method_46_code (1 : Nat) (Option.some (Jvm.ClassFile.FieldType.array Jvm.ClassFile.FieldType.byte)) :: ws) ({ frames := 0, cells := 1, slots := 1, locals := 0 } : Room)) (fun aZ UZ => aZ = #[(.int ch)] ∧ Z.Warmed39 UZ.vm ∧ UZ.heap = h0) (fun _ _ _ _ _ => True) (fun _ UZ oZ VZ => ∃ vZ LZ, oZ = .returned vZ ∧ (QRef  h0 n0) vZ VZ.heap LZ ∧ FrameEnd UZ oZ VZ LZ ({ frames := 0, cells := 1, slots := 1, locals := 0 } : Room).cells ({ frames := 0, cells := 1, slots := 1, locals := 0 } : Room).slots) := by
  refine MetFree.of_bodySF (plainFor_of_name pn_0) hisR ?_
  intro p e s m args below meth c s₁ Bd hml0 hP hK
  obtain ⟨rfl, hZ, hh⟩ := hP
  have hx := Bd.exec
  have hby := Bd.bytes
  have hml : c.maxLocals = 1 := hml0
  have hown : s.vm.findClass "java/lang/StringLatin1" = some m.cls := findClass_of_methodNamed Bd.named
  have hnm := (name_of_methodNamed Bd.named Bd.method).1
  have X0 : Stand p l e ({ frames := 0, cells := 1, slots := 1, locals := 0 } : Room) s m #[(.int ch)] below meth c s₁ [] 0 0 := Stand.of_body Bd
  have e0 : s₁.heap = h0 := by rw [← hh, Bd.state]; rfl
  have N0 := Fr.nil n0
  show OwnG p e below (OwnE s (QRef  h0 n0) ({ frames := 0, cells := 1, slots := 1, locals := 0 } : Room).cells ({ frames := 0, cells := 1, slots := 1, locals := 0 } : Room).slots) _
  refine own_by (S' := s₁.setTop (mkF m 0 #[.val (.int ch)] [])) (fun tZ kZ => castTop (ef_rmTB m ch) kZ) ?_
  refine own_by (S' := s₁.setTop (mkF m 1 #[.val (.int ch)] [(.int (1 : Int32))])) (fun tZ kZ => XS.iconst X0.here hx rfl (hb hby d15_0) kZ) ?_
  obtain ⟨T1, h1, k1, X1, e1, E1, A1, st1⟩ := newP X0 hx hZ (hw _ (List.mem_of_getElem? (i := 87) rfl)) e0 (g := (mkF m 1 #[.val (.int ch)] [(.int (1 : Int32))])) rfl (hb hby d15_1) rfl (by decide) (cap := 1) (by decide) (by decide) (by decide) (by decide)
  obtain ⟨b1, g1⟩ : ∃ z, z = h0.size := ⟨_, rfl⟩
  rw [← g1] at A1 st1
  have g_b1 : n0 ≤ b1 := Nat.le_trans Z0 (Nat.le_of_eq g1.symm)
  have sz_b1 : h0.size ≤ b1 := Nat.le_trans (Keep.refl h0 []).1 (Nat.le_of_eq g1.symm)
  have Zs1 : n0 ≤ h1.size := Nat.le_trans Z0 E1.1
  have K1 := (Keep.refl h0 []).ext E1
  have V_b1 := OwnA.new A1
  refine own_by (S' := T1.setTop (mkF m 3 #[.val (.int ch)] [(.ref b1)])) st1 ?_
  refine own_by (S' := T1.setTop (mkF m 4 #[.val (.int ch)] [(.ref b1), (.ref b1)])) (fun tZ kZ => XS.dup X1.here hx rfl (hb hby d15_3) rfl rfl kZ) ?_
  refine own_by (S' := T1.setTop (mkF m 5 #[.val (.int ch)] [(.int (0 : Int32)), (.ref b1), (.ref b1)])) (fun tZ kZ => XS.iconst X1.here hx rfl (hb hby d15_4) kZ) ?_
  refine own_by (S' := T1.setTop (mkF m 6 #[.val (.int ch)] [(.int ch), (.int (0 : Int32)), (.ref b1), (.ref b1)])) (fun tZ kZ => XS.iloadN X1.here hx rfl (hb hby d15_5) rfl kZ) ?_
  refine own_by (S' := T1.setTop (mkF m 7 #[.val (.int ch)] [(.int (ch.toInt8.toInt32)), (.int (0 : Int32)), (.ref b1), (.ref b1)])) (fun tZ kZ => XS.i2b X1.here hx rfl (hb hby d15_6) rfl kZ) ?_
  obtain ⟨cc2, Ar2, hc2, hl2⟩ := id V_b1
  have hin2 := OwnA.inb (j := (0 : Int32)) hl2 (by decide) (Nat.le_of_ble_eq_true rfl)
  obtain ⟨T2, h2, X2, e2, W2, st2⟩ := stB X1 hx hZ e1 Ar2 (j := (0 : Int32)) hin2 (g := (mkF m 7 #[.val (.int ch)] [(.int (ch.toInt8.toInt32)), (.int (0 : Int32)), (.ref b1), (.ref b1)])) rfl rfl (hb hby d15_7)
  have N2 := Fr.snoc X2 N0 g_b1
  have Zs2 : n0 ≤ h2.size := Nat.le_trans Zs1 (Keep.of_wr W2).1
  have K2 := K1.wr W2 (Or.inr sz_b1)
  have V_b1_w2 := V_b1.set W2
  refine own_by (S' := T2.setTop (mkF m 8 #[.val (.int ch)] [(.ref b1)])) st2 ?_
  exact own_retA X2 hx Bd.returns rfl rfl (hb hby d15_8) Bd.notSynchronized (by decide) (by decide) ⟨b1, rfl, N2, by rw [e2]; exact K2⟩
theorem d16_0 : decode jdk_42_method_151_code 0 = .ok (.aload_n 0, 1) := by decide +kernel
theorem d16_1 : decode jdk_42_method_151_code 1 = .ok (.invokespecial 1, 3) := by decide +kernel
theorem d16_4 : decode jdk_42_method_151_code 4 = .ok (.aload_n 0, 1) := by decide +kernel
theorem d16_5 : decode jdk_42_method_151_code 5 = .ok (.aload_n 1, 1) := by decide +kernel
theorem d16_6 : decode jdk_42_method_151_code 6 = .ok (.putfield 9, 3) := by decide +kernel
theorem d16_9 : decode jdk_42_method_151_code 9 = .ok (.aload_n 0, 1) := by decide +kernel
theorem d16_10 : decode jdk_42_method_151_code 10 = .ok (.iload_n 2, 1) := by decide +kernel
theorem d16_11 : decode jdk_42_method_151_code 11 = .ok (.putfield 15, 3) := by decide +kernel
theorem d16_14 : decode jdk_42_method_151_code 14 = .ok (.return_, 1) := by decide +kernel
theorem pn_1 : plainName "java/lang/String" = true := by first | (simp [plainName, overriddenIn]; done) | decide +kernel
theorem ef_rmS2 (m : MethodId) (x : Addr) (y : Addr) : entryFrame m #[(.ref x), (.ref y), (.int (0 : Int32))] 3 = mkF m 0 #[.val (.ref x), .val (.ref y), .val (.int (0 : Int32))] [] := by first | (simp [entryFrame, mkF, argsToLocals, Value.category, maxLocals]; done) | rfl
set_option maxRecDepth 65536 in
set_option maxHeartbeats 40000000 in
theorem rmS2 (l : Launch) (Z : State) (a0 : Array Value) (hw : ∀ d ∈ tables_1, d.before a0 Z = true) (ws : List Jvm.Cond) (x y : Addr) (h0 : Heap) (n0 : Nat) (Z0 : n0 ≤ h0.size) (Ex_x : Exa Z h0 x "java/lang/String") (F_value_x : Fld Z h0 x "java/lang/String" "value" "[B" .null) (F_coder_x : Fld Z h0 x "java/lang/String" "coder" "B" (.int 0)) (g_x : n0 ≤ x) :
    MetFree l (⟨"java/lang/String", "<init>", "([BB)V"⟩ : MethodName) (head1 (Jvm.Cond.code (⟨"java/lang/String", "<init>", "([BB)V"⟩ : MethodName) jdk_42_method_151_code (3 : Nat) (Option.none : Option Jvm.ClassFile.FieldType) :: ws) ({ frames := 1, cells := 0, slots := 0, locals := 12 } : Room)) (fun aZ UZ => aZ = #[(.ref x), (.ref y), (.int (0 : Int32))] ∧ Z.Warmed39 UZ.vm ∧ UZ.heap = h0) (fun _ _ _ _ _ => True) (fun _ UZ oZ VZ => ∃ vZ LZ, oZ = .returned vZ ∧ (QK x h0 n0) vZ VZ.heap LZ ∧ FrameEnd UZ oZ VZ LZ ({ frames := 1, cells := 0, slots := 0, locals := 12 } : Room).cells ({ frames := 1, cells := 0, slots := 0, locals := 12 } : Room).slots) := by
  refine MetFree.of_bodySF (plainFor_of_name pn_1) hisR ?_
  intro p e s m args below meth c s₁ Bd hml0 hP hK
  obtain ⟨rfl, hZ, hh⟩ := hP
  have hx := Bd.exec
  have hby := Bd.bytes
  have hml : c.maxLocals = 3 := hml0
  have hown : s.vm.findClass "java/lang/String" = some m.cls := findClass_of_methodNamed Bd.named
  have hnm := (name_of_methodNamed Bd.named Bd.method).1
  have X0 : Stand p l e ({ frames := 1, cells := 0, slots := 0, locals := 12 } : Room) s m #[(.ref x), (.ref y), (.int (0 : Int32))] below meth c s₁ [] 0 0 := Stand.of_body Bd
  have e0 : s₁.heap = h0 := by rw [← hh, Bd.state]; rfl
  have N0 := Fr.nil n0
  show OwnG p e below (OwnE s (QK x h0 n0) ({ frames := 1, cells := 0, slots := 0, locals := 12 } : Room).cells ({ frames := 1, cells := 0, slots := 0, locals := 12 } : Room).slots) _
  refine own_by (S' := s₁.setTop (mkF m 0 #[.val (.ref x), .val (.ref y), .val (.int (0 : Int32))] [])) (fun tZ kZ => castTop (ef_rmS2 m x y) kZ) ?_
  refine own_by (S' := s₁.setTop (mkF m 1 #[.val (.ref x), .val (.ref y), .val (.int (0 : Int32))] [(.ref x)])) (fun tZ kZ => XS.aloadN X0.here hx rfl (hb hby d16_0) rfl rfl kZ) ?_
  obtain ⟨T1, X1, e1, st1⟩ := initO X0 hx hZ hown (hw _ (List.mem_of_getElem? (i := 81) rfl)) (hw _ (List.mem_of_getElem? (i := 25) rfl)) (hw _ (List.mem_of_getElem? (i := 26) rfl)) e0 (g := (mkF m 1 #[.val (.ref x), .val (.ref y), .val (.int (0 : Int32))] [(.ref x)])) rfl (by rw [hml]; rfl) rfl (hb hby d16_1) (by decide) (W := 0) (by show 2 * 0 + _ ≤ _; exact Nat.le_of_eq rfl) (by decide)
  refine own_by (S' := T1.setTop (mkF m 4 #[.val (.ref x), .val (.ref y), .val (.int (0 : Int32))] [])) st1 ?_
  refine own_by (S' := T1.setTop (mkF m 5 #[.val (.ref x), .val (.ref y), .val (.int (0 : Int32))] [(.ref x)])) (fun tZ kZ => XS.aloadN X1.here hx rfl (hb hby d16_4) rfl rfl kZ) ?_
  refine own_by (S' := T1.setTop (mkF m 6 #[.val (.ref x), .val (.ref y), .val (.int (0 : Int32))] [(.ref y), (.ref x)])) (fun tZ kZ => XS.aloadN X1.here hx rfl (hb hby d16_5) rfl rfl kZ) ?_
  obtain ⟨T2, h2, X2, e2, W2, st2⟩ := putF X1 hx hZ hown (host := "") (Or.inl (hw _ (List.mem_of_getElem? (i := 96) rfl))) Via.refl e1 F_value_x Ex_x (Or.inr ⟨(hw _ (List.mem_of_getElem? (i := 97) rfl)), rfl, hnm⟩) (hw _ (List.mem_of_getElem? (i := 72) rfl)) (ty := (.array .byte)) (by decide) rfl rfl (g := (mkF m 6 #[.val (.ref x), .val (.ref y), .val (.int (0 : Int32))] [(.ref y), (.ref x)])) rfl rfl (hb hby d16_6)
  have N2 := Fr.snoc X2 N0 g_x
  have Ex_x_2 := Ex_x.wr W2
  have F_value_x_2 := F_value_x.same W2
  have F_coder_x_2 := F_coder_x.other W2 (Or.inr (slot_ne (Or.inr (hw _ (List.mem_of_getElem? (i := 95) rfl))) (Or.inr (hw _ (List.mem_of_getElem? (i := 97) rfl))) (by decide) (t := .byte) (t' := (.array .byte)) (by decide) (by decide)))
  have Zs2 : n0 ≤ h2.size := Nat.le_trans Z0 (Keep.of_wr W2).1
  have K2 := (Keep.refl h0 [x]).wr W2 (Or.inl (List.mem_of_getElem? (i := 0) rfl))
  refine own_by (S' := T2.setTop (mkF m 9 #[.val (.ref x), .val (.ref y), .val (.int (0 : Int32))] [])) st2 ?_
  refine own_by (S' := T2.setTop (mkF m 10 #[.val (.ref x), .val (.ref y), .val (.int (0 : Int32))] [(.ref x)])) (fun tZ kZ => XS.aloadN X2.here hx rfl (hb hby d16_9) rfl rfl kZ) ?_
  refine own_by (S' := T2.setTop (mkF m 11 #[.val (.ref x), .val (.ref y), .val (.int (0 : Int32))] [(.int (0 : Int32)), (.ref x)])) (fun tZ kZ => XS.iloadN X2.here hx rfl (hb hby d16_10) rfl kZ) ?_
  obtain ⟨T3, h3, X3, e3, W3, st3⟩ := putFN X2 hx hZ hown (hw _ (List.mem_of_getElem? (i := 94) rfl)) Via.refl e2 F_coder_x_2 Ex_x_2 (Or.inr ⟨(hw _ (List.mem_of_getElem? (i := 95) rfl)), rfl, hnm⟩) (hw _ (List.mem_of_getElem? (i := 72) rfl)) (ty := .byte) (v' := (.int (0 : Int32))) (by decide) rfl rfl (g := (mkF m 11 #[.val (.ref x), .val (.ref y), .val (.int (0 : Int32))] [(.int (0 : Int32)), (.ref x)])) rfl rfl (hb hby d16_11)
  have N3 := Fr.snoc X3 N2 g_x
  have Ex_x_3 := Ex_x_2.wr W3
  have F_value_x_3 := F_value_x_2.other W3 (Or.inr (slot_ne (Or.inr (hw _ (List.mem_of_getElem? (i := 97) rfl))) (Or.inr (hw _ (List.mem_of_getElem? (i := 95) rfl))) (by decide) (t := (.array .byte)) (t' := .byte) (by decide) (by decide)))
  have F_coder_x_3 := F_coder_x_2.same W3
  have Zs3 : n0 ≤ h3.size := Nat.le_trans Zs2 (Keep.of_wr W3).1
  have K3 := K2.wr W3 (Or.inl (List.mem_of_getElem? (i := 0) rfl))
  refine own_by (S' := T3.setTop (mkF m 14 #[.val (.ref x), .val (.ref y), .val (.int (0 : Int32))] [])) st3 ?_
  exact own_ret0 X3 hx Bd.returns (hb hby d16_14) Bd.notSynchronized (by decide) (by decide) (show QK x h0 n0 none T3.heap _ from by rw [e3]; exact ⟨rfl, N3, K3⟩)
theorem d13_0 : decode jdk_42_method_139_code 0 = .ok (.getstatic 38, 3) := by decide +kernel
theorem d13_3 : decode jdk_42_method_139_code 3 = .ok (.ifCond .eq 23, 3) := by decide +kernel
theorem d13_6 : decode jdk_42_method_139_code 6 = .ok (.iload_n 0, 1) := by decide +kernel
theorem d13_7 : decode jdk_42_method_139_code 7 = .ok (.invokestatic 1015, 3) := by decide +kernel
theorem d13_10 : decode jdk_42_method_139_code 10 = .ok (.ifCond .eq 16, 3) := by decide +kernel
theorem d13_13 : decode jdk_42_method_139_code 13 = .ok (.new 10, 3) := by decide +kernel
theorem d13_16 : decode jdk_42_method_139_code 16 = .ok (.dup, 1) := by decide +kernel
theorem d13_17 : decode jdk_42_method_139_code 17 = .ok (.iload_n 0, 1) := by decide +kernel
theorem d13_18 : decode jdk_42_method_139_code 18 = .ok (.invokestatic 1018, 3) := by decide +kernel
theorem d13_21 : decode jdk_42_method_139_code 21 = .ok (.iconst 0, 1) := by decide +kernel
theorem d13_22 : decode jdk_42_method_139_code 22 = .ok (.invokespecial 209, 3) := by decide +kernel
theorem d13_25 : decode jdk_42_method_139_code 25 = .ok (.areturn, 1) := by decide +kernel
theorem d13_26 : decode jdk_42_method_139_code 26 = .ok (.new 10, 3) := by decide +kernel
theorem d13_29 : decode jdk_42_method_139_code 29 = .ok (.dup, 1) := by decide +kernel
theorem d13_30 : decode jdk_42_method_139_code 30 = .ok (.iload_n 0, 1) := by decide +kernel
theorem d13_31 : decode jdk_42_method_139_code 31 = .ok (.invokestatic 1021, 3) := by decide +kernel
theorem d13_34 : decode jdk_42_method_139_code 34 = .ok (.iconst 1, 1) := by decide +kernel
theorem d13_35 : decode jdk_42_method_139_code 35 = .ok (.invokespecial 209, 3) := by decide +kernel
theorem d13_38 : decode jdk_42_method_139_code 38 = .ok (.areturn, 1) := by decide +kernel
theorem ef_rmVo (m : MethodId) (ch : Int32) : entryFrame m #[(.int ch)] 1 = mkF m 0 #[.val (.int ch)] [] := by first | (simp [entryFrame, mkF, argsToLocals, Value.category, maxLocals]; done) | rfl
set_option maxRecDepth 65536 in
set_option maxHeartbeats 40000000 in
theorem rmVo (l : Launch) (Z : State) (a0 : Array Value) (hw : ∀ d ∈ tables_1, d.before a0 Z = true) (ws : List Jvm.Cond) (ch cz : Int32) (h0 : Heap) (n0 : Nat) (Z0 : n0 ≤ h0.size) (Sc : Sta Z h0 "java/lang/String" "COMPACT_STRINGS" "Z" (.int cz)) (hcz : ¬ cz = 0) (hch : ¬ (255 : Int32) < ch) :
    MetFree l (⟨"java/lang/String", "valueOf", "(C)Ljava/lang/String;"⟩ : MethodName) (head1 (Jvm.Cond.code (⟨"java/lang/String", "valueOf", "(C)Ljava/lang/String;"⟩ : MethodName) jdk_42_method_139_code (1 : Nat) (Option.some (Jvm.ClassFile.FieldType.object "java/lang/String")) :: ws) ({ frames := 2, cells := 2, slots := 5, locals := 27 } : Room)) (fun aZ UZ => aZ = #[(.int ch)] ∧ Z.Warmed39 UZ.vm ∧ UZ.heap = h0) (fun _ _ _ _ _ => True) (fun _ UZ oZ VZ => ∃ vZ LZ, oZ = .returned vZ ∧ (QRef  h0 n0) vZ VZ.heap LZ ∧ FrameEnd UZ oZ VZ LZ ({ frames := 2, cells := 2, slots := 5, locals := 27 } : Room).cells ({ frames := 2, cells := 2, slots := 5, locals := 27 } : Room).slots) := by
  refine MetFree.of_bodySF (plainFor_of_name pn_1) hisR ?_
  intro p e s m args below meth c s₁ Bd hml0 hP hK
  obtain ⟨rfl, hZ, hh⟩ := hP
  have hx := Bd.exec
  have hby := Bd.bytes
  have hml : c.maxLocals = 1 := hml0
  have hown : s.vm.findClass "java/lang/String" = some m.cls := findClass_of_methodNamed Bd.named
  have hnm := (name_of_methodNamed Bd.named Bd.method).1
  have X0 : Stand p l e ({ frames := 2, cells := 2, slots := 5, locals := 27 } : Room) s m #[(.int ch)] below meth c s₁ [] 0 0 := Stand.of_body Bd
  have e0 : s₁.heap = h0 := by rw [← hh, Bd.state]; rfl
  have N0 := Fr.nil n0
  show OwnG p e below (OwnE s (QRef  h0 n0) ({ frames := 2, cells := 2, slots := 5, locals := 27 } : Room).cells ({ frames := 2, cells := 2, slots := 5, locals := 27 } : Room).slots) _
  refine own_by (S' := s₁.setTop (mkF m 0 #[.val (.int ch)] [])) (fun tZ kZ => castTop (ef_rmVo m ch) kZ) ?_
  obtain ⟨T1, X1, e1, st1⟩ := getS2 X0 hx hZ hown (host := "") (Or.inl (hw _ (List.mem_of_getElem? (i := 82) rfl))) Via.refl e0 Sc (g := (mkF m 0 #[.val (.int ch)] [])) rfl (hb hby d13_0)
  refine own_by (S' := T1.setTop (mkF m 3 #[.val (.int ch)] [(.int cz)])) st1 ?_
  refine own_by (S' := T1.setTop (mkF m 6 #[.val (.int ch)] [])) (fun tZ kZ => XS.ifNo X1.here hx rfl (hb hby d13_3) rfl ((if0 _ _).trans (feq hcz).1) kZ) ?_
  refine own_by (S' := T1.setTop (mkF m 7 #[.val (.int ch)] [(.int ch)])) (fun tZ kZ => XS.iloadN X1.here hx rfl (hb hby d13_6) rfl kZ) ?_
  obtain ⟨_, _, ⟨T2, L2, k2, n2⟩, -, X2, ⟨Lc2, hQ2, l2, y2, z2⟩, st2⟩ := Jvm.LawKit.callS X1 hx (y := (⟨"java/lang/StringLatin1", "canEncode", "(C)Z"⟩ : MethodName)) hown (mvT hZ (hw _ (List.mem_of_getElem? (i := 101) rfl))) (mvT hZ (hw _ (List.mem_of_getElem? (i := 102) rfl))) (mvT hZ (hw _ (List.mem_of_getElem? (i := 103) rfl))) (mvT hZ (hw _ (List.mem_of_getElem? (i := 104) rfl))) (by decide) (backOf (W := 0) (rmCE l Z a0 hw [] ch h0 n0 Z0 hch) hZ (hw _ (List.mem_of_getElem? (i := 104) rfl)) (hw _ (List.mem_of_getElem? (i := 103) rfl)) (by decide) (by decide)) (g := (mkF m 7 #[.val (.int ch)] [(.int ch)])) rfl (by rw [hml]; rfl) (argsL := [(.int ch)]) (rest := []) (lenOf pd_0 rfl) rfl (by show 2 * 0 + _ ≤ _; exact Nat.le_of_eq rfl) (hb hby d13_7) (fun _ _ => ⟨rfl, e1, (by decide : 0 + 0 ≤ _), (by decide : 0 + 0 ≤ _)⟩)
  dsimp only [Pt.U, Pt.locs, Pt.cells, Pt.slots] at X2 l2 y2 z2 st2 hQ2
  subst l2 y2 z2
  obtain ⟨rfl, N2q, heq2⟩ := hQ2
  have N2 := Fr.app N0 N2q
  refine own_by (S' := T2.setTop (mkF m 10 #[.val (.int ch)] [(.int (1 : Int32))])) (fun tZ kZ => st2 _ kZ) ?_
  refine own_by (S' := T2.setTop (mkF m 13 #[.val (.int ch)] [])) (fun tZ kZ => XS.ifNo X2.here hx rfl (hb hby d13_10) rfl ((if0 _ _).trans (feq (by decide)).1) kZ) ?_
  obtain ⟨T3, h3, X3, e3, E3, A3, D3, U3, st3⟩ := newO X2 hx hZ hown (hw _ (List.mem_of_getElem? (i := 105) rfl)) (hw _ (List.mem_of_getElem? (i := 72) rfl)) (hw _ (List.mem_of_getElem? (i := 73) rfl)) heq2 (g := (mkF m 13 #[.val (.int ch)] [])) rfl (hb hby d13_13) (by decide) (by decide)
  obtain ⟨b3, g3⟩ : ∃ z, z = h0.size := ⟨_, rfl⟩
  rw [← g3] at A3 D3 U3 st3
  have g_b3 : n0 ≤ b3 := Nat.le_trans Z0 (Nat.le_of_eq g3.symm)
  have sz_b3 : h0.size ≤ b3 := Nat.le_trans (Keep.refl h0 []).1 (Nat.le_of_eq g3.symm)
  have Zs3 : n0 ≤ h3.size := Nat.le_trans Z0 E3.1
  have K3 := (Keep.refl h0 []).ext E3
  have Ex_b3 := A3
  have F_coder_b3 : Fld Z h3 b3 "java/lang/String" "coder" "B" (.int (0 : Int32)) := D3 (Or.inr (hw _ (List.mem_of_getElem? (i := 95) rfl))) (ty := .byte) (by decide)
  have F_value_b3 : Fld Z h3 b3 "java/lang/String" "value" "[B" .null := D3 (Or.inr (hw _ (List.mem_of_getElem? (i := 97) rfl))) (ty := (.array .byte)) (by decide)
  refine own_by (S' := T3.setTop (mkF m 16 #[.val (.int ch)] [(.ref b3)])) st3 ?_
  refine own_by (S' := T3.setTop (mkF m 17 #[.val (.int ch)] [(.ref b3), (.ref b3)])) (fun tZ kZ => XS.dup X3.here hx rfl (hb hby d13_16) rfl rfl kZ) ?_
  refine own_by (S' := T3.setTop (mkF m 18 #[.val (.int ch)] [(.int ch), (.ref b3), (.ref b3)])) (fun tZ kZ => XS.iloadN X3.here hx rfl (hb hby d13_17) rfl kZ) ?_
  obtain ⟨_, _, ⟨T4, L4, k4, n4⟩, -, X4, ⟨Lc4, hQ4, l4, y4, z4⟩, st4⟩ := Jvm.LawKit.callS X3 hx (y := (⟨"java/lang/StringLatin1", "toBytes", "(C)[B"⟩ : MethodName)) hown (mvT hZ (hw _ (List.mem_of_getElem? (i := 106) rfl))) (mvT hZ (hw _ (List.mem_of_getElem? (i := 107) rfl))) (mvT hZ (hw _ (List.mem_of_getElem? (i := 103) rfl))) (mvT hZ (hw _ (List.mem_of_getElem? (i := 108) rfl))) (by decide) (backOf (W := 2) (rmTB l Z a0 hw [] ch h3 n0 Zs3) hZ (hw _ (List.mem_of_getElem? (i := 108) rfl)) (hw _ (List.mem_of_getElem? (i := 103) rfl)) (by decide) (by decide)) (g := (mkF m 18 #[.val (.int ch)] [(.int ch), (.ref b3), (.ref b3)])) rfl (by rw [hml]; rfl) (argsL := [(.int ch)]) (rest := [(.ref b3), (.ref b3)]) (lenOf pd_1 rfl) rfl (by show 2 * 0 + _ ≤ _; exact Nat.le_of_eq rfl) (hb hby d13_18) (fun _ _ => ⟨rfl, e3, (by decide : 1 + 1 ≤ _), (by decide : 4 + 1 ≤ _)⟩)
  dsimp only [Pt.U, Pt.locs, Pt.cells, Pt.slots] at X4 l4 y4 z4 st4 hQ4
  subst l4 y4 z4
  obtain ⟨bb, rfl, N4q, Kc4⟩ := hQ4
  have N4 := Fr.app N2 N4q
  have Zs4 := Nat.le_trans Zs3 Kc4.1
  have Ec4 := own_ext0 Kc4
  have K4 := K3.ext Ec4
  have Ex_b3_4 := Ex_b3.ext Ec4
  have F_coder_b3_4 := F_coder_b3.ext Ec4
  have F_value_b3_4 := F_value_b3.ext Ec4
  refine own_by (S' := T4.setTop (mkF m 21 #[.val (.int ch)] [(.ref bb), (.ref b3), (.ref b3)])) (fun tZ kZ => st4 _ kZ) ?_
  refine own_by (S' := T4.setTop (mkF m 22 #[.val (.int ch)] [(.int (0 : Int32)), (.ref bb), (.ref b3), (.ref b3)])) (fun tZ kZ => XS.iconst X4.here hx rfl (hb hby d13_21) kZ) ?_
  obtain ⟨_, _, ⟨T5, L5, k5, n5⟩, -, X5, ⟨Lc5, hQ5, l5, y5, z5⟩, st5⟩ := X4.specialBack hx (y := (⟨"java/lang/String", "<init>", "([BB)V"⟩ : MethodName)) rfl hown (mvT hZ (hw _ (List.mem_of_getElem? (i := 109) rfl))) (mvT hZ (hw _ (List.mem_of_getElem? (i := 110) rfl))) (mvT hZ (hw _ (List.mem_of_getElem? (i := 111) rfl))) (by decide) (backOf (W := 1) (rmS2 l Z a0 hw [] b3 bb T4.heap n0 Zs4 Ex_b3_4 F_value_b3_4 F_coder_b3_4 g_b3) hZ (hw _ (List.mem_of_getElem? (i := 111) rfl)) (hw _ (List.mem_of_getElem? (i := 73) rfl)) (by decide) (by decide)) (g := (mkF m 22 #[.val (.int ch)] [(.int (0 : Int32)), (.ref bb), (.ref b3), (.ref b3)])) rfl (by rw [hml]; rfl) (Steps.refl _) (a := b3) (argsL := [(.ref bb), (.int (0 : Int32))]) (rest := [(.ref b3)]) (lenOf pd_2 rfl) rfl (by show 2 * 0 + _ ≤ _; exact Nat.le_of_eq rfl) (hb hby d13_22) (fun _ _ => ⟨rfl, rfl, (by decide : 2 + 0 ≤ _), (by decide : 5 + 0 ≤ _)⟩)
  dsimp only [Pt.U, Pt.locs, Pt.cells, Pt.slots] at X5 l5 y5 z5 st5 hQ5
  subst l5 y5 z5
  obtain ⟨rfl, N5q, Kc5⟩ := hQ5
  have N5 := Fr.app N4 N5q
  have Zs5 := Nat.le_trans Zs4 Kc5.1
  have K5 := K4.trans Kc5 (fun x hx => by
      simp only [List.mem_cons, List.not_mem_nil, or_false] at hx
      rcases hx with rfl
      · exact Or.inr sz_b3)
  have Ex_b3_5 := Ex_b3_4.keep Kc5
  refine own_by (S' := T5.setTop (mkF m 25 #[.val (.int ch)] [(.ref b3)])) (fun tZ kZ => st5.trans kZ) ?_
  exact own_retA X5 hx Bd.returns rfl rfl (hb hby d13_25) Bd.notSynchronized (by decide) (by decide) ⟨b3, rfl, N5, K5⟩
theorem d11_0 : decode jdk_52_method_21_code 0 = .ok (.iconst 0, 1) := by decide +kernel
theorem d11_1 : decode jdk_52_method_21_code 1 = .ok (.istore 5, 2) := by decide +kernel
theorem d11_3 : decode jdk_52_method_21_code 3 = .ok (.iload 5, 2) := by decide +kernel
theorem d11_5 : decode jdk_52_method_21_code 5 = .ok (.iload 4, 2) := by decide +kernel
theorem d11_7 : decode jdk_52_method_21_code 7 = .ok (.if_icmp .ge 37, 3) := by decide +kernel
theorem d11_10 : decode jdk_52_method_21_code 10 = .ok (.aload_n 0, 1) := by decide +kernel
theorem d11_11 : decode jdk_52_method_21_code 11 = .ok (.iload_n 1, 1) := by decide +kernel
theorem d11_12 : decode jdk_52_method_21_code 12 = .ok (.caload, 1) := by decide +kernel
theorem d11_13 : decode jdk_52_method_21_code 13 = .ok (.istore 6, 2) := by decide +kernel
theorem d11_15 : decode jdk_52_method_21_code 15 = .ok (.iload 6, 2) := by decide +kernel
theorem d11_17 : decode jdk_52_method_21_code 17 = .ok (.sipush 255, 3) := by decide +kernel
theorem d11_20 : decode jdk_52_method_21_code 20 = .ok (.if_icmp .le 6, 3) := by decide +kernel
theorem d11_23 : decode jdk_52_method_21_code 23 = .ok (.iload 5, 2) := by decide +kernel
theorem d11_25 : decode jdk_52_method_21_code 25 = .ok (.ireturn, 1) := by decide +kernel
theorem d11_26 : decode jdk_52_method_21_code 26 = .ok (.aload_n 2, 1) := by decide +kernel
theorem d11_27 : decode jdk_52_method_21_code 27 = .ok (.iload_n 3, 1) := by decide +kernel
theorem d11_28 : decode jdk_52_method_21_code 28 = .ok (.iload 6, 2) := by decide +kernel
theorem d11_30 : decode jdk_52_method_21_code 30 = .ok (.i2b, 1) := by decide +kernel
theorem d11_31 : decode jdk_52_method_21_code 31 = .ok (.bastore, 1) := by decide +kernel
theorem d11_32 : decode jdk_52_method_21_code 32 = .ok (.iinc 1 1, 3) := by decide +kernel
theorem d11_35 : decode jdk_52_method_21_code 35 = .ok (.iinc 3 1, 3) := by decide +kernel
theorem d11_38 : decode jdk_52_method_21_code 38 = .ok (.iinc 5 1, 3) := by decide +kernel
theorem d11_41 : decode jdk_52_method_21_code 41 = .ok (.goto (-38), 3) := by decide +kernel
theorem d11_44 : decode jdk_52_method_21_code 44 = .ok (.iload 4, 2) := by decide +kernel
theorem d11_46 : decode jdk_52_method_21_code 46 = .ok (.ireturn, 1) := by decide +kernel
theorem pn_2 : plainName "java/lang/StringUTF16" = true := by first | (simp [plainName, overriddenIn]; done) | decide +kernel
theorem ef_rmC5 (m : MethodId) (src : Addr) (d : Addr) : entryFrame m #[(.ref src), (.int (0 : Int32)), (.ref d), (.int (0 : Int32)), (.int (3 : Int32))] 7 = mkF m 0 #[.val (.ref src), .val (.int (0 : Int32)), .val (.ref d), .val (.int (0 : Int32)), .val (.int (3 : Int32)), .unset, .unset] [] := by first | (simp [entryFrame, mkF, argsToLocals, Value.category, maxLocals]; done) | rfl
set_option maxRecDepth 65536 in
set_option maxHeartbeats 40000000 in
theorem rmC5 (l : Launch) (Z : State) (a0 : Array Value) (hw : ∀ d ∈ tables_1, d.before a0 Z = true) (ws : List Jvm.Cond) (src : Addr) (ks : ClassId) (ca cb cc : Int32) (d : Addr) (kd : ClassId) (ws_ : List Value) (h0 : Heap) (n0 : Nat) (Z0 : n0 ≤ h0.size) (V_src : OwnA Z h0 src ks .char [.int ca, .int cb, .int cc]) (ha : ¬ (255 : Int32) < ca) (hb_ : ¬ (255 : Int32) < cb) (hc_ : ¬ (255 : Int32) < cc) (V_d : OwnA Z h0 d kd .byte ws_) (hlw : ws_.length = 3) (n_sd : src ≠ d) (g_d : n0 ≤ d) :
    MetFree l (⟨"java/lang/StringUTF16", "compress", "([CI[BII)I"⟩ : MethodName) (head1 (Jvm.Cond.code (⟨"java/lang/StringUTF16", "compress", "([CI[BII)I"⟩ : MethodName) jdk_52_method_21_code (7 : Nat) (Option.some Jvm.ClassFile.FieldType.int) :: ws) ({ frames := 0, cells := 0, slots := 0, locals := 0 } : Room)) (fun aZ UZ => aZ = #[(.ref src), (.int (0 : Int32)), (.ref d), (.int (0 : Int32)), (.int (3 : Int32))] ∧ Z.Warmed39 UZ.vm ∧ UZ.heap = h0) (fun _ _ _ _ _ => True) (fun _ UZ oZ VZ => ∃ vZ LZ, oZ = .returned vZ ∧ (QC5 Z d kd h0 n0) vZ VZ.heap LZ ∧ FrameEnd UZ oZ VZ LZ ({ frames := 0, cells := 0, slots := 0, locals := 0 } : Room).cells ({ frames := 0, cells := 0, slots := 0, locals := 0 } : Room).slots) := by
  refine MetFree.of_bodySF (plainFor_of_name pn_2) hisR ?_
  intro p e s m args below meth c s₁ Bd hml0 hP hK
  obtain ⟨rfl, hZ, hh⟩ := hP
  have hx := Bd.exec
  have hby := Bd.bytes
  have hml : c.maxLocals = 7 := hml0
  have hown : s.vm.findClass "java/lang/StringUTF16" = some m.cls := findClass_of_methodNamed Bd.named
  have hnm := (name_of_methodNamed Bd.named Bd.method).1
  have X0 : Stand p l e ({ frames := 0, cells := 0, slots := 0, locals := 0 } : Room) s m #[(.ref src), (.int (0 : Int32)), (.ref d), (.int (0 : Int32)), (.int (3 : Int32))] below meth c s₁ [] 0 0 := Stand.of_body Bd
  have e0 : s₁.heap = h0 := by rw [← hh, Bd.state]; rfl
  have N0 := Fr.nil n0
  show OwnG p e below (OwnE s (QC5 Z d kd h0 n0) ({ frames := 0, cells := 0, slots := 0, locals := 0 } : Room).cells ({ frames := 0, cells := 0, slots := 0, locals := 0 } : Room).slots) _
  refine own_by (S' := s₁.setTop (mkF m 0 #[.val (.ref src), .val (.int (0 : Int32)), .val (.ref d), .val (.int (0 : Int32)), .val (.int (3 : Int32)), .unset, .unset] [])) (fun tZ kZ => castTop (ef_rmC5 m src d) kZ) ?_
  refine own_by (S' := s₁.setTop (mkF m 1 #[.val (.ref src), .val (.int (0 : Int32)), .val (.ref d), .val (.int (0 : Int32)), .val (.int (3 : Int32)), .unset, .unset] [(.int (0 : Int32))])) (fun tZ kZ => XS.iconst X0.here hx rfl (hb hby d11_0) kZ) ?_
  refine own_by (S' := s₁.setTop (mkF m 3 #[.val (.ref src), .val (.int (0 : Int32)), .val (.ref d), .val (.int (0 : Int32)), .val (.int (3 : Int32)), .val (.int (0 : Int32)), .unset] [])) (fun tZ kZ => XS.istore X0.here hx rfl (hb hby d11_1) rfl (l' := #[.val (.ref src), .val (.int (0 : Int32)), .val (.ref d), .val (.int (0 : Int32)), .val (.int (3 : Int32)), .val (.int (0 : Int32)), .unset]) rfl kZ) ?_
  refine own_by (S' := s₁.setTop (mkF m 5 #[.val (.ref src), .val (.int (0 : Int32)), .val (.ref d), .val (.int (0 : Int32)), .val (.int (3 : Int32)), .val (.int (0 : Int32)), .unset] [(.int (0 : Int32))])) (fun tZ kZ => XS.iload X0.here hx rfl (hb hby d11_3) rfl kZ) ?_
  refine own_by (S' := s₁.setTop (mkF m 7 #[.val (.ref src), .val (.int (0 : Int32)), .val (.ref d), .val (.int (0 : Int32)), .val (.int (3 : Int32)), .val (.int (0 : Int32)), .unset] [(.int (3 : Int32)), (.int (0 : Int32))])) (fun tZ kZ => XS.iload X0.here hx rfl (hb hby d11_5) rfl kZ) ?_
  refine own_by (S' := s₁.setTop (mkF m 10 #[.val (.ref src), .val (.int (0 : Int32)), .val (.ref d), .val (.int (0 : Int32)), .val (.int (3 : Int32)), .val (.int (0 : Int32)), .unset] [])) (fun tZ kZ => XS.icmpNo X0.here hx rfl (hb hby d11_7) rfl (tlt (by decide)).2.1 kZ) ?_
  refine own_by (S' := s₁.setTop (mkF m 11 #[.val (.ref src), .val (.int (0 : Int32)), .val (.ref d), .val (.int (0 : Int32)), .val (.int (3 : Int32)), .val (.int (0 : Int32)), .unset] [(.ref src)])) (fun tZ kZ => XS.aloadN X0.here hx rfl (hb hby d11_10) rfl rfl kZ) ?_
  refine own_by (S' := s₁.setTop (mkF m 12 #[.val (.ref src), .val (.int (0 : Int32)), .val (.ref d), .val (.int (0 : Int32)), .val (.int (3 : Int32)), .val (.int (0 : Int32)), .unset] [(.int (0 : Int32)), (.ref src)])) (fun tZ kZ => XS.iloadN X0.here hx rfl (hb hby d11_11) rfl kZ) ?_
  obtain ⟨cc1, Ar1, hc1, hl1⟩ := id V_src
  refine own_by (S' := s₁.setTop (mkF m 13 #[.val (.ref src), .val (.int (0 : Int32)), .val (.ref d), .val (.int (0 : Int32)), .val (.int (3 : Int32)), .val (.int (0 : Int32)), .unset] [(.int ca)])) (fun tZ kZ => X0.caload hx (j := (0 : Int32)) (v := (.int ca)) (by rw [e0]; exact Ar1.1) (State.isArrayOf_alike hZ.alike Ar1.2.1) Ar1.2.2 (OwnA.inb (j := (0 : Int32)) hl1 (by decide) (Nat.le_of_ble_eq_true rfl)) (OwnA.at (j := (0 : Int32)) hl1 rfl) (g := (mkF m 12 #[.val (.ref src), .val (.int (0 : Int32)), .val (.ref d), .val (.int (0 : Int32)), .val (.int (3 : Int32)), .val (.int (0 : Int32)), .unset] [(.int (0 : Int32)), (.ref src)])) rfl rfl (hb hby d11_12) _ kZ) ?_
  refine own_by (S' := s₁.setTop (mkF m 15 #[.val (.ref src), .val (.int (0 : Int32)), .val (.ref d), .val (.int (0 : Int32)), .val (.int (3 : Int32)), .val (.int (0 : Int32)), .val (.int ca)] [])) (fun tZ kZ => XS.istore X0.here hx rfl (hb hby d11_13) rfl (l' := #[.val (.ref src), .val (.int (0 : Int32)), .val (.ref d), .val (.int (0 : Int32)), .val (.int (3 : Int32)), .val (.int (0 : Int32)), .val (.int ca)]) rfl kZ) ?_
  refine own_by (S' := s₁.setTop (mkF m 17 #[.val (.ref src), .val (.int (0 : Int32)), .val (.ref d), .val (.int (0 : Int32)), .val (.int (3 : Int32)), .val (.int (0 : Int32)), .val (.int ca)] [(.int ca)])) (fun tZ kZ => XS.iload X0.here hx rfl (hb hby d11_15) rfl kZ) ?_
  refine own_by (S' := s₁.setTop (mkF m 20 #[.val (.ref src), .val (.int (0 : Int32)), .val (.ref d), .val (.int (0 : Int32)), .val (.int (3 : Int32)), .val (.int (0 : Int32)), .val (.int ca)] [(.int (255 : Int32)), (.int ca)])) (fun tZ kZ => XS.sipush X0.here hx rfl (hb hby d11_17) kZ) ?_
  refine own_by (S' := s₁.setTop (mkF m 26 #[.val (.ref src), .val (.int (0 : Int32)), .val (.ref d), .val (.int (0 : Int32)), .val (.int (3 : Int32)), .val (.int (0 : Int32)), .val (.int ca)] [])) (fun tZ kZ => XS.icmpYes X0.here hx rfl (pc0 := 20) (pc' := 26) rfl (hb hby d11_20) rfl (flt ha).2.2.2 (by decide) (by decide) kZ) ?_
  refine own_by (S' := s₁.setTop (mkF m 27 #[.val (.ref src), .val (.int (0 : Int32)), .val (.ref d), .val (.int (0 : Int32)), .val (.int (3 : Int32)), .val (.int (0 : Int32)), .val (.int ca)] [(.ref d)])) (fun tZ kZ => XS.aloadN X0.here hx rfl (hb hby d11_26) rfl rfl kZ) ?_
  refine own_by (S' := s₁.setTop (mkF m 28 #[.val (.ref src), .val (.int (0 : Int32)), .val (.ref d), .val (.int (0 : Int32)), .val (.int (3 : Int32)), .val (.int (0 : Int32)), .val (.int ca)] [(.int (0 : Int32)), (.ref d)])) (fun tZ kZ => XS.iloadN X0.here hx rfl (hb hby d11_27) rfl kZ) ?_
  refine own_by (S' := s₁.setTop (mkF m 30 #[.val (.ref src), .val (.int (0 : Int32)), .val (.ref d), .val (.int (0 : Int32)), .val (.int (3 : Int32)), .val (.int (0 : Int32)), .val (.int ca)] [(.int ca), (.int (0 : Int32)), (.ref d)])) (fun tZ kZ => XS.iload X0.here hx rfl (hb hby d11_28) rfl kZ) ?_
  refine own_by (S' := s₁.setTop (mkF m 31 #[.val (.ref src), .val (.int (0 : Int32)), .val (.ref d), .val (.int (0 : Int32)), .val (.int (3 : Int32)), .val (.int (0 : Int32)), .val (.int ca)] [(.int (ca.toInt8.toInt32)), (.int (0 : Int32)), (.ref d)])) (fun tZ kZ => XS.i2b X0.here hx rfl (hb hby d11_30) rfl kZ) ?_
  obtain ⟨cc2, Ar2, hc2, hl2⟩ := id V_d
  have hin2 := OwnA.inb (j := (0 : Int32)) hl2 (by decide) (by simp only [List.length_set, hlw]; decide)
  obtain ⟨T2, h2, X2, e2, W2, st2⟩ := stB X0 hx hZ e0 Ar2 (j := (0 : Int32)) hin2 (g := (mkF m 31 #[.val (.ref src), .val (.int (0 : Int32)), .val (.ref d), .val (.int (0 : Int32)), .val (.int (3 : Int32)), .val (.int (0 : Int32)), .val (.int ca)] [(.int (ca.toInt8.toInt32)), (.int (0 : Int32)), (.ref d)])) rfl rfl (hb hby d11_31)
  have N2 := Fr.snoc X2 N0 g_d
  have V_src_2 := V_src.other W2 n_sd
  have Zs2 : n0 ≤ h2.size := Nat.le_trans Z0 (Keep.of_wr W2).1
  have K2 := (Keep.refl h0 [d]).wr W2 (Or.inl (List.mem_of_getElem? (i := 0) rfl))
  have V_d_w2 := V_d.set W2
  refine own_by (S' := T2.setTop (mkF m 32 #[.val (.ref src), .val (.int (0 : Int32)), .val (.ref d), .val (.int (0 : Int32)), .val (.int (3 : Int32)), .val (.int (0 : Int32)), .val (.int ca)] [])) st2 ?_
  refine own_by (S' := T2.setTop (mkF m 35 #[.val (.ref src), .val (.int ((0 : Int32) + (1 : Int32))), .val (.ref d), .val (.int (0 : Int32)), .val (.int (3 : Int32)), .val (.int (0 : Int32)), .val (.int ca)] [])) (fun tZ kZ => XS.iinc X2.here hx rfl (hb hby d11_32) rfl (l' := #[.val (.ref src), .val (.int ((0 : Int32) + (1 : Int32))), .val (.ref d), .val (.int (0 : Int32)), .val (.int (3 : Int32)), .val (.int (0 : Int32)), .val (.int ca)]) rfl kZ) ?_
  refine own_by (S' := T2.setTop (mkF m 38 #[.val (.ref src), .val (.int ((0 : Int32) + (1 : Int32))), .val (.ref d), .val (.int ((0 : Int32) + (1 : Int32))), .val (.int (3 : Int32)), .val (.int (0 : Int32)), .val (.int ca)] [])) (fun tZ kZ => XS.iinc X2.here hx rfl (hb hby d11_35) rfl (l' := #[.val (.ref src), .val (.int ((0 : Int32) + (1 : Int32))), .val (.ref d), .val (.int ((0 : Int32) + (1 : Int32))), .val (.int (3 : Int32)), .val (.int (0 : Int32)), .val (.int ca)]) rfl kZ) ?_
  refine own_by (S' := T2.setTop (mkF m 41 #[.val (.ref src), .val (.int ((0 : Int32) + (1 : Int32))), .val (.ref d), .val (.int ((0 : Int32) + (1 : Int32))), .val (.int (3 : Int32)), .val (.int ((0 : Int32) + (1 : Int32))), .val (.int ca)] [])) (fun tZ kZ => XS.iinc X2.here hx rfl (hb hby d11_38) rfl (l' := #[.val (.ref src), .val (.int ((0 : Int32) + (1 : Int32))), .val (.ref d), .val (.int ((0 : Int32) + (1 : Int32))), .val (.int (3 : Int32)), .val (.int ((0 : Int32) + (1 : Int32))), .val (.int ca)]) rfl kZ) ?_
  refine own_by (S' := T2.setTop (mkF m 3 #[.val (.ref src), .val (.int ((0 : Int32) + (1 : Int32))), .val (.ref d), .val (.int ((0 : Int32) + (1 : Int32))), .val (.int (3 : Int32)), .val (.int ((0 : Int32) + (1 : Int32))), .val (.int ca)] [])) (fun tZ kZ => XS.goto X2.here hx rfl (pc0 := 41) (pc' := 3) rfl (hb hby d11_41) (by decide) (by decide) kZ) ?_
  refine own_by (S' := T2.setTop (mkF m 5 #[.val (.ref src), .val (.int ((0 : Int32) + (1 : Int32))), .val (.ref d), .val (.int ((0 : Int32) + (1 : Int32))), .val (.int (3 : Int32)), .val (.int ((0 : Int32) + (1 : Int32))), .val (.int ca)] [(.int ((0 : Int32) + (1 : Int32)))])) (fun tZ kZ => XS.iload X2.here hx rfl (hb hby d11_3) rfl kZ) ?_
  refine own_by (S' := T2.setTop (mkF m 7 #[.val (.ref src), .val (.int ((0 : Int32) + (1 : Int32))), .val (.ref d), .val (.int ((0 : Int32) + (1 : Int32))), .val (.int (3 : Int32)), .val (.int ((0 : Int32) + (1 : Int32))), .val (.int ca)] [(.int (3 : Int32)), (.int ((0 : Int32) + (1 : Int32)))])) (fun tZ kZ => XS.iload X2.here hx rfl (hb hby d11_5) rfl kZ) ?_
  refine own_by (S' := T2.setTop (mkF m 10 #[.val (.ref src), .val (.int ((0 : Int32) + (1 : Int32))), .val (.ref d), .val (.int ((0 : Int32) + (1 : Int32))), .val (.int (3 : Int32)), .val (.int ((0 : Int32) + (1 : Int32))), .val (.int ca)] [])) (fun tZ kZ => XS.icmpNo X2.here hx rfl (hb hby d11_7) rfl (tlt (by decide)).2.1 kZ) ?_
  refine own_by (S' := T2.setTop (mkF m 11 #[.val (.ref src), .val (.int ((0 : Int32) + (1 : Int32))), .val (.ref d), .val (.int ((0 : Int32) + (1 : Int32))), .val (.int (3 : Int32)), .val (.int ((0 : Int32) + (1 : Int32))), .val (.int ca)] [(.ref src)])) (fun tZ kZ => XS.aloadN X2.here hx rfl (hb hby d11_10) rfl rfl kZ) ?_
  refine own_by (S' := T2.setTop (mkF m 12 #[.val (.ref src), .val (.int ((0 : Int32) + (1 : Int32))), .val (.ref d), .val (.int ((0 : Int32) + (1 : Int32))), .val (.int (3 : Int32)), .val (.int ((0 : Int32) + (1 : Int32))), .val (.int ca)] [(.int ((0 : Int32) + (1 : Int32))), (.ref src)])) (fun tZ kZ => XS.iloadN X2.here hx rfl (hb hby d11_11) rfl kZ) ?_
  obtain ⟨cc3, Ar3, hc3, hl3⟩ := id V_src_2
  refine own_by (S' := T2.setTop (mkF m 13 #[.val (.ref src), .val (.int ((0 : Int32) + (1 : Int32))), .val (.ref d), .val (.int ((0 : Int32) + (1 : Int32))), .val (.int (3 : Int32)), .val (.int ((0 : Int32) + (1 : Int32))), .val (.int ca)] [(.int cb)])) (fun tZ kZ => X2.caload hx (j := ((0 : Int32) + (1 : Int32))) (v := (.int cb)) (by rw [e2]; exact Ar3.1) (State.isArrayOf_alike hZ.alike Ar3.2.1) Ar3.2.2 (OwnA.inb (j := ((0 : Int32) + (1 : Int32))) hl3 (by decide) (Nat.le_of_ble_eq_true rfl)) (OwnA.at (j := ((0 : Int32) + (1 : Int32))) hl3 rfl) (g := (mkF m 12 #[.val (.ref src), .val (.int ((0 : Int32) + (1 : Int32))), .val (.ref d), .val (.int ((0 : Int32) + (1 : Int32))), .val (.int (3 : Int32)), .val (.int ((0 : Int32) + (1 : Int32))), .val (.int ca)] [(.int ((0 : Int32) + (1 : Int32))), (.ref src)])) rfl rfl (hb hby d11_12) _ kZ) ?_
  refine own_by (S' := T2.setTop (mkF m 15 #[.val (.ref src), .val (.int ((0 : Int32) + (1 : Int32))), .val (.ref d), .val (.int ((0 : Int32) + (1 : Int32))), .val (.int (3 : Int32)), .val (.int ((0 : Int32) + (1 : Int32))), .val (.int cb)] [])) (fun tZ kZ => XS.istore X2.here hx rfl (hb hby d11_13) rfl (l' := #[.val (.ref src), .val (.int ((0 : Int32) + (1 : Int32))), .val (.ref d), .val (.int ((0 : Int32) + (1 : Int32))), .val (.int (3 : Int32)), .val (.int ((0 : Int32) + (1 : Int32))), .val (.int cb)]) rfl kZ) ?_
  refine own_by (S' := T2.setTop (mkF m 17 #[.val (.ref src), .val (.int ((0 : Int32) + (1 : Int32))), .val (.ref d), .val (.int ((0 : Int32) + (1 : Int32))), .val (.int (3 : Int32)), .val (.int ((0 : Int32) + (1 : Int32))), .val (.int cb)] [(.int cb)])) (fun tZ kZ => XS.iload X2.here hx rfl (hb hby d11_15) rfl kZ) ?_
  refine own_by (S' := T2.setTop (mkF m 20 #[.val (.ref src), .val (.int ((0 : Int32) + (1 : Int32))), .val (.ref d), .val (.int ((0 : Int32) + (1 : Int32))), .val (.int (3 : Int32)), .val (.int ((0 : Int32) + (1 : Int32))), .val (.int cb)] [(.int (255 : Int32)), (.int cb)])) (fun tZ kZ => XS.sipush X2.here hx rfl (hb hby d11_17) kZ) ?_
  refine own_by (S' := T2.setTop (mkF m 26 #[.val (.ref src), .val (.int ((0 : Int32) + (1 : Int32))), .val (.ref d), .val (.int ((0 : Int32) + (1 : Int32))), .val (.int (3 : Int32)), .val (.int ((0 : Int32) + (1 : Int32))), .val (.int cb)] [])) (fun tZ kZ => XS.icmpYes X2.here hx rfl (pc0 := 20) (pc' := 26) rfl (hb hby d11_20) rfl (flt hb_).2.2.2 (by decide) (by decide) kZ) ?_
  refine own_by (S' := T2.setTop (mkF m 27 #[.val (.ref src), .val (.int ((0 : Int32) + (1 : Int32))), .val (.ref d), .val (.int ((0 : Int32) + (1 : Int32))), .val (.int (3 : Int32)), .val (.int ((0 : Int32) + (1 : Int32))), .val (.int cb)] [(.ref d)])) (fun tZ kZ => XS.aloadN X2.here hx rfl (hb hby d11_26) rfl rfl kZ) ?_
  refine own_by (S' := T2.setTop (mkF m 28 #[.val (.ref src), .val (.int ((0 : Int32) + (1 : Int32))), .val (.ref d), .val (.int ((0 : Int32) + (1 : Int32))), .val (.int (3 : Int32)), .val (.int ((0 : Int32) + (1 : Int32))), .val (.int cb)] [(.int ((0 : Int32) + (1 : Int32))), (.ref d)])) (fun tZ kZ => XS.iloadN X2.here hx rfl (hb hby d11_27) rfl kZ) ?_
  refine own_by (S' := T2.setTop (mkF m 30 #[.val (.ref src), .val (.int ((0 : Int32) + (1 : Int32))), .val (.ref d), .val (.int ((0 : Int32) + (1 : Int32))), .val (.int (3 : Int32)), .val (.int ((0 : Int32) + (1 : Int32))), .val (.int cb)] [(.int cb), (.int ((0 : Int32) + (1 : Int32))), (.ref d)])) (fun tZ kZ => XS.iload X2.here hx rfl (hb hby d11_28) rfl kZ) ?_
  refine own_by (S' := T2.setTop (mkF m 31 #[.val (.ref src), .val (.int ((0 : Int32) + (1 : Int32))), .val (.ref d), .val (.int ((0 : Int32) + (1 : Int32))), .val (.int (3 : Int32)), .val (.int ((0 : Int32) + (1 : Int32))), .val (.int cb)] [(.int (cb.toInt8.toInt32)), (.int ((0 : Int32) + (1 : Int32))), (.ref d)])) (fun tZ kZ => XS.i2b X2.here hx rfl (hb hby d11_30) rfl kZ) ?_
  obtain ⟨cc4, Ar4, hc4, hl4⟩ := id V_d_w2
  have hin4 := OwnA.inb (j := ((0 : Int32) + (1 : Int32))) hl4 (by decide) (by simp only [List.length_set, hlw]; decide)
  obtain ⟨T4, h4, X4, e4, W4, st4⟩ := stB X2 hx hZ e2 Ar4 (j := ((0 : Int32) + (1 : Int32))) hin4 (g := (mkF m 31 #[.val (.ref src), .val (.int ((0 : Int32) + (1 : Int32))), .val (.ref d), .val (.int ((0 : Int32) + (1 : Int32))), .val (.int (3 : Int32)), .val (.int ((0 : Int32) + (1 : Int32))), .val (.int cb)] [(.int (cb.toInt8.toInt32)), (.int ((0 : Int32) + (1 : Int32))), (.ref d)])) rfl rfl (hb hby d11_31)
  have N4 := Fr.snoc X4 N2 g_d
  have V_src_4 := V_src_2.other W4 n_sd
  have Zs4 : n0 ≤ h4.size := Nat.le_trans Zs2 (Keep.of_wr W4).1
  have K4 := K2.wr W4 (Or.inl (List.mem_of_getElem? (i := 0) rfl))
  have V_d_w4 := V_d_w2.set W4
  refine own_by (S' := T4.setTop (mkF m 32 #[.val (.ref src), .val (.int ((0 : Int32) + (1 : Int32))), .val (.ref d), .val (.int ((0 : Int32) + (1 : Int32))), .val (.int (3 : Int32)), .val (.int ((0 : Int32) + (1 : Int32))), .val (.int cb)] [])) st4 ?_
  refine own_by (S' := T4.setTop (mkF m 35 #[.val (.ref src), .val (.int (((0 : Int32) + (1 : Int32)) + (1 : Int32))), .val (.ref d), .val (.int ((0 : Int32) + (1 : Int32))), .val (.int (3 : Int32)), .val (.int ((0 : Int32) + (1 : Int32))), .val (.int cb)] [])) (fun tZ kZ => XS.iinc X4.here hx rfl (hb hby d11_32) rfl (l' := #[.val (.ref src), .val (.int (((0 : Int32) + (1 : Int32)) + (1 : Int32))), .val (.ref d), .val (.int ((0 : Int32) + (1 : Int32))), .val (.int (3 : Int32)), .val (.int ((0 : Int32) + (1 : Int32))), .val (.int cb)]) rfl kZ) ?_
  refine own_by (S' := T4.setTop (mkF m 38 #[.val (.ref src), .val (.int (((0 : Int32) + (1 : Int32)) + (1 : Int32))), .val (.ref d), .val (.int (((0 : Int32) + (1 : Int32)) + (1 : Int32))), .val (.int (3 : Int32)), .val (.int ((0 : Int32) + (1 : Int32))), .val (.int cb)] [])) (fun tZ kZ => XS.iinc X4.here hx rfl (hb hby d11_35) rfl (l' := #[.val (.ref src), .val (.int (((0 : Int32) + (1 : Int32)) + (1 : Int32))), .val (.ref d), .val (.int (((0 : Int32) + (1 : Int32)) + (1 : Int32))), .val (.int (3 : Int32)), .val (.int ((0 : Int32) + (1 : Int32))), .val (.int cb)]) rfl kZ) ?_
  refine own_by (S' := T4.setTop (mkF m 41 #[.val (.ref src), .val (.int (((0 : Int32) + (1 : Int32)) + (1 : Int32))), .val (.ref d), .val (.int (((0 : Int32) + (1 : Int32)) + (1 : Int32))), .val (.int (3 : Int32)), .val (.int (((0 : Int32) + (1 : Int32)) + (1 : Int32))), .val (.int cb)] [])) (fun tZ kZ => XS.iinc X4.here hx rfl (hb hby d11_38) rfl (l' := #[.val (.ref src), .val (.int (((0 : Int32) + (1 : Int32)) + (1 : Int32))), .val (.ref d), .val (.int (((0 : Int32) + (1 : Int32)) + (1 : Int32))), .val (.int (3 : Int32)), .val (.int (((0 : Int32) + (1 : Int32)) + (1 : Int32))), .val (.int cb)]) rfl kZ) ?_
  refine own_by (S' := T4.setTop (mkF m 3 #[.val (.ref src), .val (.int (((0 : Int32) + (1 : Int32)) + (1 : Int32))), .val (.ref d), .val (.int (((0 : Int32) + (1 : Int32)) + (1 : Int32))), .val (.int (3 : Int32)), .val (.int (((0 : Int32) + (1 : Int32)) + (1 : Int32))), .val (.int cb)] [])) (fun tZ kZ => XS.goto X4.here hx rfl (pc0 := 41) (pc' := 3) rfl (hb hby d11_41) (by decide) (by decide) kZ) ?_
  refine own_by (S' := T4.setTop (mkF m 5 #[.val (.ref src), .val (.int (((0 : Int32) + (1 : Int32)) + (1 : Int32))), .val (.ref d), .val (.int (((0 : Int32) + (1 : Int32)) + (1 : Int32))), .val (.int (3 : Int32)), .val (.int (((0 : Int32) + (1 : Int32)) + (1 : Int32))), .val (.int cb)] [(.int (((0 : Int32) + (1 : Int32)) + (1 : Int32)))])) (fun tZ kZ => XS.iload X4.here hx rfl (hb hby d11_3) rfl kZ) ?_
  refine own_by (S' := T4.setTop (mkF m 7 #[.val (.ref src), .val (.int (((0 : Int32) + (1 : Int32)) + (1 : Int32))), .val (.ref d), .val (.int (((0 : Int32) + (1 : Int32)) + (1 : Int32))), .val (.int (3 : Int32)), .val (.int (((0 : Int32) + (1 : Int32)) + (1 : Int32))), .val (.int cb)] [(.int (3 : Int32)), (.int (((0 : Int32) + (1 : Int32)) + (1 : Int32)))])) (fun tZ kZ => XS.iload X4.here hx rfl (hb hby d11_5) rfl kZ) ?_
  refine own_by (S' := T4.setTop (mkF m 10 #[.val (.ref src), .val (.int (((0 : Int32) + (1 : Int32)) + (1 : Int32))), .val (.ref d), .val (.int (((0 : Int32) + (1 : Int32)) + (1 : Int32))), .val (.int (3 : Int32)), .val (.int (((0 : Int32) + (1 : Int32)) + (1 : Int32))), .val (.int cb)] [])) (fun tZ kZ => XS.icmpNo X4.here hx rfl (hb hby d11_7) rfl (tlt (by decide)).2.1 kZ) ?_
  refine own_by (S' := T4.setTop (mkF m 11 #[.val (.ref src), .val (.int (((0 : Int32) + (1 : Int32)) + (1 : Int32))), .val (.ref d), .val (.int (((0 : Int32) + (1 : Int32)) + (1 : Int32))), .val (.int (3 : Int32)), .val (.int (((0 : Int32) + (1 : Int32)) + (1 : Int32))), .val (.int cb)] [(.ref src)])) (fun tZ kZ => XS.aloadN X4.here hx rfl (hb hby d11_10) rfl rfl kZ) ?_
  refine own_by (S' := T4.setTop (mkF m 12 #[.val (.ref src), .val (.int (((0 : Int32) + (1 : Int32)) + (1 : Int32))), .val (.ref d), .val (.int (((0 : Int32) + (1 : Int32)) + (1 : Int32))), .val (.int (3 : Int32)), .val (.int (((0 : Int32) + (1 : Int32)) + (1 : Int32))), .val (.int cb)] [(.int (((0 : Int32) + (1 : Int32)) + (1 : Int32))), (.ref src)])) (fun tZ kZ => XS.iloadN X4.here hx rfl (hb hby d11_11) rfl kZ) ?_
  obtain ⟨cc5, Ar5, hc5, hl5⟩ := id V_src_4
  refine own_by (S' := T4.setTop (mkF m 13 #[.val (.ref src), .val (.int (((0 : Int32) + (1 : Int32)) + (1 : Int32))), .val (.ref d), .val (.int (((0 : Int32) + (1 : Int32)) + (1 : Int32))), .val (.int (3 : Int32)), .val (.int (((0 : Int32) + (1 : Int32)) + (1 : Int32))), .val (.int cb)] [(.int cc)])) (fun tZ kZ => X4.caload hx (j := (((0 : Int32) + (1 : Int32)) + (1 : Int32))) (v := (.int cc)) (by rw [e4]; exact Ar5.1) (State.isArrayOf_alike hZ.alike Ar5.2.1) Ar5.2.2 (OwnA.inb (j := (((0 : Int32) + (1 : Int32)) + (1 : Int32))) hl5 (by decide) (Nat.le_of_ble_eq_true rfl)) (OwnA.at (j := (((0 : Int32) + (1 : Int32)) + (1 : Int32))) hl5 rfl) (g := (mkF m 12 #[.val (.ref src), .val (.int (((0 : Int32) + (1 : Int32)) + (1 : Int32))), .val (.ref d), .val (.int (((0 : Int32) + (1 : Int32)) + (1 : Int32))), .val (.int (3 : Int32)), .val (.int (((0 : Int32) + (1 : Int32)) + (1 : Int32))), .val (.int cb)] [(.int (((0 : Int32) + (1 : Int32)) + (1 : Int32))), (.ref src)])) rfl rfl (hb hby d11_12) _ kZ) ?_
  refine own_by (S' := T4.setTop (mkF m 15 #[.val (.ref src), .val (.int (((0 : Int32) + (1 : Int32)) + (1 : Int32))), .val (.ref d), .val (.int (((0 : Int32) + (1 : Int32)) + (1 : Int32))), .val (.int (3 : Int32)), .val (.int (((0 : Int32) + (1 : Int32)) + (1 : Int32))), .val (.int cc)] [])) (fun tZ kZ => XS.istore X4.here hx rfl (hb hby d11_13) rfl (l' := #[.val (.ref src), .val (.int (((0 : Int32) + (1 : Int32)) + (1 : Int32))), .val (.ref d), .val (.int (((0 : Int32) + (1 : Int32)) + (1 : Int32))), .val (.int (3 : Int32)), .val (.int (((0 : Int32) + (1 : Int32)) + (1 : Int32))), .val (.int cc)]) rfl kZ) ?_
  refine own_by (S' := T4.setTop (mkF m 17 #[.val (.ref src), .val (.int (((0 : Int32) + (1 : Int32)) + (1 : Int32))), .val (.ref d), .val (.int (((0 : Int32) + (1 : Int32)) + (1 : Int32))), .val (.int (3 : Int32)), .val (.int (((0 : Int32) + (1 : Int32)) + (1 : Int32))), .val (.int cc)] [(.int cc)])) (fun tZ kZ => XS.iload X4.here hx rfl (hb hby d11_15) rfl kZ) ?_
  refine own_by (S' := T4.setTop (mkF m 20 #[.val (.ref src), .val (.int (((0 : Int32) + (1 : Int32)) + (1 : Int32))), .val (.ref d), .val (.int (((0 : Int32) + (1 : Int32)) + (1 : Int32))), .val (.int (3 : Int32)), .val (.int (((0 : Int32) + (1 : Int32)) + (1 : Int32))), .val (.int cc)] [(.int (255 : Int32)), (.int cc)])) (fun tZ kZ => XS.sipush X4.here hx rfl (hb hby d11_17) kZ) ?_
  refine own_by (S' := T4.setTop (mkF m 26 #[.val (.ref src), .val (.int (((0 : Int32) + (1 : Int32)) + (1 : Int32))), .val (.ref d), .val (.int (((0 : Int32) + (1 : Int32)) + (1 : Int32))), .val (.int (3 : Int32)), .val (.int (((0 : Int32) + (1 : Int32)) + (1 : Int32))), .val (.int cc)] [])) (fun tZ kZ => XS.icmpYes X4.here hx rfl (pc0 := 20) (pc' := 26) rfl (hb hby d11_20) rfl (flt hc_).2.2.2 (by decide) (by decide) kZ) ?_
  refine own_by (S' := T4.setTop (mkF m 27 #[.val (.ref src), .val (.int (((0 : Int32) + (1 : Int32)) + (1 : Int32))), .val (.ref d), .val (.int (((0 : Int32) + (1 : Int32)) + (1 : Int32))), .val (.int (3 : Int32)), .val (.int (((0 : Int32) + (1 : Int32)) + (1 : Int32))), .val (.int cc)] [(.ref d)])) (fun tZ kZ => XS.aloadN X4.here hx rfl (hb hby d11_26) rfl rfl kZ) ?_
  refine own_by (S' := T4.setTop (mkF m 28 #[.val (.ref src), .val (.int (((0 : Int32) + (1 : Int32)) + (1 : Int32))), .val (.ref d), .val (.int (((0 : Int32) + (1 : Int32)) + (1 : Int32))), .val (.int (3 : Int32)), .val (.int (((0 : Int32) + (1 : Int32)) + (1 : Int32))), .val (.int cc)] [(.int (((0 : Int32) + (1 : Int32)) + (1 : Int32))), (.ref d)])) (fun tZ kZ => XS.iloadN X4.here hx rfl (hb hby d11_27) rfl kZ) ?_
  refine own_by (S' := T4.setTop (mkF m 30 #[.val (.ref src), .val (.int (((0 : Int32) + (1 : Int32)) + (1 : Int32))), .val (.ref d), .val (.int (((0 : Int32) + (1 : Int32)) + (1 : Int32))), .val (.int (3 : Int32)), .val (.int (((0 : Int32) + (1 : Int32)) + (1 : Int32))), .val (.int cc)] [(.int cc), (.int (((0 : Int32) + (1 : Int32)) + (1 : Int32))), (.ref d)])) (fun tZ kZ => XS.iload X4.here hx rfl (hb hby d11_28) rfl kZ) ?_
  refine own_by (S' := T4.setTop (mkF m 31 #[.val (.ref src), .val (.int (((0 : Int32) + (1 : Int32)) + (1 : Int32))), .val (.ref d), .val (.int (((0 : Int32) + (1 : Int32)) + (1 : Int32))), .val (.int (3 : Int32)), .val (.int (((0 : Int32) + (1 : Int32)) + (1 : Int32))), .val (.int cc)] [(.int (cc.toInt8.toInt32)), (.int (((0 : Int32) + (1 : Int32)) + (1 : Int32))), (.ref d)])) (fun tZ kZ => XS.i2b X4.here hx rfl (hb hby d11_30) rfl kZ) ?_
  obtain ⟨cc6, Ar6, hc6, hl6⟩ := id V_d_w4
  have hin6 := OwnA.inb (j := (((0 : Int32) + (1 : Int32)) + (1 : Int32))) hl6 (by decide) (by simp only [List.length_set, hlw]; decide)
  obtain ⟨T6, h6, X6, e6, W6, st6⟩ := stB X4 hx hZ e4 Ar6 (j := (((0 : Int32) + (1 : Int32)) + (1 : Int32))) hin6 (g := (mkF m 31 #[.val (.ref src), .val (.int (((0 : Int32) + (1 : Int32)) + (1 : Int32))), .val (.ref d), .val (.int (((0 : Int32) + (1 : Int32)) + (1 : Int32))), .val (.int (3 : Int32)), .val (.int (((0 : Int32) + (1 : Int32)) + (1 : Int32))), .val (.int cc)] [(.int (cc.toInt8.toInt32)), (.int (((0 : Int32) + (1 : Int32)) + (1 : Int32))), (.ref d)])) rfl rfl (hb hby d11_31)
  have N6 := Fr.snoc X6 N4 g_d
  have V_src_6 := V_src_4.other W6 n_sd
  have Zs6 : n0 ≤ h6.size := Nat.le_trans Zs4 (Keep.of_wr W6).1
  have K6 := K4.wr W6 (Or.inl (List.mem_of_getElem? (i := 0) rfl))
  have V_d_w6 := V_d_w4.set W6
  refine own_by (S' := T6.setTop (mkF m 32 #[.val (.ref src), .val (.int (((0 : Int32) + (1 : Int32)) + (1 : Int32))), .val (.ref d), .val (.int (((0 : Int32) + (1 : Int32)) + (1 : Int32))), .val (.int (3 : Int32)), .val (.int (((0 : Int32) + (1 : Int32)) + (1 : Int32))), .val (.int cc)] [])) st6 ?_
  refine own_by (S' := T6.setTop (mkF m 35 #[.val (.ref src), .val (.int ((((0 : Int32) + (1 : Int32)) + (1 : Int32)) + (1 : Int32))), .val (.ref d), .val (.int (((0 : Int32) + (1 : Int32)) + (1 : Int32))), .val (.int (3 : Int32)), .val (.int (((0 : Int32) + (1 : Int32)) + (1 : Int32))), .val (.int cc)] [])) (fun tZ kZ => XS.iinc X6.here hx rfl (hb hby d11_32) rfl (l' := #[.val (.ref src), .val (.int ((((0 : Int32) + (1 : Int32)) + (1 : Int32)) + (1 : Int32))), .val (.ref d), .val (.int (((0 : Int32) + (1 : Int32)) + (1 : Int32))), .val (.int (3 : Int32)), .val (.int (((0 : Int32) + (1 : Int32)) + (1 : Int32))), .val (.int cc)]) rfl kZ) ?_
  refine own_by (S' := T6.setTop (mkF m 38 #[.val (.ref src), .val (.int ((((0 : Int32) + (1 : Int32)) + (1 : Int32)) + (1 : Int32))), .val (.ref d), .val (.int ((((0 : Int32) + (1 : Int32)) + (1 : Int32)) + (1 : Int32))), .val (.int (3 : Int32)), .val (.int (((0 : Int32) + (1 : Int32)) + (1 : Int32))), .val (.int cc)] [])) (fun tZ kZ => XS.iinc X6.here hx rfl (hb hby d11_35) rfl (l' := #[.val (.ref src), .val (.int ((((0 : Int32) + (1 : Int32)) + (1 : Int32)) + (1 : Int32))), .val (.ref d), .val (.int ((((0 : Int32) + (1 : Int32)) + (1 : Int32)) + (1 : Int32))), .val (.int (3 : Int32)), .val (.int (((0 : Int32) + (1 : Int32)) + (1 : Int32))), .val (.int cc)]) rfl kZ) ?_
  refine own_by (S' := T6.setTop (mkF m 41 #[.val (.ref src), .val (.int ((((0 : Int32) + (1 : Int32)) + (1 : Int32)) + (1 : Int32))), .val (.ref d), .val (.int ((((0 : Int32) + (1 : Int32)) + (1 : Int32)) + (1 : Int32))), .val (.int (3 : Int32)), .val (.int ((((0 : Int32) + (1 : Int32)) + (1 : Int32)) + (1 : Int32))), .val (.int cc)] [])) (fun tZ kZ => XS.iinc X6.here hx rfl (hb hby d11_38) rfl (l' := #[.val (.ref src), .val (.int ((((0 : Int32) + (1 : Int32)) + (1 : Int32)) + (1 : Int32))), .val (.ref d), .val (.int ((((0 : Int32) + (1 : Int32)) + (1 : Int32)) + (1 : Int32))), .val (.int (3 : Int32)), .val (.int ((((0 : Int32) + (1 : Int32)) + (1 : Int32)) + (1 : Int32))), .val (.int cc)]) rfl kZ) ?_
  refine own_by (S' := T6.setTop (mkF m 3 #[.val (.ref src), .val (.int ((((0 : Int32) + (1 : Int32)) + (1 : Int32)) + (1 : Int32))), .val (.ref d), .val (.int ((((0 : Int32) + (1 : Int32)) + (1 : Int32)) + (1 : Int32))), .val (.int (3 : Int32)), .val (.int ((((0 : Int32) + (1 : Int32)) + (1 : Int32)) + (1 : Int32))), .val (.int cc)] [])) (fun tZ kZ => XS.goto X6.here hx rfl (pc0 := 41) (pc' := 3) rfl (hb hby d11_41) (by decide) (by decide) kZ) ?_
  refine own_by (S' := T6.setTop (mkF m 5 #[.val (.ref src), .val (.int ((((0 : Int32) + (1 : Int32)) + (1 : Int32)) + (1 : Int32))), .val (.ref d), .val (.int ((((0 : Int32) + (1 : Int32)) + (1 : Int32)) + (1 : Int32))), .val (.int (3 : Int32)), .val (.int ((((0 : Int32) + (1 : Int32)) + (1 : Int32)) + (1 : Int32))), .val (.int cc)] [(.int ((((0 : Int32) + (1 : Int32)) + (1 : Int32)) + (1 : Int32)))])) (fun tZ kZ => XS.iload X6.here hx rfl (hb hby d11_3) rfl kZ) ?_
  refine own_by (S' := T6.setTop (mkF m 7 #[.val (.ref src), .val (.int ((((0 : Int32) + (1 : Int32)) + (1 : Int32)) + (1 : Int32))), .val (.ref d), .val (.int ((((0 : Int32) + (1 : Int32)) + (1 : Int32)) + (1 : Int32))), .val (.int (3 : Int32)), .val (.int ((((0 : Int32) + (1 : Int32)) + (1 : Int32)) + (1 : Int32))), .val (.int cc)] [(.int (3 : Int32)), (.int ((((0 : Int32) + (1 : Int32)) + (1 : Int32)) + (1 : Int32)))])) (fun tZ kZ => XS.iload X6.here hx rfl (hb hby d11_5) rfl kZ) ?_
  refine own_by (S' := T6.setTop (mkF m 44 #[.val (.ref src), .val (.int ((((0 : Int32) + (1 : Int32)) + (1 : Int32)) + (1 : Int32))), .val (.ref d), .val (.int ((((0 : Int32) + (1 : Int32)) + (1 : Int32)) + (1 : Int32))), .val (.int (3 : Int32)), .val (.int ((((0 : Int32) + (1 : Int32)) + (1 : Int32)) + (1 : Int32))), .val (.int cc)] [])) (fun tZ kZ => XS.icmpYes X6.here hx rfl (pc0 := 7) (pc' := 44) rfl (hb hby d11_7) rfl (flt (by decide)).2.1 (by decide) (by decide) kZ) ?_
  refine own_by (S' := T6.setTop (mkF m 46 #[.val (.ref src), .val (.int ((((0 : Int32) + (1 : Int32)) + (1 : Int32)) + (1 : Int32))), .val (.ref d), .val (.int ((((0 : Int32) + (1 : Int32)) + (1 : Int32)) + (1 : Int32))), .val (.int (3 : Int32)), .val (.int ((((0 : Int32) + (1 : Int32)) + (1 : Int32)) + (1 : Int32))), .val (.int cc)] [(.int (3 : Int32))])) (fun tZ kZ => XS.iload X6.here hx rfl (hb hby d11_44) rfl kZ) ?_
  exact own_retI X6 hx (t := .int) Bd.returns (by simp) rfl (hb hby d11_46) Bd.notSynchronized (by decide) (by decide) (show QC5 Z d kd h0 n0 _ T6.heap _ from by rw [e6]; exact ⟨rfl, N6, K6, _, V_d_w6, by simp only [List.length_set, hlw]⟩)
theorem d10_0 : decode jdk_52_method_16_code 0 = .ok (.iload_n 2, 1) := by decide +kernel
theorem d10_1 : decode jdk_52_method_16_code 1 = .ok (.newarray .byte, 2) := by decide +kernel
theorem d10_3 : decode jdk_52_method_16_code 3 = .ok (.astore_n 3, 1) := by decide +kernel
theorem d10_4 : decode jdk_52_method_16_code 4 = .ok (.aload_n 0, 1) := by decide +kernel
theorem d10_5 : decode jdk_52_method_16_code 5 = .ok (.iload_n 1, 1) := by decide +kernel
theorem d10_6 : decode jdk_52_method_16_code 6 = .ok (.aload_n 3, 1) := by decide +kernel
theorem d10_7 : decode jdk_52_method_16_code 7 = .ok (.iconst 0, 1) := by decide +kernel
theorem d10_8 : decode jdk_52_method_16_code 8 = .ok (.iload_n 2, 1) := by decide +kernel
theorem d10_9 : decode jdk_52_method_16_code 9 = .ok (.invokestatic 115, 3) := by decide +kernel
theorem d10_12 : decode jdk_52_method_16_code 12 = .ok (.istore 4, 2) := by decide +kernel
theorem d10_14 : decode jdk_52_method_16_code 14 = .ok (.iload 4, 2) := by decide +kernel
theorem d10_16 : decode jdk_52_method_16_code 16 = .ok (.iload_n 2, 1) := by decide +kernel
theorem d10_17 : decode jdk_52_method_16_code 17 = .ok (.if_icmp .eq 40, 3) := by decide +kernel
theorem d10_20 : decode jdk_52_method_16_code 20 = .ok (.aload_n 0, 1) := by decide +kernel
theorem d10_21 : decode jdk_52_method_16_code 21 = .ok (.iload_n 1, 1) := by decide +kernel
theorem d10_22 : decode jdk_52_method_16_code 22 = .ok (.iload_n 2, 1) := by decide +kernel
theorem d10_23 : decode jdk_52_method_16_code 23 = .ok (.invokestatic 119, 3) := by decide +kernel
theorem d10_26 : decode jdk_52_method_16_code 26 = .ok (.astore 5, 2) := by decide +kernel
theorem d10_28 : decode jdk_52_method_16_code 28 = .ok (.aload 5, 2) := by decide +kernel
theorem d10_30 : decode jdk_52_method_16_code 30 = .ok (.iload 4, 2) := by decide +kernel
theorem d10_32 : decode jdk_52_method_16_code 32 = .ok (.invokestatic 71, 3) := by decide +kernel
theorem d10_35 : decode jdk_52_method_16_code 35 = .ok (.sipush 255, 3) := by decide +kernel
theorem d10_38 : decode jdk_52_method_16_code 38 = .ok (.if_icmp .gt 16, 3) := by decide +kernel
theorem d10_41 : decode jdk_52_method_16_code 41 = .ok (.aload 5, 2) := by decide +kernel
theorem d10_43 : decode jdk_52_method_16_code 43 = .ok (.iconst 0, 1) := by decide +kernel
theorem d10_44 : decode jdk_52_method_16_code 44 = .ok (.aload_n 3, 1) := by decide +kernel
theorem d10_45 : decode jdk_52_method_16_code 45 = .ok (.iconst 0, 1) := by decide +kernel
theorem d10_46 : decode jdk_52_method_16_code 46 = .ok (.iload_n 2, 1) := by decide +kernel
theorem d10_47 : decode jdk_52_method_16_code 47 = .ok (.invokestatic 123, 3) := by decide +kernel
theorem d10_50 : decode jdk_52_method_16_code 50 = .ok (.iload_n 2, 1) := by decide +kernel
theorem d10_51 : decode jdk_52_method_16_code 51 = .ok (.if_icmp .eq 6, 3) := by decide +kernel
theorem d10_54 : decode jdk_52_method_16_code 54 = .ok (.aload 5, 2) := by decide +kernel
theorem d10_56 : decode jdk_52_method_16_code 56 = .ok (.areturn, 1) := by decide +kernel
theorem d10_57 : decode jdk_52_method_16_code 57 = .ok (.aload_n 3, 1) := by decide +kernel
theorem d10_58 : decode jdk_52_method_16_code 58 = .ok (.areturn, 1) := by decide +kernel
theorem ef_rmC3 (m : MethodId) (src : Addr) : entryFrame m #[(.ref src), (.int (0 : Int32)), (.int (3 : Int32))] 6 = mkF m 0 #[.val (.ref src), .val (.int (0 : Int32)), .val (.int (3 : Int32)), .unset, .unset, .unset] [] := by first | (simp [entryFrame, mkF, argsToLocals, Value.category, maxLocals]; done) | rfl
set_option maxRecDepth 65536 in
set_option maxHeartbeats 40000000 in
theorem rmC3 (l : Launch) (Z : State) (a0 : Array Value) (hw : ∀ d ∈ tables_1, d.before a0 Z = true) (ws : List Jvm.Cond) (src : Addr) (ks : ClassId) (ca cb cc : Int32) (h0 : Heap) (n0 : Nat) (Z0 : n0 ≤ h0.size) (V_src : OwnA Z h0 src ks .char [.int ca, .int cb, .int cc]) (ha : ¬ (255 : Int32) < ca) (hb_ : ¬ (255 : Int32) < cb) (hc_ : ¬ (255 : Int32) < cc) :
    MetFree l (⟨"java/lang/StringUTF16", "compress", "([CII)[B"⟩ : MethodName) (head1 (Jvm.Cond.code (⟨"java/lang/StringUTF16", "compress", "([CII)[B"⟩ : MethodName) jdk_52_method_16_code (6 : Nat) (Option.some (Jvm.ClassFile.FieldType.array Jvm.ClassFile.FieldType.byte)) :: ws) ({ frames := 1, cells := 1, slots := 3, locals := 18 } : Room)) (fun aZ UZ => aZ = #[(.ref src), (.int (0 : Int32)), (.int (3 : Int32))] ∧ Z.Warmed39 UZ.vm ∧ UZ.heap = h0) (fun _ _ _ _ _ => True) (fun _ UZ oZ VZ => ∃ vZ LZ, oZ = .returned vZ ∧ (QC3 Z h0 n0) vZ VZ.heap LZ ∧ FrameEnd UZ oZ VZ LZ ({ frames := 1, cells := 1, slots := 3, locals := 18 } : Room).cells ({ frames := 1, cells := 1, slots := 3, locals := 18 } : Room).slots) := by
  refine MetFree.of_bodySF (plainFor_of_name pn_2) hisR ?_
  intro p e s m args below meth c s₁ Bd hml0 hP hK
  obtain ⟨rfl, hZ, hh⟩ := hP
  have hx := Bd.exec
  have hby := Bd.bytes
  have hml : c.maxLocals = 6 := hml0
  have hown : s.vm.findClass "java/lang/StringUTF16" = some m.cls := findClass_of_methodNamed Bd.named
  have hnm := (name_of_methodNamed Bd.named Bd.method).1
  have X0 : Stand p l e ({ frames := 1, cells := 1, slots := 3, locals := 18 } : Room) s m #[(.ref src), (.int (0 : Int32)), (.int (3 : Int32))] below meth c s₁ [] 0 0 := Stand.of_body Bd
  have e0 : s₁.heap = h0 := by rw [← hh, Bd.state]; rfl
  have N0 := Fr.nil n0
  show OwnG p e below (OwnE s (QC3 Z h0 n0) ({ frames := 1, cells := 1, slots := 3, locals := 18 } : Room).cells ({ frames := 1, cells := 1, slots := 3, locals := 18 } : Room).slots) _
  refine own_by (S' := s₁.setTop (mkF m 0 #[.val (.ref src), .val (.int (0 : Int32)), .val (.int (3 : Int32)), .unset, .unset, .unset] [])) (fun tZ kZ => castTop (ef_rmC3 m src) kZ) ?_
  refine own_by (S' := s₁.setTop (mkF m 1 #[.val (.ref src), .val (.int (0 : Int32)), .val (.int (3 : Int32)), .unset, .unset, .unset] [(.int (3 : Int32))])) (fun tZ kZ => XS.iloadN X0.here hx rfl (hb hby d10_0) rfl kZ) ?_
  obtain ⟨T1, h1, k1, X1, e1, E1, A1, st1⟩ := newP X0 hx hZ (hw _ (List.mem_of_getElem? (i := 87) rfl)) e0 (g := (mkF m 1 #[.val (.ref src), .val (.int (0 : Int32)), .val (.int (3 : Int32)), .unset, .unset, .unset] [(.int (3 : Int32))])) rfl (hb hby d10_1) rfl (by decide) (cap := 3) (by decide) (by decide) (by decide) (by decide)
  obtain ⟨b1, g1⟩ : ∃ z, z = h0.size := ⟨_, rfl⟩
  rw [← g1] at A1 st1
  have g_b1 : n0 ≤ b1 := Nat.le_trans Z0 (Nat.le_of_eq g1.symm)
  have sz_b1 : h0.size ≤ b1 := Nat.le_trans (Keep.refl h0 []).1 (Nat.le_of_eq g1.symm)
  have Zs1 : n0 ≤ h1.size := Nat.le_trans Z0 E1.1
  have K1 := (Keep.refl h0 []).ext E1
  have V_b1 := OwnA.new A1
  refine own_by (S' := T1.setTop (mkF m 3 #[.val (.ref src), .val (.int (0 : Int32)), .val (.int (3 : Int32)), .unset, .unset, .unset] [(.ref b1)])) st1 ?_
  refine own_by (S' := T1.setTop (mkF m 4 #[.val (.ref src), .val (.int (0 : Int32)), .val (.int (3 : Int32)), .val (.ref b1), .unset, .unset] [])) (fun tZ kZ => XS.astoreN X1.here hx rfl (hb hby d10_3) rfl rfl (l' := #[.val (.ref src), .val (.int (0 : Int32)), .val (.int (3 : Int32)), .val (.ref b1), .unset, .unset]) rfl kZ) ?_
  refine own_by (S' := T1.setTop (mkF m 5 #[.val (.ref src), .val (.int (0 : Int32)), .val (.int (3 : Int32)), .val (.ref b1), .unset, .unset] [(.ref src)])) (fun tZ kZ => XS.aloadN X1.here hx rfl (hb hby d10_4) rfl rfl kZ) ?_
  refine own_by (S' := T1.setTop (mkF m 6 #[.val (.ref src), .val (.int (0 : Int32)), .val (.int (3 : Int32)), .val (.ref b1), .unset, .unset] [(.int (0 : Int32)), (.ref src)])) (fun tZ kZ => XS.iloadN X1.here hx rfl (hb hby d10_5) rfl kZ) ?_
  refine own_by (S' := T1.setTop (mkF m 7 #[.val (.ref src), .val (.int (0 : Int32)), .val (.int (3 : Int32)), .val (.ref b1), .unset, .unset] [(.ref b1), (.int (0 : Int32)), (.ref src)])) (fun tZ kZ => XS.aloadN X1.here hx rfl (hb hby d10_6) rfl rfl kZ) ?_
  refine own_by (S' := T1.setTop (mkF m 8 #[.val (.ref src), .val (.int (0 : Int32)), .val (.int (3 : Int32)), .val (.ref b1), .unset, .unset] [(.int (0 : Int32)), (.ref b1), (.int (0 : Int32)), (.ref src)])) (fun tZ kZ => XS.iconst X1.here hx rfl (hb hby d10_7) kZ) ?_
  refine own_by (S' := T1.setTop (mkF m 9 #[.val (.ref src), .val (.int (0 : Int32)), .val (.int (3 : Int32)), .val (.ref b1), .unset, .unset] [(.int (3 : Int32)), (.int (0 : Int32)), (.ref b1), (.int (0 : Int32)), (.ref src)])) (fun tZ kZ => XS.iloadN X1.here hx rfl (hb hby d10_8) rfl kZ) ?_
  have n_sb1 : src ≠ b1 := Nat.ne_of_lt (Nat.lt_of_lt_of_le V_src.lt sz_b1)
  have ExK1 := own_ext0 K1
  obtain ⟨_, _, ⟨T2, L2, k2, n2⟩, -, X2, ⟨Lc2, hQ2, l2, y2, z2⟩, st2⟩ := Jvm.LawKit.callS X1 hx (y := (⟨"java/lang/StringUTF16", "compress", "([CI[BII)I"⟩ : MethodName)) hown (mvT hZ (hw _ (List.mem_of_getElem? (i := 88) rfl))) (mvT hZ (hw _ (List.mem_of_getElem? (i := 89) rfl))) (mvT hZ (hw _ (List.mem_of_getElem? (i := 85) rfl))) (mvT hZ (hw _ (List.mem_of_getElem? (i := 90) rfl))) (by decide) (backOf (W := 0) (rmC5 l Z a0 hw [] src ks ca cb cc b1 k1 _ h1 n0 Zs1 (V_src.ext ExK1) ha hb_ hc_ V_b1 (by rw [List.length_replicate]; rfl) n_sb1 g_b1) hZ (hw _ (List.mem_of_getElem? (i := 90) rfl)) (hw _ (List.mem_of_getElem? (i := 85) rfl)) (by decide) (by decide)) (g := (mkF m 9 #[.val (.ref src), .val (.int (0 : Int32)), .val (.int (3 : Int32)), .val (.ref b1), .unset, .unset] [(.int (3 : Int32)), (.int (0 : Int32)), (.ref b1), (.int (0 : Int32)), (.ref src)])) rfl (by rw [hml]; rfl) (argsL := [(.ref src), (.int (0 : Int32)), (.ref b1), (.int (0 : Int32)), (.int (3 : Int32))]) (rest := []) (lenOf pd_3 rfl) rfl (by show 2 * 0 + _ ≤ _; exact Nat.le_of_eq rfl) (hb hby d10_9) (fun _ _ => ⟨rfl, e1, (by decide : 1 + 0 ≤ _), (by decide : 3 + 0 ≤ _)⟩)
  dsimp only [Pt.U, Pt.locs, Pt.cells, Pt.slots] at X2 l2 y2 z2 st2 hQ2
  subst l2 y2 z2
  obtain ⟨rfl, N2q, Kc2, wz, Vz2, hz2⟩ := hQ2
  have N2 := Fr.app N0 N2q
  have Zs2 := Nat.le_trans Zs1 Kc2.1
  have K2 := K1.trans Kc2 (fun x hx => by
      simp only [List.mem_cons, List.not_mem_nil, or_false] at hx
      rcases hx with rfl
      · exact Or.inr sz_b1)
  refine own_by (S' := T2.setTop (mkF m 12 #[.val (.ref src), .val (.int (0 : Int32)), .val (.int (3 : Int32)), .val (.ref b1), .unset, .unset] [(.int (3 : Int32))])) (fun tZ kZ => st2 _ kZ) ?_
  refine own_by (S' := T2.setTop (mkF m 14 #[.val (.ref src), .val (.int (0 : Int32)), .val (.int (3 : Int32)), .val (.ref b1), .val (.int (3 : Int32)), .unset] [])) (fun tZ kZ => XS.istore X2.here hx rfl (hb hby d10_12) rfl (l' := #[.val (.ref src), .val (.int (0 : Int32)), .val (.int (3 : Int32)), .val (.ref b1), .val (.int (3 : Int32)), .unset]) rfl kZ) ?_
  refine own_by (S' := T2.setTop (mkF m 16 #[.val (.ref src), .val (.int (0 : Int32)), .val (.int (3 : Int32)), .val (.ref b1), .val (.int (3 : Int32)), .unset] [(.int (3 : Int32))])) (fun tZ kZ => XS.iload X2.here hx rfl (hb hby d10_14) rfl kZ) ?_
  refine own_by (S' := T2.setTop (mkF m 17 #[.val (.ref src), .val (.int (0 : Int32)), .val (.int (3 : Int32)), .val (.ref b1), .val (.int (3 : Int32)), .unset] [(.int (3 : Int32)), (.int (3 : Int32))])) (fun tZ kZ => XS.iloadN X2.here hx rfl (hb hby d10_16) rfl kZ) ?_
  refine own_by (S' := T2.setTop (mkF m 57 #[.val (.ref src), .val (.int (0 : Int32)), .val (.int (3 : Int32)), .val (.ref b1), .val (.int (3 : Int32)), .unset] [])) (fun tZ kZ => XS.icmpYes X2.here hx rfl (pc0 := 17) (pc' := 57) rfl (hb hby d10_17) rfl (teq rfl).1 (by decide) (by decide) kZ) ?_
  refine own_by (S' := T2.setTop (mkF m 58 #[.val (.ref src), .val (.int (0 : Int32)), .val (.int (3 : Int32)), .val (.ref b1), .val (.int (3 : Int32)), .unset] [(.ref b1)])) (fun tZ kZ => XS.aloadN X2.here hx rfl (hb hby d10_57) rfl rfl kZ) ?_
  exact own_retA X2 hx Bd.returns rfl rfl (hb hby d10_58) Bd.notSynchronized (by decide) (by decide) ⟨b1, _, wz, rfl, N2, K2, Vz2, hz2⟩
theorem d12_0 : decode jdk_52_method_15_code 0 = .ok (.iload_n 1, 1) := by decide +kernel
theorem d12_1 : decode jdk_52_method_15_code 1 = .ok (.aload_n 0, 1) := by decide +kernel
theorem d12_2 : decode jdk_52_method_15_code 2 = .ok (.arraylength, 1) := by decide +kernel
theorem d12_3 : decode jdk_52_method_15_code 3 = .ok (.isub, 1) := by decide +kernel
theorem d12_4 : decode jdk_52_method_15_code 4 = .ok (.bipush 31, 2) := by decide +kernel
theorem d12_6 : decode jdk_52_method_15_code 6 = .ok (.iushr, 1) := by decide +kernel
theorem d12_7 : decode jdk_52_method_15_code 7 = .ok (.i2b, 1) := by decide +kernel
theorem d12_8 : decode jdk_52_method_15_code 8 = .ok (.ireturn, 1) := by decide +kernel
theorem ef_rmCo (m : MethodId) (d : Addr) : entryFrame m #[(.ref d), (.int (3 : Int32))] 2 = mkF m 0 #[.val (.ref d), .val (.int (3 : Int32))] [] := by first | (simp [entryFrame, mkF, argsToLocals, Value.category, maxLocals]; done) | rfl
set_option maxRecDepth 65536 in
set_option maxHeartbeats 40000000 in
theorem rmCo (l : Launch) (Z : State) (a0 : Array Value) (hw : ∀ d ∈ tables_1, d.before a0 Z = true) (ws : List Jvm.Cond) (d : Addr) (kd : ClassId) (ws_ : List Value) (h0 : Heap) (n0 : Nat) (Z0 : n0 ≤ h0.size) (V_d : OwnA Z h0 d kd .byte ws_) (hlw : ws_.length = 3) :
    MetFree l (⟨"java/lang/StringUTF16", "coderFromArrayLen", "([BI)B"⟩ : MethodName) (head1 (Jvm.Cond.code (⟨"java/lang/StringUTF16", "coderFromArrayLen", "([BI)B"⟩ : MethodName) jdk_52_method_15_code (2 : Nat) (Option.some Jvm.ClassFile.FieldType.byte) :: ws) ({ frames := 0, cells := 0, slots := 0, locals := 0 } : Room)) (fun aZ UZ => aZ = #[(.ref d), (.int (3 : Int32))] ∧ Z.Warmed39 UZ.vm ∧ UZ.heap = h0) (fun _ _ _ _ _ => True) (fun _ UZ oZ VZ => ∃ vZ LZ, oZ = .returned vZ ∧ (QSame (some (.int 0)) h0 n0) vZ VZ.heap LZ ∧ FrameEnd UZ oZ VZ LZ ({ frames := 0, cells := 0, slots := 0, locals := 0 } : Room).cells ({ frames := 0, cells := 0, slots := 0, locals := 0 } : Room).slots) := by
  refine MetFree.of_bodySF (plainFor_of_name pn_2) hisR ?_
  intro p e s m args below meth c s₁ Bd hml0 hP hK
  obtain ⟨rfl, hZ, hh⟩ := hP
  have hx := Bd.exec
  have hby := Bd.bytes
  have hml : c.maxLocals = 2 := hml0
  have hown : s.vm.findClass "java/lang/StringUTF16" = some m.cls := findClass_of_methodNamed Bd.named
  have hnm := (name_of_methodNamed Bd.named Bd.method).1
  have X0 : Stand p l e ({ frames := 0, cells := 0, slots := 0, locals := 0 } : Room) s m #[(.ref d), (.int (3 : Int32))] below meth c s₁ [] 0 0 := Stand.of_body Bd
  have e0 : s₁.heap = h0 := by rw [← hh, Bd.state]; rfl
  have N0 := Fr.nil n0
  show OwnG p e below (OwnE s (QSame (some (.int 0)) h0 n0) ({ frames := 0, cells := 0, slots := 0, locals := 0 } : Room).cells ({ frames := 0, cells := 0, slots := 0, locals := 0 } : Room).slots) _
  refine own_by (S' := s₁.setTop (mkF m 0 #[.val (.ref d), .val (.int (3 : Int32))] [])) (fun tZ kZ => castTop (ef_rmCo m d) kZ) ?_
  refine own_by (S' := s₁.setTop (mkF m 1 #[.val (.ref d), .val (.int (3 : Int32))] [(.int (3 : Int32))])) (fun tZ kZ => XS.iloadN X0.here hx rfl (hb hby d12_0) rfl kZ) ?_
  refine own_by (S' := s₁.setTop (mkF m 2 #[.val (.ref d), .val (.int (3 : Int32))] [(.ref d), (.int (3 : Int32))])) (fun tZ kZ => XS.aloadN X0.here hx rfl (hb hby d12_1) rfl rfl kZ) ?_
  obtain ⟨cc1, Ar1, hc1, hl1⟩ := id V_d
  refine own_by (S' := s₁.setTop (mkF m 3 #[.val (.ref d), .val (.int (3 : Int32))] [(.int (3 : Int32)), (.int (3 : Int32))])) (fun tZ kZ => X0.arraylength hx (by rw [e0]; exact Ar1.1) (State.isArrayOf_alike hZ.alike Ar1.2.1) (g := (mkF m 2 #[.val (.ref d), .val (.int (3 : Int32))] [(.ref d), (.int (3 : Int32))])) rfl rfl (hb hby d12_2) _ (by rw [len_of (OwnA.size (z := (3 : Int32)) hl1 hlw) (by decide)]; exact kZ)) ?_
  refine own_by (S' := s₁.setTop (mkF m 4 #[.val (.ref d), .val (.int (3 : Int32))] [(.int ((3 : Int32) - (3 : Int32)))])) (fun tZ kZ => XS.isub X0.here hx rfl (hb hby d12_3) rfl kZ) ?_
  refine own_by (S' := s₁.setTop (mkF m 6 #[.val (.ref d), .val (.int (3 : Int32))] [(.int (31 : Int32)), (.int ((3 : Int32) - (3 : Int32)))])) (fun tZ kZ => XS.bipush X0.here hx rfl (hb hby d12_4) kZ) ?_
  refine own_by (S' := s₁.setTop (mkF m 7 #[.val (.ref d), .val (.int (3 : Int32))] [(.int ((((3 : Int32) - (3 : Int32)).toUInt32 >>> ((31 : Int32) &&& 31).toUInt32).toInt32))])) (fun tZ kZ => XS.iushr X0.here hx rfl (hb hby d12_6) rfl kZ) ?_
  refine own_by (S' := s₁.setTop (mkF m 8 #[.val (.ref d), .val (.int (3 : Int32))] [(.int (((((3 : Int32) - (3 : Int32)).toUInt32 >>> ((31 : Int32) &&& 31).toUInt32).toInt32).toInt8.toInt32))])) (fun tZ kZ => XS.i2b X0.here hx rfl (hb hby d12_7) rfl kZ) ?_
  exact own_retI X0 hx (t := .byte) Bd.returns (by simp) (by decide) (hb hby d12_8) Bd.notSynchronized (by decide) (by decide) ⟨by decide, N0, e0⟩
theorem d9_0 : decode jdk_42_method_149_code 0 = .ok (.aload_n 0, 1) := by decide +kernel
theorem d9_1 : decode jdk_42_method_149_code 1 = .ok (.invokespecial 1, 3) := by decide +kernel
theorem d9_4 : decode jdk_42_method_149_code 4 = .ok (.iload_n 3, 1) := by decide +kernel
theorem d9_5 : decode jdk_42_method_149_code 5 = .ok (.ifCond .ne 22, 3) := by decide +kernel
theorem d9_8 : decode jdk_42_method_149_code 8 = .ok (.aload_n 0, 1) := by decide +kernel
theorem d9_9 : decode jdk_42_method_149_code 9 = .ok (.ldc 7, 2) := by decide +kernel
theorem d9_11 : decode jdk_42_method_149_code 11 = .ok (.getfield 9, 3) := by decide +kernel
theorem d9_14 : decode jdk_42_method_149_code 14 = .ok (.putfield 9, 3) := by decide +kernel
theorem d9_17 : decode jdk_42_method_149_code 17 = .ok (.aload_n 0, 1) := by decide +kernel
theorem d9_18 : decode jdk_42_method_149_code 18 = .ok (.ldc 7, 2) := by decide +kernel
theorem d9_20 : decode jdk_42_method_149_code 20 = .ok (.getfield 15, 3) := by decide +kernel
theorem d9_23 : decode jdk_42_method_149_code 23 = .ok (.putfield 15, 3) := by decide +kernel
theorem d9_26 : decode jdk_42_method_149_code 26 = .ok (.return_, 1) := by decide +kernel
theorem d9_27 : decode jdk_42_method_149_code 27 = .ok (.getstatic 38, 3) := by decide +kernel
theorem d9_30 : decode jdk_42_method_149_code 30 = .ok (.ifCond .eq 28, 3) := by decide +kernel
theorem d9_33 : decode jdk_42_method_149_code 33 = .ok (.aload_n 1, 1) := by decide +kernel
theorem d9_34 : decode jdk_42_method_149_code 34 = .ok (.iload_n 2, 1) := by decide +kernel
theorem d9_35 : decode jdk_42_method_149_code 35 = .ok (.iload_n 3, 1) := by decide +kernel
theorem d9_36 : decode jdk_42_method_149_code 36 = .ok (.invokestatic 177, 3) := by decide +kernel
theorem d9_39 : decode jdk_42_method_149_code 39 = .ok (.astore 5, 2) := by decide +kernel
theorem d9_41 : decode jdk_42_method_149_code 41 = .ok (.aload_n 0, 1) := by decide +kernel
theorem d9_42 : decode jdk_42_method_149_code 42 = .ok (.aload 5, 2) := by decide +kernel
theorem d9_44 : decode jdk_42_method_149_code 44 = .ok (.iload_n 3, 1) := by decide +kernel
theorem d9_45 : decode jdk_42_method_149_code 45 = .ok (.invokestatic 47, 3) := by decide +kernel
theorem d9_48 : decode jdk_42_method_149_code 48 = .ok (.putfield 15, 3) := by decide +kernel
theorem d9_51 : decode jdk_42_method_149_code 51 = .ok (.aload_n 0, 1) := by decide +kernel
theorem d9_52 : decode jdk_42_method_149_code 52 = .ok (.aload 5, 2) := by decide +kernel
theorem d9_54 : decode jdk_42_method_149_code 54 = .ok (.putfield 9, 3) := by decide +kernel
theorem d9_57 : decode jdk_42_method_149_code 57 = .ok (.return_, 1) := by decide +kernel
theorem d9_58 : decode jdk_42_method_149_code 58 = .ok (.aload_n 0, 1) := by decide +kernel
theorem d9_59 : decode jdk_42_method_149_code 59 = .ok (.iconst 1, 1) := by decide +kernel
theorem d9_60 : decode jdk_42_method_149_code 60 = .ok (.putfield 15, 3) := by decide +kernel
theorem d9_63 : decode jdk_42_method_149_code 63 = .ok (.aload_n 0, 1) := by decide +kernel
theorem d9_64 : decode jdk_42_method_149_code 64 = .ok (.aload_n 1, 1) := by decide +kernel
theorem d9_65 : decode jdk_42_method_149_code 65 = .ok (.iload_n 2, 1) := by decide +kernel
theorem d9_66 : decode jdk_42_method_149_code 66 = .ok (.iload_n 3, 1) := by decide +kernel
theorem d9_67 : decode jdk_42_method_149_code 67 = .ok (.invokestatic 180, 3) := by decide +kernel
theorem d9_70 : decode jdk_42_method_149_code 70 = .ok (.putfield 9, 3) := by decide +kernel
theorem d9_73 : decode jdk_42_method_149_code 73 = .ok (.return_, 1) := by decide +kernel
theorem ef_rmS4 (m : MethodId) (x : Addr) (src : Addr) : entryFrame m #[(.ref x), (.ref src), (.int (0 : Int32)), (.int (3 : Int32)), .null] 6 = mkF m 0 #[.val (.ref x), .val (.ref src), .val (.int (0 : Int32)), .val (.int (3 : Int32)), .val .null, .unset] [] := by first | (simp [entryFrame, mkF, argsToLocals, Value.category, maxLocals]; done) | rfl
set_option maxRecDepth 65536 in
set_option maxHeartbeats 40000000 in
theorem rmS4 (l : Launch) (Z : State) (a0 : Array Value) (hw : ∀ d ∈ tables_1, d.before a0 Z = true) (ws : List Jvm.Cond) (x : Addr) (src : Addr) (ks : ClassId) (ca cb cc : Int32) (cz : Int32) (h0 : Heap) (n0 : Nat) (Z0 : n0 ≤ h0.size) (V_src : OwnA Z h0 src ks .char [.int ca, .int cb, .int cc]) (ha : ¬ (255 : Int32) < ca) (hb_ : ¬ (255 : Int32) < cb) (hc_ : ¬ (255 : Int32) < cc) (Sc : Sta Z h0 "java/lang/String" "COMPACT_STRINGS" "Z" (.int cz)) (hcz : ¬ cz = 0) (Ex_x : Exa Z h0 x "java/lang/String") (F_value_x : Fld Z h0 x "java/lang/String" "value" "[B" .null) (F_coder_x : Fld Z h0 x "java/lang/String" "coder" "B" (.int 0)) (g_x : n0 ≤ x) (n_sx : src ≠ x) :
    MetFree l (⟨"java/lang/String", "<init>", "([CIILjava/lang/Void;)V"⟩ : MethodName) (head1 (Jvm.Cond.code (⟨"java/lang/String", "<init>", "([CIILjava/lang/Void;)V"⟩ : MethodName) jdk_42_method_149_code (6 : Nat) (Option.none : Option Jvm.ClassFile.FieldType) :: ws) ({ frames := 2, cells := 1, slots := 3, locals := 35 } : Room)) (fun aZ UZ => aZ = #[(.ref x), (.ref src), (.int (0 : Int32)), (.int (3 : Int32)), .null] ∧ Z.Warmed39 UZ.vm ∧ UZ.heap = h0) (fun _ _ _ _ _ => True) (fun _ UZ oZ VZ => ∃ vZ LZ, oZ = .returned vZ ∧ (QK x h0 n0) vZ VZ.heap LZ ∧ FrameEnd UZ oZ VZ LZ ({ frames := 2, cells := 1, slots := 3, locals := 35 } : Room).cells ({ frames := 2, cells := 1, slots := 3, locals := 35 } : Room).slots) := by
  refine MetFree.of_bodySF (plainFor_of_name pn_1) hisR ?_
  intro p e s m args below meth c s₁ Bd hml0 hP hK
  obtain ⟨rfl, hZ, hh⟩ := hP
  have hx := Bd.exec
  have hby := Bd.bytes
  have hml : c.maxLocals = 6 := hml0
  have hown : s.vm.findClass "java/lang/String" = some m.cls := findClass_of_methodNamed Bd.named
  have hnm := (name_of_methodNamed Bd.named Bd.method).1
  have X0 : Stand p l e ({ frames := 2, cells := 1, slots := 3, locals := 35 } : Room) s m #[(.ref x), (.ref src), (.int (0 : Int32)), (.int (3 : Int32)), .null] below meth c s₁ [] 0 0 := Stand.of_body Bd
  have e0 : s₁.heap = h0 := by rw [← hh, Bd.state]; rfl
  have N0 := Fr.nil n0
  show OwnG p e below (OwnE s (QK x h0 n0) ({ frames := 2, cells := 1, slots := 3, locals := 35 } : Room).cells ({ frames := 2, cells := 1, slots := 3, locals := 35 } : Room).slots) _
  refine own_by (S' := s₁.setTop (mkF m 0 #[.val (.ref x), .val (.ref src), .val (.int (0 : Int32)), .val (.int (3 : Int32)), .val .null, .unset] [])) (fun tZ kZ => castTop (ef_rmS4 m x src) kZ) ?_
  refine own_by (S' := s₁.setTop (mkF m 1 #[.val (.ref x), .val (.ref src), .val (.int (0 : Int32)), .val (.int (3 : Int32)), .val .null, .unset] [(.ref x)])) (fun tZ kZ => XS.aloadN X0.here hx rfl (hb hby d9_0) rfl rfl kZ) ?_
  obtain ⟨T1, X1, e1, st1⟩ := initO X0 hx hZ hown (hw _ (List.mem_of_getElem? (i := 81) rfl)) (hw _ (List.mem_of_getElem? (i := 25) rfl)) (hw _ (List.mem_of_getElem? (i := 26) rfl)) e0 (g := (mkF m 1 #[.val (.ref x), .val (.ref src), .val (.int (0 : Int32)), .val (.int (3 : Int32)), .val .null, .unset] [(.ref x)])) rfl (by rw [hml]; rfl) rfl (hb hby d9_1) (by decide) (W := 0) (by show 2 * 0 + _ ≤ _; exact Nat.le_of_eq rfl) (by decide)
  refine own_by (S' := T1.setTop (mkF m 4 #[.val (.ref x), .val (.ref src), .val (.int (0 : Int32)), .val (.int (3 : Int32)), .val .null, .unset] [])) st1 ?_
  refine own_by (S' := T1.setTop (mkF m 5 #[.val (.ref x), .val (.ref src), .val (.int (0 : Int32)), .val (.int (3 : Int32)), .val .null, .unset] [(.int (3 : Int32))])) (fun tZ kZ => XS.iloadN X1.here hx rfl (hb hby d9_4) rfl kZ) ?_
  refine own_by (S' := T1.setTop (mkF m 27 #[.val (.ref x), .val (.ref src), .val (.int (0 : Int32)), .val (.int (3 : Int32)), .val .null, .unset] [])) (fun tZ kZ => XS.ifYes X1.here hx rfl (pc0 := 5) (pc' := 27) rfl (hb hby d9_5) rfl ((if0 _ _).trans (feq (by decide)).2) (by decide) (by decide) kZ) ?_
  obtain ⟨T2, X2, e2, st2⟩ := getS2 X1 hx hZ hown (host := "") (Or.inl (hw _ (List.mem_of_getElem? (i := 82) rfl))) Via.refl e1 Sc (g := (mkF m 27 #[.val (.ref x), .val (.ref src), .val (.int (0 : Int32)), .val (.int (3 : Int32)), .val .null, .unset] [])) rfl (hb hby d9_27)
  refine own_by (S' := T2.setTop (mkF m 30 #[.val (.ref x), .val (.ref src), .val (.int (0 : Int32)), .val (.int (3 : Int32)), .val .null, .unset] [(.int cz)])) st2 ?_
  refine own_by (S' := T2.setTop (mkF m 33 #[.val (.ref x), .val (.ref src), .val (.int (0 : Int32)), .val (.int (3 : Int32)), .val .null, .unset] [])) (fun tZ kZ => XS.ifNo X2.here hx rfl (hb hby d9_30) rfl ((if0 _ _).trans (feq hcz).1) kZ) ?_
  refine own_by (S' := T2.setTop (mkF m 34 #[.val (.ref x), .val (.ref src), .val (.int (0 : Int32)), .val (.int (3 : Int32)), .val .null, .unset] [(.ref src)])) (fun tZ kZ => XS.aloadN X2.here hx rfl (hb hby d9_33) rfl rfl kZ) ?_
  refine own_by (S' := T2.setTop (mkF m 35 #[.val (.ref x), .val (.ref src), .val (.int (0 : Int32)), .val (.int (3 : Int32)), .val .null, .unset] [(.int (0 : Int32)), (.ref src)])) (fun tZ kZ => XS.iloadN X2.here hx rfl (hb hby d9_34) rfl kZ) ?_
  refine own_by (S' := T2.setTop (mkF m 36 #[.val (.ref x), .val (.ref src), .val (.int (0 : Int32)), .val (.int (3 : Int32)), .val .null, .unset] [(.int (3 : Int32)), (.int (0 : Int32)), (.ref src)])) (fun tZ kZ => XS.iloadN X2.here hx rfl (hb hby d9_35) rfl kZ) ?_
  obtain ⟨_, _, ⟨T3, L3, k3, n3⟩, -, X3, ⟨Lc3, hQ3, l3, y3, z3⟩, st3⟩ := Jvm.LawKit.callS X2 hx (y := (⟨"java/lang/StringUTF16", "compress", "([CII)[B"⟩ : MethodName)) hown (mvT hZ (hw _ (List.mem_of_getElem? (i := 83) rfl))) (mvT hZ (hw _ (List.mem_of_getElem? (i := 84) rfl))) (mvT hZ (hw _ (List.mem_of_getElem? (i := 85) rfl))) (mvT hZ (hw _ (List.mem_of_getElem? (i := 86) rfl))) (by decide) (backOf (W := 0) (rmC3 l Z a0 hw [] src ks ca cb cc h0 n0 Z0 V_src ha hb_ hc_) hZ (hw _ (List.mem_of_getElem? (i := 86) rfl)) (hw _ (List.mem_of_getElem? (i := 85) rfl)) (by decide) (by decide)) (g := (mkF m 36 #[.val (.ref x), .val (.ref src), .val (.int (0 : Int32)), .val (.int (3 : Int32)), .val .null, .unset] [(.int (3 : Int32)), (.int (0 : Int32)), (.ref src)])) rfl (by rw [hml]; rfl) (argsL := [(.ref src), (.int (0 : Int32)), (.int (3 : Int32))]) (rest := []) (lenOf pd_4 rfl) rfl (by show 2 * 0 + _ ≤ _; exact Nat.le_of_eq rfl) (hb hby d9_36) (fun _ _ => ⟨rfl, e2, (by decide : 0 + 1 ≤ _), (by decide : 0 + 3 ≤ _)⟩)
  dsimp only [Pt.U, Pt.locs, Pt.cells, Pt.slots] at X3 l3 y3 z3 st3 hQ3
  subst l3 y3 z3
  obtain ⟨d, kd, wz, rfl, N3q, Kc3, Vz3, hz3⟩ := hQ3
  have N3 := Fr.app N0 N3q
  have Zs3 := Nat.le_trans Z0 Kc3.1
  have Ec3 := own_ext0 Kc3
  have K3 := (Keep.refl h0 [x]).ext Ec3
  have Ex_x_3 := Ex_x.ext Ec3
  have F_value_x_3 := F_value_x.ext Ec3
  have F_coder_x_3 := F_coder_x.ext Ec3
  have V_src_3 := V_src.ext Ec3
  have Sc_3 := Sc.ext Ec3
  refine own_by (S' := T3.setTop (mkF m 39 #[.val (.ref x), .val (.ref src), .val (.int (0 : Int32)), .val (.int (3 : Int32)), .val .null, .unset] [(.ref d)])) (fun tZ kZ => st3 _ kZ) ?_
  refine own_by (S' := T3.setTop (mkF m 41 #[.val (.ref x), .val (.ref src), .val (.int (0 : Int32)), .val (.int (3 : Int32)), .val .null, .val (.ref d)] [])) (fun tZ kZ => XS.astore X3.here hx rfl (hb hby d9_39) rfl rfl (l' := #[.val (.ref x), .val (.ref src), .val (.int (0 : Int32)), .val (.int (3 : Int32)), .val .null, .val (.ref d)]) rfl kZ) ?_
  refine own_by (S' := T3.setTop (mkF m 42 #[.val (.ref x), .val (.ref src), .val (.int (0 : Int32)), .val (.int (3 : Int32)), .val .null, .val (.ref d)] [(.ref x)])) (fun tZ kZ => XS.aloadN X3.here hx rfl (hb hby d9_41) rfl rfl kZ) ?_
  refine own_by (S' := T3.setTop (mkF m 44 #[.val (.ref x), .val (.ref src), .val (.int (0 : Int32)), .val (.int (3 : Int32)), .val .null, .val (.ref d)] [(.ref d), (.ref x)])) (fun tZ kZ => XS.aload X3.here hx rfl (hb hby d9_42) rfl rfl kZ) ?_
  refine own_by (S' := T3.setTop (mkF m 45 #[.val (.ref x), .val (.ref src), .val (.int (0 : Int32)), .val (.int (3 : Int32)), .val .null, .val (.ref d)] [(.int (3 : Int32)), (.ref d), (.ref x)])) (fun tZ kZ => XS.iloadN X3.here hx rfl (hb hby d9_44) rfl kZ) ?_
  obtain ⟨_, _, ⟨T4, L4, k4, n4⟩, -, X4, ⟨Lc4, hQ4, l4, y4, z4⟩, st4⟩ := Jvm.LawKit.callS X3 hx (y := (⟨"java/lang/StringUTF16", "coderFromArrayLen", "([BI)B"⟩ : MethodName)) hown (mvT hZ (hw _ (List.mem_of_getElem? (i := 91) rfl))) (mvT hZ (hw _ (List.mem_of_getElem? (i := 92) rfl))) (mvT hZ (hw _ (List.mem_of_getElem? (i := 85) rfl))) (mvT hZ (hw _ (List.mem_of_getElem? (i := 93) rfl))) (by decide) (backOf (W := 1) (rmCo l Z a0 hw [] d kd wz T3.heap n0 Zs3 Vz3 hz3) hZ (hw _ (List.mem_of_getElem? (i := 93) rfl)) (hw _ (List.mem_of_getElem? (i := 85) rfl)) (by decide) (by decide)) (g := (mkF m 45 #[.val (.ref x), .val (.ref src), .val (.int (0 : Int32)), .val (.int (3 : Int32)), .val .null, .val (.ref d)] [(.int (3 : Int32)), (.ref d), (.ref x)])) rfl (by rw [hml]; rfl) (argsL := [(.ref d), (.int (3 : Int32))]) (rest := [(.ref x)]) (lenOf pd_5 rfl) rfl (by show 2 * 0 + _ ≤ _; exact Nat.le_of_eq rfl) (hb hby d9_45) (fun _ _ => ⟨rfl, rfl, (by decide : 1 + 0 ≤ _), (by decide : 3 + 0 ≤ _)⟩)
  dsimp only [Pt.U, Pt.locs, Pt.cells, Pt.slots] at X4 l4 y4 z4 st4 hQ4
  subst l4 y4 z4
  obtain ⟨rfl, N4q, heq4⟩ := hQ4
  have N4 := Fr.app N3 N4q
  refine own_by (S' := T4.setTop (mkF m 48 #[.val (.ref x), .val (.ref src), .val (.int (0 : Int32)), .val (.int (3 : Int32)), .val .null, .val (.ref d)] [(.int (0 : Int32)), (.ref x)])) (fun tZ kZ => st4 _ kZ) ?_
  obtain ⟨T5, h5, X5, e5, W5, st5⟩ := putFN X4 hx hZ hown (hw _ (List.mem_of_getElem? (i := 94) rfl)) Via.refl heq4 F_coder_x_3 Ex_x_3 (Or.inr ⟨(hw _ (List.mem_of_getElem? (i := 95) rfl)), rfl, hnm⟩) (hw _ (List.mem_of_getElem? (i := 72) rfl)) (ty := .byte) (v' := (.int (0 : Int32))) (by decide) rfl rfl (g := (mkF m 48 #[.val (.ref x), .val (.ref src), .val (.int (0 : Int32)), .val (.int (3 : Int32)), .val .null, .val (.ref d)] [(.int (0 : Int32)), (.ref x)])) rfl rfl (hb hby d9_48)
  have N5 := Fr.snoc X5 N4 g_x
  have Ex_x_5 := Ex_x_3.wr W5
  have F_value_x_5 := F_value_x_3.other W5 (Or.inr (slot_ne (Or.inr (hw _ (List.mem_of_getElem? (i := 97) rfl))) (Or.inr (hw _ (List.mem_of_getElem? (i := 95) rfl))) (by decide) (t := (.array .byte)) (t' := .byte) (by decide) (by decide)))
  have F_coder_x_5 := F_coder_x_3.same W5
  have V_src_5 := V_src_3.other W5 n_sx
  have Zs5 : n0 ≤ h5.size := Nat.le_trans Zs3 (Keep.of_wr W5).1
  have K5 := K3.wr W5 (Or.inl (List.mem_of_getElem? (i := 0) rfl))
  refine own_by (S' := T5.setTop (mkF m 51 #[.val (.ref x), .val (.ref src), .val (.int (0 : Int32)), .val (.int (3 : Int32)), .val .null, .val (.ref d)] [])) st5 ?_
  refine own_by (S' := T5.setTop (mkF m 52 #[.val (.ref x), .val (.ref src), .val (.int (0 : Int32)), .val (.int (3 : Int32)), .val .null, .val (.ref d)] [(.ref x)])) (fun tZ kZ => XS.aloadN X5.here hx rfl (hb hby d9_51) rfl rfl kZ) ?_
  refine own_by (S' := T5.setTop (mkF m 54 #[.val (.ref x), .val (.ref src), .val (.int (0 : Int32)), .val (.int (3 : Int32)), .val .null, .val (.ref d)] [(.ref d), (.ref x)])) (fun tZ kZ => XS.aload X5.here hx rfl (hb hby d9_52) rfl rfl kZ) ?_
  obtain ⟨T6, h6, X6, e6, W6, st6⟩ := putF X5 hx hZ hown (host := "") (Or.inl (hw _ (List.mem_of_getElem? (i := 96) rfl))) Via.refl e5 F_value_x_5 Ex_x_5 (Or.inr ⟨(hw _ (List.mem_of_getElem? (i := 97) rfl)), rfl, hnm⟩) (hw _ (List.mem_of_getElem? (i := 72) rfl)) (ty := (.array .byte)) (by decide) rfl rfl (g := (mkF m 54 #[.val (.ref x), .val (.ref src), .val (.int (0 : Int32)), .val (.int (3 : Int32)), .val .null, .val (.ref d)] [(.ref d), (.ref x)])) rfl rfl (hb hby d9_54)
  have N6 := Fr.snoc X6 N5 g_x
  have Ex_x_6 := Ex_x_5.wr W6
  have F_value_x_6 := F_value_x_5.same W6
  have F_coder_x_6 := F_coder_x_5.other W6 (Or.inr (slot_ne (Or.inr (hw _ (List.mem_of_getElem? (i := 95) rfl))) (Or.inr (hw _ (List.mem_of_getElem? (i := 97) rfl))) (by decide) (t := .byte) (t' := (.array .byte)) (by decide) (by decide)))
  have V_src_6 := V_src_5.other W6 n_sx
  have Zs6 : n0 ≤ h6.size := Nat.le_trans Zs5 (Keep.of_wr W6).1
  have K6 := K5.wr W6 (Or.inl (List.mem_of_getElem? (i := 0) rfl))
  refine own_by (S' := T6.setTop (mkF m 57 #[.val (.ref x), .val (.ref src), .val (.int (0 : Int32)), .val (.int (3 : Int32)), .val .null, .val (.ref d)] [])) st6 ?_
  exact own_ret0 X6 hx Bd.returns (hb hby d9_57) Bd.notSynchronized (by decide) (by decide) (show QK x h0 n0 none T6.heap _ from by rw [e6]; exact ⟨rfl, N6, K6⟩)
theorem d8_0 : decode jdk_42_method_3_code 0 = .ok (.aload_n 0, 1) := by decide +kernel
theorem d8_1 : decode jdk_42_method_3_code 1 = .ok (.aload_n 1, 1) := by decide +kernel
theorem d8_2 : decode jdk_42_method_3_code 2 = .ok (.iconst 0, 1) := by decide +kernel
theorem d8_3 : decode jdk_42_method_3_code 3 = .ok (.aload_n 1, 1) := by decide +kernel
theorem d8_4 : decode jdk_42_method_3_code 4 = .ok (.arraylength, 1) := by decide +kernel
theorem d8_5 : decode jdk_42_method_3_code 5 = .ok (.aconst_null, 1) := by decide +kernel
theorem d8_6 : decode jdk_42_method_3_code 6 = .ok (.invokespecial 27, 3) := by decide +kernel
theorem d8_9 : decode jdk_42_method_3_code 9 = .ok (.return_, 1) := by decide +kernel
theorem ef_rmS1 (m : MethodId) (x : Addr) (src : Addr) : entryFrame m #[(.ref x), (.ref src)] 2 = mkF m 0 #[.val (.ref x), .val (.ref src)] [] := by first | (simp [entryFrame, mkF, argsToLocals, Value.category, maxLocals]; done) | rfl
set_option maxRecDepth 65536 in
set_option maxHeartbeats 40000000 in
theorem rmS1 (l : Launch) (Z : State) (a0 : Array Value) (hw : ∀ d ∈ tables_1, d.before a0 Z = true) (ws : List Jvm.Cond) (x : Addr) (src : Addr) (ks : ClassId) (ca cb cc : Int32) (cz : Int32) (h0 : Heap) (n0 : Nat) (Z0 : n0 ≤ h0.size) (V_src : OwnA Z h0 src ks .char [.int ca, .int cb, .int cc]) (ha : ¬ (255 : Int32) < ca) (hb_ : ¬ (255 : Int32) < cb) (hc_ : ¬ (255 : Int32) < cc) (Sc : Sta Z h0 "java/lang/String" "COMPACT_STRINGS" "Z" (.int cz)) (hcz : ¬ cz = 0) (Ex_x : Exa Z h0 x "java/lang/String") (F_value_x : Fld Z h0 x "java/lang/String" "value" "[B" .null) (F_coder_x : Fld Z h0 x "java/lang/String" "coder" "B" (.int 0)) (g_x : n0 ≤ x) (n_sx : src ≠ x) :
    MetFree l (⟨"java/lang/String", "<init>", "([C)V"⟩ : MethodName) (head1 (Jvm.Cond.code (⟨"java/lang/String", "<init>", "([C)V"⟩ : MethodName) jdk_42_method_3_code (2 : Nat) (Option.none : Option Jvm.ClassFile.FieldType) :: ws) ({ frames := 3, cells := 1, slots := 3, locals := 52 } : Room)) (fun aZ UZ => aZ = #[(.ref x), (.ref src)] ∧ Z.Warmed39 UZ.vm ∧ UZ.heap = h0) (fun _ _ _ _ _ => True) (fun _ UZ oZ VZ => ∃ vZ LZ, oZ = .returned vZ ∧ (QK x h0 n0) vZ VZ.heap LZ ∧ FrameEnd UZ oZ VZ LZ ({ frames := 3, cells := 1, slots := 3, locals := 52 } : Room).cells ({ frames := 3, cells := 1, slots := 3, locals := 52 } : Room).slots) := by
  refine MetFree.of_bodySF (plainFor_of_name pn_1) hisR ?_
  intro p e s m args below meth c s₁ Bd hml0 hP hK
  obtain ⟨rfl, hZ, hh⟩ := hP
  have hx := Bd.exec
  have hby := Bd.bytes
  have hml : c.maxLocals = 2 := hml0
  have hown : s.vm.findClass "java/lang/String" = some m.cls := findClass_of_methodNamed Bd.named
  have hnm := (name_of_methodNamed Bd.named Bd.method).1
  have X0 : Stand p l e ({ frames := 3, cells := 1, slots := 3, locals := 52 } : Room) s m #[(.ref x), (.ref src)] below meth c s₁ [] 0 0 := Stand.of_body Bd
  have e0 : s₁.heap = h0 := by rw [← hh, Bd.state]; rfl
  have N0 := Fr.nil n0
  show OwnG p e below (OwnE s (QK x h0 n0) ({ frames := 3, cells := 1, slots := 3, locals := 52 } : Room).cells ({ frames := 3, cells := 1, slots := 3, locals := 52 } : Room).slots) _
  refine own_by (S' := s₁.setTop (mkF m 0 #[.val (.ref x), .val (.ref src)] [])) (fun tZ kZ => castTop (ef_rmS1 m x src) kZ) ?_
  refine own_by (S' := s₁.setTop (mkF m 1 #[.val (.ref x), .val (.ref src)] [(.ref x)])) (fun tZ kZ => XS.aloadN X0.here hx rfl (hb hby d8_0) rfl rfl kZ) ?_
  refine own_by (S' := s₁.setTop (mkF m 2 #[.val (.ref x), .val (.ref src)] [(.ref src), (.ref x)])) (fun tZ kZ => XS.aloadN X0.here hx rfl (hb hby d8_1) rfl rfl kZ) ?_
  refine own_by (S' := s₁.setTop (mkF m 3 #[.val (.ref x), .val (.ref src)] [(.int (0 : Int32)), (.ref src), (.ref x)])) (fun tZ kZ => XS.iconst X0.here hx rfl (hb hby d8_2) kZ) ?_
  refine own_by (S' := s₁.setTop (mkF m 4 #[.val (.ref x), .val (.ref src)] [(.ref src), (.int (0 : Int32)), (.ref src), (.ref x)])) (fun tZ kZ => XS.aloadN X0.here hx rfl (hb hby d8_3) rfl rfl kZ) ?_
  obtain ⟨cc1, Ar1, hc1, hl1⟩ := id V_src
  refine own_by (S' := s₁.setTop (mkF m 5 #[.val (.ref x), .val (.ref src)] [(.int (3 : Int32)), (.int (0 : Int32)), (.ref src), (.ref x)])) (fun tZ kZ => X0.arraylength hx (by rw [e0]; exact Ar1.1) (State.isArrayOf_alike hZ.alike Ar1.2.1) (g := (mkF m 4 #[.val (.ref x), .val (.ref src)] [(.ref src), (.int (0 : Int32)), (.ref src), (.ref x)])) rfl rfl (hb hby d8_4) _ (by rw [len_of (OwnA.size (z := (3 : Int32)) hl1 rfl) (by decide)]; exact kZ)) ?_
  refine own_by (S' := s₁.setTop (mkF m 6 #[.val (.ref x), .val (.ref src)] [.null, (.int (3 : Int32)), (.int (0 : Int32)), (.ref src), (.ref x)])) (fun tZ kZ => XS.aconstNull X0.here hx rfl (hb hby d8_5) kZ) ?_
  obtain ⟨_, _, ⟨T2, L2, k2, n2⟩, -, X2, ⟨Lc2, hQ2, l2, y2, z2⟩, st2⟩ := X0.specialBack hx (y := (⟨"java/lang/String", "<init>", "([CIILjava/lang/Void;)V"⟩ : MethodName)) rfl hown (mvT hZ (hw _ (List.mem_of_getElem? (i := 77) rfl))) (mvT hZ (hw _ (List.mem_of_getElem? (i := 78) rfl))) (mvT hZ (hw _ (List.mem_of_getElem? (i := 80) rfl))) (by decide) (backOf (W := 0) (rmS4 l Z a0 hw [] x src ks ca cb cc cz h0 n0 Z0 V_src ha hb_ hc_ Sc hcz Ex_x F_value_x F_coder_x g_x n_sx) hZ (hw _ (List.mem_of_getElem? (i := 80) rfl)) (hw _ (List.mem_of_getElem? (i := 73) rfl)) (by decide) (by decide)) (g := (mkF m 6 #[.val (.ref x), .val (.ref src)] [.null, (.int (3 : Int32)), (.int (0 : Int32)), (.ref src), (.ref x)])) rfl (by rw [hml]; rfl) (Steps.refl _) (a := x) (argsL := [(.ref src), (.int (0 : Int32)), (.int (3 : Int32)), .null]) (rest := []) (lenOf pd_6 rfl) rfl (by show 2 * 0 + _ ≤ _; exact Nat.le_of_eq rfl) (hb hby d8_6) (fun _ _ => ⟨rfl, e0, (by decide : 0 + 1 ≤ _), (by decide : 0 + 3 ≤ _)⟩)
  dsimp only [Pt.U, Pt.locs, Pt.cells, Pt.slots] at X2 l2 y2 z2 st2 hQ2
  subst l2 y2 z2
  obtain ⟨rfl, N2q, Kc2⟩ := hQ2
  have N2 := Fr.app N0 N2q
  have Zs2 := Nat.le_trans Z0 Kc2.1
  have K2 := (Keep.refl h0 [x]).trans Kc2 (fun x hx => by
      simp only [List.mem_cons, List.not_mem_nil, or_false] at hx
      rcases hx with rfl
      · exact Or.inl (List.mem_of_getElem? (i := 0) rfl))
  have Ex_x_2 := Ex_x.keep Kc2
  refine own_by (S' := T2.setTop (mkF m 9 #[.val (.ref x), .val (.ref src)] [])) (fun tZ kZ => st2.trans kZ) ?_
  exact own_ret0 X2 hx Bd.returns (hb hby d8_9) Bd.notSynchronized (by decide) (by decide) ⟨rfl, N2, K2⟩
theorem d4_0 : decode jdk_78_method_2_code 0 = .ok (.aload_n 0, 1) := by decide +kernel
theorem d4_1 : decode jdk_78_method_2_code 1 = .ok (.invokespecial 1, 3) := by decide +kernel
theorem d4_4 : decode jdk_78_method_2_code 4 = .ok (.aload_n 0, 1) := by decide +kernel
theorem d4_5 : decode jdk_78_method_2_code 5 = .ok (.aload_n 0, 1) := by decide +kernel
theorem d4_6 : decode jdk_78_method_2_code 6 = .ok (.putfield 7, 3) := by decide +kernel
theorem d4_9 : decode jdk_78_method_2_code 9 = .ok (.aload_n 0, 1) := by decide +kernel
theorem d4_10 : decode jdk_78_method_2_code 10 = .ok (.getstatic 13, 3) := by decide +kernel
theorem d4_13 : decode jdk_78_method_2_code 13 = .ok (.putfield 17, 3) := by decide +kernel
theorem d4_16 : decode jdk_78_method_2_code 16 = .ok (.aload_n 0, 1) := by decide +kernel
theorem d4_17 : decode jdk_78_method_2_code 17 = .ok (.getstatic 20, 3) := by decide +kernel
theorem d4_20 : decode jdk_78_method_2_code 20 = .ok (.putfield 24, 3) := by decide +kernel
theorem d4_23 : decode jdk_78_method_2_code 23 = .ok (.aload_n 0, 1) := by decide +kernel
theorem d4_24 : decode jdk_78_method_2_code 24 = .ok (.invokevirtual 27, 3) := by decide +kernel
theorem d4_27 : decode jdk_78_method_2_code 27 = .ok (.pop, 1) := by decide +kernel
theorem d4_28 : decode jdk_78_method_2_code 28 = .ok (.aload_n 0, 1) := by decide +kernel
theorem d4_29 : decode jdk_78_method_2_code 29 = .ok (.aload_n 1, 1) := by decide +kernel
theorem d4_30 : decode jdk_78_method_2_code 30 = .ok (.putfield 31, 3) := by decide +kernel
theorem d4_33 : decode jdk_78_method_2_code 33 = .ok (.return_, 1) := by decide +kernel
theorem pn_3 : plainName "java/lang/Throwable" = true := by first | (simp [plainName, overriddenIn]; done) | decide +kernel
theorem ef_rmTh0 (m : MethodId) (x : Addr) : entryFrame m #[(.ref x), .null] 2 = mkF m 0 #[.val (.ref x), .val .null] [] := by first | (simp [entryFrame, mkF, argsToLocals, Value.category, maxLocals]; done) | rfl
set_option maxRecDepth 65536 in
set_option maxHeartbeats 40000000 in
theorem rmTh0 (l : Launch) (Z : State) (a0 : Array Value) (hw : ∀ d ∈ tables_1, d.before a0 Z = true) (ws : List Jvm.Cond) (x us se : Addr) (h0 : Heap) (n0 : Nat) (Z0 : n0 ≤ h0.size) (HT : ThS Z h0) (hl : l.stackTraces = true) (S_us : Sta Z h0 "java/lang/Throwable" "UNASSIGNED_STACK" "[Ljava/lang/StackTraceElement;" (.ref us)) (S_se : Sta Z h0 "java/lang/Throwable" "SUPPRESSED_SENTINEL" "Ljava/util/List;" (.ref se)) (Ex_x : Exa Z h0 x "com/example/idpd/idpd/RefusedMessageException") (N_x : Unt h0 x) (F_cause_x : Fld Z h0 x "java/lang/Throwable" "cause" "Ljava/lang/Throwable;" .null) (F_stackTrace_x : Fld Z h0 x "java/lang/Throwable" "stackTrace" "[Ljava/lang/StackTraceElement;" .null) (F_suppressedExceptions_x : Fld Z h0 x "java/lang/Throwable" "suppressedExceptions" "Ljava/util/List;" .null) (F_detailMessage_x : Fld Z h0 x "java/lang/Throwable" "detailMessage" "Ljava/lang/String;" .null) (F_backtrace_x : Fld Z h0 x "java/lang/Throwable" "backtrace" "Ljava/lang/Object;" .null) (F_depth_x : Fld Z h0 x "java/lang/Throwable" "depth" "I" (.int 0)) (F_kind_x : Fld Z h0 x "com/example/idpd/idpd/RefusedMessageException" "kind" "Lcom/example/idpd/idpd/RefusedMessageException$Kind;" .null) (g_x : n0 ≤ x) :
    MetFree l (⟨"java/lang/Throwable", "<init>", "(Ljava/lang/String;)V"⟩ : MethodName) (head1 (Jvm.Cond.code (⟨"java/lang/Throwable", "<init>", "(Ljava/lang/String;)V"⟩ : MethodName) jdk_78_method_2_code (2 : Nat) (Option.none : Option Jvm.ClassFile.FieldType) :: ws) ({ frames := 3, cells := 1, slots := 2752, locals := 42 } : Room)) (fun aZ UZ => aZ = #[(.ref x), .null] ∧ Z.Warmed39 UZ.vm ∧ UZ.heap = h0) (fun _ _ bl sZ _ => sZ.vm.MethodsKnown ∧ sZ.vm.FramesKnown bl) (fun _ UZ oZ VZ => ∃ vZ LZ, oZ = .returned vZ ∧ (QTh Z x h0 n0) vZ VZ.heap LZ ∧ FrameEnd UZ oZ VZ LZ ({ frames := 3, cells := 1, slots := 2752, locals := 42 } : Room).cells ({ frames := 3, cells := 1, slots := 2752, locals := 42 } : Room).slots) := by
  refine MetFree.of_bodySF (plainFor_of_name pn_3) hisR ?_
  intro p e s m args below meth c s₁ Bd hml0 hP hK
  obtain ⟨rfl, hZ, hh⟩ := hP
  obtain ⟨hTK, hBelow⟩ := hK
  have hx := Bd.exec
  have hby := Bd.bytes
  have hml : c.maxLocals = 2 := hml0
  have hown : s.vm.findClass "java/lang/Throwable" = some m.cls := findClass_of_methodNamed Bd.named
  have hnm := (name_of_methodNamed Bd.named Bd.method).1
  have X0 : Stand p l e ({ frames := 3, cells := 1, slots := 2752, locals := 42 } : Room) s m #[(.ref x), .null] below meth c s₁ [] 0 0 := Stand.of_body Bd
  have e0 : s₁.heap = h0 := by rw [← hh, Bd.state]; rfl
  have N0 := Fr.nil n0
  show OwnG p e below (OwnE s (QTh Z x h0 n0) ({ frames := 3, cells := 1, slots := 2752, locals := 42 } : Room).cells ({ frames := 3, cells := 1, slots := 2752, locals := 42 } : Room).slots) _
  refine own_by (S' := s₁.setTop (mkF m 0 #[.val (.ref x), .val .null] [])) (fun tZ kZ => castTop (ef_rmTh0 m x) kZ) ?_
  refine own_by (S' := s₁.setTop (mkF m 1 #[.val (.ref x), .val .null] [(.ref x)])) (fun tZ kZ => XS.aloadN X0.here hx rfl (hb hby d4_0) rfl rfl kZ) ?_
  obtain ⟨T1, X1, e1, st1⟩ := initO X0 hx hZ hown (hw _ (List.mem_of_getElem? (i := 24) rfl)) (hw _ (List.mem_of_getElem? (i := 25) rfl)) (hw _ (List.mem_of_getElem? (i := 26) rfl)) e0 (g := (mkF m 1 #[.val (.ref x), .val .null] [(.ref x)])) rfl (by rw [hml]; rfl) rfl (hb hby d4_1) (by decide) (W := 0) (by show 2 * 0 + _ ≤ _; exact Nat.le_of_eq rfl) (by decide)
  refine own_by (S' := T1.setTop (mkF m 4 #[.val (.ref x), .val .null] [])) st1 ?_
  refine own_by (S' := T1.setTop (mkF m 5 #[.val (.ref x), .val .null] [(.ref x)])) (fun tZ kZ => XS.aloadN X1.here hx rfl (hb hby d4_4) rfl rfl kZ) ?_
  refine own_by (S' := T1.setTop (mkF m 6 #[.val (.ref x), .val .null] [(.ref x), (.ref x)])) (fun tZ kZ => XS.aloadN X1.here hx rfl (hb hby d4_5) rfl rfl kZ) ?_
  obtain ⟨T2, h2, X2, e2, W2, st2⟩ := putF X1 hx hZ hown (host := "") (Or.inl (hw _ (List.mem_of_getElem? (i := 27) rfl))) Via.refl e1 F_cause_x Ex_x (Or.inl (hw _ (List.mem_of_getElem? (i := 28) rfl))) (hw _ (List.mem_of_getElem? (i := 6) rfl)) (ty := (.object "java/lang/Throwable")) (by decide) rfl rfl (g := (mkF m 6 #[.val (.ref x), .val .null] [(.ref x), (.ref x)])) rfl rfl (hb hby d4_6)
  have N2 := Fr.snoc X2 N0 g_x
  have Ex_x_2 := Ex_x.wr W2
  have N_x_2 := N_x.wr W2
  have S_us_2 := S_us.wr W2
  have S_se_2 := S_se.wr W2
  have F_cause_x_2 := F_cause_x.same W2
  have F_stackTrace_x_2 := F_stackTrace_x.other W2 (Or.inr (slot_ne (Or.inl (hw _ (List.mem_of_getElem? (i := 31) rfl))) (Or.inl (hw _ (List.mem_of_getElem? (i := 28) rfl))) (by decide) (t := (.array (.object "java/lang/StackTraceElement"))) (t' := (.object "java/lang/Throwable")) (by decide) (by decide)))
  have F_suppressedExceptions_x_2 := F_suppressedExceptions_x.other W2 (Or.inr (slot_ne (Or.inl (hw _ (List.mem_of_getElem? (i := 34) rfl))) (Or.inl (hw _ (List.mem_of_getElem? (i := 28) rfl))) (by decide) (t := (.object "java/util/List")) (t' := (.object "java/lang/Throwable")) (by decide) (by decide)))
  have F_detailMessage_x_2 := F_detailMessage_x.other W2 (Or.inr (slot_ne (Or.inl (hw _ (List.mem_of_getElem? (i := 58) rfl))) (Or.inl (hw _ (List.mem_of_getElem? (i := 28) rfl))) (by decide) (t := (.object "java/lang/String")) (t' := (.object "java/lang/Throwable")) (by decide) (by decide)))
  have F_backtrace_x_2 := F_backtrace_x.other W2 (Or.inr (slot_ne (Or.inl (hw _ (List.mem_of_getElem? (i := 59) rfl))) (Or.inl (hw _ (List.mem_of_getElem? (i := 28) rfl))) (by decide) (t := (.object "java/lang/Object")) (t' := (.object "java/lang/Throwable")) (by decide) (by decide)))
  have F_depth_x_2 := F_depth_x.other W2 (Or.inr (slot_ne (Or.inl (hw _ (List.mem_of_getElem? (i := 60) rfl))) (Or.inl (hw _ (List.mem_of_getElem? (i := 28) rfl))) (by decide) (t := .int) (t' := (.object "java/lang/Throwable")) (by decide) (by decide)))
  have F_kind_x_2 := F_kind_x.other W2 (Or.inr (slot_ne (Or.inr (hw _ (List.mem_of_getElem? (i := 64) rfl))) (Or.inl (hw _ (List.mem_of_getElem? (i := 28) rfl))) (by decide) (t := (.object "com/example/idpd/idpd/RefusedMessageException$Kind")) (t' := (.object "java/lang/Throwable")) (by decide) (by decide)))
  have Zs2 : n0 ≤ h2.size := Nat.le_trans Z0 (Keep.of_wr W2).1
  have K2 := (Keep.refl h0 [x]).wr W2 (Or.inl (List.mem_of_getElem? (i := 0) rfl))
  refine own_by (S' := T2.setTop (mkF m 9 #[.val (.ref x), .val .null] [])) st2 ?_
  refine own_by (S' := T2.setTop (mkF m 10 #[.val (.ref x), .val .null] [(.ref x)])) (fun tZ kZ => XS.aloadN X2.here hx rfl (hb hby d4_9) rfl rfl kZ) ?_
  obtain ⟨T3, X3, e3, st3⟩ := getS2 X2 hx hZ hown (host := "") (Or.inl (hw _ (List.mem_of_getElem? (i := 29) rfl))) Via.refl e2 S_us_2 (g := (mkF m 10 #[.val (.ref x), .val .null] [(.ref x)])) rfl (hb hby d4_10)
  refine own_by (S' := T3.setTop (mkF m 13 #[.val (.ref x), .val .null] [(.ref us), (.ref x)])) st3 ?_
  obtain ⟨T4, h4, X4, e4, W4, st4⟩ := putF X3 hx hZ hown (host := "") (Or.inl (hw _ (List.mem_of_getElem? (i := 30) rfl))) Via.refl e3 F_stackTrace_x_2 Ex_x_2 (Or.inl (hw _ (List.mem_of_getElem? (i := 31) rfl))) (hw _ (List.mem_of_getElem? (i := 6) rfl)) (ty := (.array (.object "java/lang/StackTraceElement"))) (by decide) rfl rfl (g := (mkF m 13 #[.val (.ref x), .val .null] [(.ref us), (.ref x)])) rfl rfl (hb hby d4_13)
  have N4 := Fr.snoc X4 N2 g_x
  have Ex_x_4 := Ex_x_2.wr W4
  have N_x_4 := N_x_2.wr W4
  have S_us_4 := S_us_2.wr W4
  have S_se_4 := S_se_2.wr W4
  have F_cause_x_4 := F_cause_x_2.other W4 (Or.inr (slot_ne (Or.inl (hw _ (List.mem_of_getElem? (i := 28) rfl))) (Or.inl (hw _ (List.mem_of_getElem? (i := 31) rfl))) (by decide) (t := (.object "java/lang/Throwable")) (t' := (.array (.object "java/lang/StackTraceElement"))) (by decide) (by decide)))
  have F_stackTrace_x_4 := F_stackTrace_x_2.same W4
  have F_suppressedExceptions_x_4 := F_suppressedExceptions_x_2.other W4 (Or.inr (slot_ne (Or.inl (hw _ (List.mem_of_getElem? (i := 34) rfl))) (Or.inl (hw _ (List.mem_of_getElem? (i := 31) rfl))) (by decide) (t := (.object "java/util/List")) (t' := (.array (.object "java/lang/StackTraceElement"))) (by decide) (by decide)))
  have F_detailMessage_x_4 := F_detailMessage_x_2.other W4 (Or.inr (slot_ne (Or.inl (hw _ (List.mem_of_getElem? (i := 58) rfl))) (Or.inl (hw _ (List.mem_of_getElem? (i := 31) rfl))) (by decide) (t := (.object "java/lang/String")) (t' := (.array (.object "java/lang/StackTraceElement"))) (by decide) (by decide)))
  have F_backtrace_x_4 := F_backtrace_x_2.other W4 (Or.inr (slot_ne (Or.inl (hw _ (List.mem_of_getElem? (i := 59) rfl))) (Or.inl (hw _ (List.mem_of_getElem? (i := 31) rfl))) (by decide) (t := (.object "java/lang/Object")) (t' := (.array (.object "java/lang/StackTraceElement"))) (by decide) (by decide)))
  have F_depth_x_4 := F_depth_x_2.other W4 (Or.inr (slot_ne (Or.inl (hw _ (List.mem_of_getElem? (i := 60) rfl))) (Or.inl (hw _ (List.mem_of_getElem? (i := 31) rfl))) (by decide) (t := .int) (t' := (.array (.object "java/lang/StackTraceElement"))) (by decide) (by decide)))
  have F_kind_x_4 := F_kind_x_2.other W4 (Or.inr (slot_ne (Or.inr (hw _ (List.mem_of_getElem? (i := 64) rfl))) (Or.inl (hw _ (List.mem_of_getElem? (i := 31) rfl))) (by decide) (t := (.object "com/example/idpd/idpd/RefusedMessageException$Kind")) (t' := (.array (.object "java/lang/StackTraceElement"))) (by decide) (by decide)))
  have Zs4 : n0 ≤ h4.size := Nat.le_trans Zs2 (Keep.of_wr W4).1
  have K4 := K2.wr W4 (Or.inl (List.mem_of_getElem? (i := 0) rfl))
  refine own_by (S' := T4.setTop (mkF m 16 #[.val (.ref x), .val .null] [])) st4 ?_
  refine own_by (S' := T4.setTop (mkF m 17 #[.val (.ref x), .val .null] [(.ref x)])) (fun tZ kZ => XS.aloadN X4.here hx rfl (hb hby d4_16) rfl rfl kZ) ?_
  obtain ⟨T5, X5, e5, st5⟩ := getS2 X4 hx hZ hown (host := "") (Or.inl (hw _ (List.mem_of_getElem? (i := 32) rfl))) Via.refl e4 S_se_4 (g := (mkF m 17 #[.val (.ref x), .val .null] [(.ref x)])) rfl (hb hby d4_17)
  refine own_by (S' := T5.setTop (mkF m 20 #[.val (.ref x), .val .null] [(.ref se), (.ref x)])) st5 ?_
  obtain ⟨T6, h6, X6, e6, W6, st6⟩ := putF X5 hx hZ hown (host := "") (Or.inl (hw _ (List.mem_of_getElem? (i := 33) rfl))) Via.refl e5 F_suppressedExceptions_x_4 Ex_x_4 (Or.inl (hw _ (List.mem_of_getElem? (i := 34) rfl))) (hw _ (List.mem_of_getElem? (i := 6) rfl)) (ty := (.object "java/util/List")) (by decide) rfl rfl (g := (mkF m 20 #[.val (.ref x), .val .null] [(.ref se), (.ref x)])) rfl rfl (hb hby d4_20)
  have N6 := Fr.snoc X6 N4 g_x
  have Ex_x_6 := Ex_x_4.wr W6
  have N_x_6 := N_x_4.wr W6
  have S_us_6 := S_us_4.wr W6
  have S_se_6 := S_se_4.wr W6
  have F_cause_x_6 := F_cause_x_4.other W6 (Or.inr (slot_ne (Or.inl (hw _ (List.mem_of_getElem? (i := 28) rfl))) (Or.inl (hw _ (List.mem_of_getElem? (i := 34) rfl))) (by decide) (t := (.object "java/lang/Throwable")) (t' := (.object "java/util/List")) (by decide) (by decide)))
  have F_stackTrace_x_6 := F_stackTrace_x_4.other W6 (Or.inr (slot_ne (Or.inl (hw _ (List.mem_of_getElem? (i := 31) rfl))) (Or.inl (hw _ (List.mem_of_getElem? (i := 34) rfl))) (by decide) (t := (.array (.object "java/lang/StackTraceElement"))) (t' := (.object "java/util/List")) (by decide) (by decide)))
  have F_suppressedExceptions_x_6 := F_suppressedExceptions_x_4.same W6
  have F_detailMessage_x_6 := F_detailMessage_x_4.other W6 (Or.inr (slot_ne (Or.inl (hw _ (List.mem_of_getElem? (i := 58) rfl))) (Or.inl (hw _ (List.mem_of_getElem? (i := 34) rfl))) (by decide) (t := (.object "java/lang/String")) (t' := (.object "java/util/List")) (by decide) (by decide)))
  have F_backtrace_x_6 := F_backtrace_x_4.other W6 (Or.inr (slot_ne (Or.inl (hw _ (List.mem_of_getElem? (i := 59) rfl))) (Or.inl (hw _ (List.mem_of_getElem? (i := 34) rfl))) (by decide) (t := (.object "java/lang/Object")) (t' := (.object "java/util/List")) (by decide) (by decide)))
  have F_depth_x_6 := F_depth_x_4.other W6 (Or.inr (slot_ne (Or.inl (hw _ (List.mem_of_getElem? (i := 60) rfl))) (Or.inl (hw _ (List.mem_of_getElem? (i := 34) rfl))) (by decide) (t := .int) (t' := (.object "java/util/List")) (by decide) (by decide)))
  have F_kind_x_6 := F_kind_x_4.other W6 (Or.inr (slot_ne (Or.inr (hw _ (List.mem_of_getElem? (i := 64) rfl))) (Or.inl (hw _ (List.mem_of_getElem? (i := 34) rfl))) (by decide) (t := (.object "com/example/idpd/idpd/RefusedMessageException$Kind")) (t' := (.object "java/util/List")) (by decide) (by decide)))
  have Zs6 : n0 ≤ h6.size := Nat.le_trans Zs4 (Keep.of_wr W6).1
  have K6 := K4.wr W6 (Or.inl (List.mem_of_getElem? (i := 0) rfl))
  refine own_by (S' := T6.setTop (mkF m 23 #[.val (.ref x), .val .null] [])) st6 ?_
  refine own_by (S' := T6.setTop (mkF m 24 #[.val (.ref x), .val .null] [(.ref x)])) (fun tZ kZ => XS.aloadN X6.here hx rfl (hb hby d4_23) rfl rfl kZ) ?_
  obtain ⟨T7, h7, L7, X7, e7, hl7, Kf7, st7⟩ := own_fill (rc := "com/example/idpd/idpd/RefusedMessageException") X6 hx hl hZ hown (by rw [hh]; exact HT) (own_xw hw) (hw _ (List.mem_of_getElem? (i := 6) rfl)) hTK hBelow e6 (x := x) (us := us) (by simp) Ex_x_6 N_x_6 F_backtrace_x_6 F_stackTrace_x_6 S_us_6 (g := (mkF m 24 #[.val (.ref x), .val .null] [(.ref x)])) rfl (by rw [hml]; rfl) rfl rfl (hb hby d4_24) (by decide) (by decide) (by decide) (by decide)
  have N7 := Fr.app N6 (own_frx hl7 g_x)
  have K7 := K6.trans Kf7.1 (fun z hz => by obtain rfl := List.mem_singleton.mp hz; exact Or.inl (List.mem_of_getElem? (i := 0) rfl))
  have Zs7 := Nat.le_trans Zs6 Kf7.1.1
  have Ex_x_7 := Ex_x_6.keep Kf7.1
  have F_detailMessage_x_7 := Kf7.fld F_detailMessage_x_6 (slot_ne (Or.inl (hw _ (List.mem_of_getElem? (i := 58) rfl))) (Or.inl (hw _ (List.mem_of_getElem? (i := 59) rfl))) (by decide) (t := (.object "java/lang/String")) (t' := (.object "java/lang/Object")) (by decide) (by decide)) (slot_ne (Or.inl (hw _ (List.mem_of_getElem? (i := 58) rfl))) (Or.inl (hw _ (List.mem_of_getElem? (i := 60) rfl))) (by decide) (t := (.object "java/lang/String")) (t' := .int) (by decide) (by decide)) (slot_ne (Or.inl (hw _ (List.mem_of_getElem? (i := 58) rfl))) (Or.inl (hw _ (List.mem_of_getElem? (i := 31) rfl))) (by decide) (t := (.object "java/lang/String")) (t' := (.array (.object "java/lang/StackTraceElement"))) (by decide) (by decide))
  have F_kind_x_7 := Kf7.fld F_kind_x_6 (slot_ne (Or.inr (hw _ (List.mem_of_getElem? (i := 64) rfl))) (Or.inl (hw _ (List.mem_of_getElem? (i := 59) rfl))) (by decide) (t := (.object "com/example/idpd/idpd/RefusedMessageException$Kind")) (t' := (.object "java/lang/Object")) (by decide) (by decide)) (slot_ne (Or.inr (hw _ (List.mem_of_getElem? (i := 64) rfl))) (Or.inl (hw _ (List.mem_of_getElem? (i := 60) rfl))) (by decide) (t := (.object "com/example/idpd/idpd/RefusedMessageException$Kind")) (t' := .int) (by decide) (by decide)) (slot_ne (Or.inr (hw _ (List.mem_of_getElem? (i := 64) rfl))) (Or.inl (hw _ (List.mem_of_getElem? (i := 31) rfl))) (by decide) (t := (.object "com/example/idpd/idpd/RefusedMessageException$Kind")) (t' := (.array (.object "java/lang/StackTraceElement"))) (by decide) (by decide))
  refine own_by (S' := T7.setTop (mkF m 27 #[.val (.ref x), .val .null] [(.ref x)])) st7 ?_
  refine own_by (S' := T7.setTop (mkF m 28 #[.val (.ref x), .val .null] [])) (fun tZ kZ => XS.pop X7.here hx rfl (hb hby d4_27) rfl rfl kZ) ?_
  refine own_by (S' := T7.setTop (mkF m 29 #[.val (.ref x), .val .null] [(.ref x)])) (fun tZ kZ => XS.aloadN X7.here hx rfl (hb hby d4_28) rfl rfl kZ) ?_
  refine own_by (S' := T7.setTop (mkF m 30 #[.val (.ref x), .val .null] [.null, (.ref x)])) (fun tZ kZ => XS.aloadN X7.here hx rfl (hb hby d4_29) rfl rfl kZ) ?_
  obtain ⟨T8, h8, X8, e8, W8, st8⟩ := putF X7 hx hZ hown (host := "") (Or.inl (hw _ (List.mem_of_getElem? (i := 62) rfl))) Via.refl e7 F_detailMessage_x_7 Ex_x_7 (Or.inl (hw _ (List.mem_of_getElem? (i := 58) rfl))) (hw _ (List.mem_of_getElem? (i := 6) rfl)) (ty := (.object "java/lang/String")) (by decide) rfl rfl (g := (mkF m 30 #[.val (.ref x), .val .null] [.null, (.ref x)])) rfl rfl (hb hby d4_30)
  have N8 := Fr.snoc X8 N7 g_x
  have Ex_x_8 := Ex_x_7.wr W8
  have F_detailMessage_x_8 := F_detailMessage_x_7.same W8
  have F_kind_x_8 := F_kind_x_7.other W8 (Or.inr (slot_ne (Or.inr (hw _ (List.mem_of_getElem? (i := 64) rfl))) (Or.inl (hw _ (List.mem_of_getElem? (i := 58) rfl))) (by decide) (t := (.object "com/example/idpd/idpd/RefusedMessageException$Kind")) (t' := (.object "java/lang/String")) (by decide) (by decide)))
  have Zs8 : n0 ≤ h8.size := Nat.le_trans Zs7 (Keep.of_wr W8).1
  have K8 := K7.wr W8 (Or.inl (List.mem_of_getElem? (i := 0) rfl))
  refine own_by (S' := T8.setTop (mkF m 33 #[.val (.ref x), .val .null] [])) st8 ?_
  exact own_ret0 X8 hx Bd.returns (hb hby d4_33) Bd.notSynchronized (by decide) (by decide) (show QTh Z x h0 n0 none T8.heap _ from by rw [e8]; exact ⟨rfl, N8, K8, Ex_x_8, F_kind_x_8⟩)
theorem d3_0 : decode jdk_59_method_2_code 0 = .ok (.aload_n 0, 1) := by decide +kernel
theorem d3_1 : decode jdk_59_method_2_code 1 = .ok (.aload_n 1, 1) := by decide +kernel
theorem d3_2 : decode jdk_59_method_2_code 2 = .ok (.invokespecial 7, 3) := by decide +kernel
theorem d3_5 : decode jdk_59_method_2_code 5 = .ok (.return_, 1) := by decide +kernel
theorem pn_4 : plainName "java/lang/Exception" = true := by first | (simp [plainName, overriddenIn]; done) | decide +kernel
theorem ef_rmE0 (m : MethodId) (x : Addr) : entryFrame m #[(.ref x), .null] 2 = mkF m 0 #[.val (.ref x), .val .null] [] := by first | (simp [entryFrame, mkF, argsToLocals, Value.category, maxLocals]; done) | rfl
set_option maxRecDepth 65536 in
set_option maxHeartbeats 40000000 in
theorem rmE0 (l : Launch) (Z : State) (a0 : Array Value) (hw : ∀ d ∈ tables_1, d.before a0 Z = true) (ws : List Jvm.Cond) (x us se : Addr) (h0 : Heap) (n0 : Nat) (Z0 : n0 ≤ h0.size) (HT : ThS Z h0) (hl : l.stackTraces = true) (S_us : Sta Z h0 "java/lang/Throwable" "UNASSIGNED_STACK" "[Ljava/lang/StackTraceElement;" (.ref us)) (S_se : Sta Z h0 "java/lang/Throwable" "SUPPRESSED_SENTINEL" "Ljava/util/List;" (.ref se)) (Ex_x : Exa Z h0 x "com/example/idpd/idpd/RefusedMessageException") (N_x : Unt h0 x) (F_cause_x : Fld Z h0 x "java/lang/Throwable" "cause" "Ljava/lang/Throwable;" .null) (F_stackTrace_x : Fld Z h0 x "java/lang/Throwable" "stackTrace" "[Ljava/lang/StackTraceElement;" .null) (F_suppressedExceptions_x : Fld Z h0 x "java/lang/Throwable" "suppressedExceptions" "Ljava/util/List;" .null) (F_detailMessage_x : Fld Z h0 x "java/lang/Throwable" "detailMessage" "Ljava/lang/String;" .null) (F_backtrace_x : Fld Z h0 x "java/lang/Throwable" "backtrace" "Ljava/lang/Object;" .null) (F_depth_x : Fld Z h0 x "java/lang/Throwable" "depth" "I" (.int 0)) (F_kind_x : Fld Z h0 x "com/example/idpd/idpd/RefusedMessageException" "kind" "Lcom/example/idpd/idpd/RefusedMessageException$Kind;" .null) (g_x : n0 ≤ x) :
    MetFree l (⟨"java/lang/Exception", "<init>", "(Ljava/lang/String;)V"⟩ : MethodName) (head1 (Jvm.Cond.code (⟨"java/lang/Exception", "<init>", "(Ljava/lang/String;)V"⟩ : MethodName) jdk_59_method_2_code (2 : Nat) (Option.none : Option Jvm.ClassFile.FieldType) :: ws) ({ frames := 4, cells := 1, slots := 2752, locals := 55 } : Room)) (fun aZ UZ => aZ = #[(.ref x), .null] ∧ Z.Warmed39 UZ.vm ∧ UZ.heap = h0) (fun _ _ bl sZ _ => sZ.vm.MethodsKnown ∧ sZ.vm.FramesKnown bl) (fun _ UZ oZ VZ => ∃ vZ LZ, oZ = .returned vZ ∧ (QTh Z x h0 n0) vZ VZ.heap LZ ∧ FrameEnd UZ oZ VZ LZ ({ frames := 4, cells := 1, slots := 2752, locals := 55 } : Room).cells ({ frames := 4, cells := 1, slots := 2752, locals := 55 } : Room).slots) := by
  refine MetFree.of_bodySF (plainFor_of_name pn_4) hisR ?_
  intro p e s m args below meth c s₁ Bd hml0 hP hK
  obtain ⟨rfl, hZ, hh⟩ := hP
  obtain ⟨hTK, hBelow⟩ := hK
  have hx := Bd.exec
  have hby := Bd.bytes
  have hml : c.maxLocals = 2 := hml0
  have hown : s.vm.findClass "java/lang/Exception" = some m.cls := findClass_of_methodNamed Bd.named
  have hnm := (name_of_methodNamed Bd.named Bd.method).1
  have X0 : Stand p l e ({ frames := 4, cells := 1, slots := 2752, locals := 55 } : Room) s m #[(.ref x), .null] below meth c s₁ [] 0 0 := Stand.of_body Bd
  have e0 : s₁.heap = h0 := by rw [← hh, Bd.state]; rfl
  have N0 := Fr.nil n0
  show OwnG p e below (OwnE s (QTh Z x h0 n0) ({ frames := 4, cells := 1, slots := 2752, locals := 55 } : Room).cells ({ frames := 4, cells := 1, slots := 2752, locals := 55 } : Room).slots) _
  refine own_by (S' := s₁.setTop (mkF m 0 #[.val (.ref x), .val .null] [])) (fun tZ kZ => castTop (ef_rmE0 m x) kZ) ?_
  refine own_by (S' := s₁.setTop (mkF m 1 #[.val (.ref x), .val .null] [(.ref x)])) (fun tZ kZ => XS.aloadN X0.here hx rfl (hb hby d3_0) rfl rfl kZ) ?_
  refine own_by (S' := s₁.setTop (mkF m 2 #[.val (.ref x), .val .null] [.null, (.ref x)])) (fun tZ kZ => XS.aloadN X0.here hx rfl (hb hby d3_1) rfl rfl kZ) ?_
  obtain ⟨_, _, ⟨T1, L1, k1, n1⟩, -, X1, ⟨Lc1, hQ1, l1, y1, z1⟩, st1⟩ := X0.specialBack hx (y := (⟨"java/lang/Throwable", "<init>", "(Ljava/lang/String;)V"⟩ : MethodName)) rfl hown (mvT hZ (hw _ (List.mem_of_getElem? (i := 18) rfl))) (mvT hZ (hw _ (List.mem_of_getElem? (i := 19) rfl))) (mvT hZ (hw _ (List.mem_of_getElem? (i := 23) rfl))) (by decide) (backOfKL (W := 0) (rmTh0 l Z a0 hw [] x us se h0 n0 Z0 HT hl S_us S_se Ex_x N_x F_cause_x F_stackTrace_x F_suppressedExceptions_x F_detailMessage_x F_backtrace_x F_depth_x F_kind_x g_x) hZ (hw _ (List.mem_of_getElem? (i := 23) rfl)) (hw _ (List.mem_of_getElem? (i := 22) rfl)) (by decide) (by decide) hTK hBelow) (g := (mkF m 2 #[.val (.ref x), .val .null] [.null, (.ref x)])) rfl (by rw [hml]; rfl) (Steps.refl _) (a := x) (argsL := [.null]) (rest := []) (lenOf pd_7 rfl) rfl (by show 2 * 0 + _ ≤ _; exact Nat.le_of_eq rfl) (hb hby d3_2) (fun _ _ => ⟨rfl, e0, (by decide : 0 + 1 ≤ _), (by decide : 0 + 2752 ≤ _)⟩)
  dsimp only [Pt.U, Pt.locs, Pt.cells, Pt.slots] at X1 l1 y1 z1 st1 hQ1
  subst l1 y1 z1
  obtain ⟨rfl, N1q, Kc1, qe1, qf1⟩ := hQ1
  have N1 := Fr.app N0 N1q
  have Zs1 := Nat.le_trans Z0 Kc1.1
  have K1 := (Keep.refl h0 [x]).trans Kc1 (fun x hx => by
      simp only [List.mem_cons, List.not_mem_nil, or_false] at hx
      rcases hx with rfl
      · exact Or.inl (List.mem_of_getElem? (i := 0) rfl))
  refine own_by (S' := T1.setTop (mkF m 5 #[.val (.ref x), .val .null] [])) (fun tZ kZ => st1.trans kZ) ?_
  exact own_ret0 X1 hx Bd.returns (hb hby d3_5) Bd.notSynchronized (by decide) (by decide) ⟨rfl, N1, K1, qe1, qf1⟩
theorem d2_0 : decode prog_18_method_1_code 0 = .ok (.aload_n 0, 1) := by decide +kernel
theorem d2_1 : decode prog_18_method_1_code 1 = .ok (.aload_n 2, 1) := by decide +kernel
theorem d2_2 : decode prog_18_method_1_code 2 = .ok (.invokespecial 1, 3) := by decide +kernel
theorem d2_5 : decode prog_18_method_1_code 5 = .ok (.aload_n 0, 1) := by decide +kernel
theorem d2_6 : decode prog_18_method_1_code 6 = .ok (.aload_n 1, 1) := by decide +kernel
theorem d2_7 : decode prog_18_method_1_code 7 = .ok (.putfield 7, 3) := by decide +kernel
theorem d2_10 : decode prog_18_method_1_code 10 = .ok (.return_, 1) := by decide +kernel
theorem pn_5 : plainName "com/example/idpd/idpd/RefusedMessageException" = true := by first | (simp [plainName, overriddenIn]; done) | decide +kernel
theorem ef_rmR0 (m : MethodId) (x : Addr) (kx : Addr) : entryFrame m #[(.ref x), (.ref kx), .null] 3 = mkF m 0 #[.val (.ref x), .val (.ref kx), .val .null] [] := by first | (simp [entryFrame, mkF, argsToLocals, Value.category, maxLocals]; done) | rfl
set_option maxRecDepth 65536 in
set_option maxHeartbeats 40000000 in
theorem rmR0 (l : Launch) (Z : State) (a0 : Array Value) (hw : ∀ d ∈ tables_1, d.before a0 Z = true) (ws : List Jvm.Cond) (x kx us se : Addr) (h0 : Heap) (n0 : Nat) (Z0 : n0 ≤ h0.size) (HT : ThS Z h0) (hl : l.stackTraces = true) (S_us : Sta Z h0 "java/lang/Throwable" "UNASSIGNED_STACK" "[Ljava/lang/StackTraceElement;" (.ref us)) (S_se : Sta Z h0 "java/lang/Throwable" "SUPPRESSED_SENTINEL" "Ljava/util/List;" (.ref se)) (Ex_x : Exa Z h0 x "com/example/idpd/idpd/RefusedMessageException") (N_x : Unt h0 x) (F_cause_x : Fld Z h0 x "java/lang/Throwable" "cause" "Ljava/lang/Throwable;" .null) (F_stackTrace_x : Fld Z h0 x "java/lang/Throwable" "stackTrace" "[Ljava/lang/StackTraceElement;" .null) (F_suppressedExceptions_x : Fld Z h0 x "java/lang/Throwable" "suppressedExceptions" "Ljava/util/List;" .null) (F_detailMessage_x : Fld Z h0 x "java/lang/Throwable" "detailMessage" "Ljava/lang/String;" .null) (F_backtrace_x : Fld Z h0 x "java/lang/Throwable" "backtrace" "Ljava/lang/Object;" .null) (F_depth_x : Fld Z h0 x "java/lang/Throwable" "depth" "I" (.int 0)) (F_kind_x : Fld Z h0 x "com/example/idpd/idpd/RefusedMessageException" "kind" "Lcom/example/idpd/idpd/RefusedMessageException$Kind;" .null) (g_x : n0 ≤ x) :
    MetFree l (⟨"com/example/idpd/idpd/RefusedMessageException", "<init>", "(Lcom/example/idpd/idpd/RefusedMessageException$Kind;Ljava/lang/String;)V"⟩ : MethodName) (head1 (Jvm.Cond.code (⟨"com/example/idpd/idpd/RefusedMessageException", "<init>", "(Lcom/example/idpd/idpd/RefusedMessageException$Kind;Ljava/lang/String;)V"⟩ : MethodName) prog_18_method_1_code (3 : Nat) (Option.none : Option Jvm.ClassFile.FieldType) :: ws) ({ frames := 5, cells := 1, slots := 2752, locals := 68 } : Room)) (fun aZ UZ => aZ = #[(.ref x), (.ref kx), .null] ∧ Z.Warmed39 UZ.vm ∧ UZ.heap = h0) (fun _ _ bl sZ _ => sZ.vm.MethodsKnown ∧ sZ.vm.FramesKnown bl) (fun _ UZ oZ VZ => ∃ vZ LZ, oZ = .returned vZ ∧ (QRe Z x kx h0 n0) vZ VZ.heap LZ ∧ FrameEnd UZ oZ VZ LZ ({ frames := 5, cells := 1, slots := 2752, locals := 68 } : Room).cells ({ frames := 5, cells := 1, slots := 2752, locals := 68 } : Room).slots) := by
  refine MetFree.of_bodySF (plainFor_of_name pn_5) hisR ?_
  intro p e s m args below meth c s₁ Bd hml0 hP hK
  obtain ⟨rfl, hZ, hh⟩ := hP
  obtain ⟨hTK, hBelow⟩ := hK
  have hx := Bd.exec
  have hby := Bd.bytes
  have hml : c.maxLocals = 3 := hml0
  have hown : s.vm.findClass "com/example/idpd/idpd/RefusedMessageException" = some m.cls := findClass_of_methodNamed Bd.named
  have hnm := (name_of_methodNamed Bd.named Bd.method).1
  have X0 : Stand p l e ({ frames := 5, cells := 1, slots := 2752, locals := 68 } : Room) s m #[(.ref x), (.ref kx), .null] below meth c s₁ [] 0 0 := Stand.of_body Bd
  have e0 : s₁.heap = h0 := by rw [← hh, Bd.state]; rfl
  have N0 := Fr.nil n0
  show OwnG p e below (OwnE s (QRe Z x kx h0 n0) ({ frames := 5, cells := 1, slots := 2752, locals := 68 } : Room).cells ({ frames := 5, cells := 1, slots := 2752, locals := 68 } : Room).slots) _
  refine own_by (S' := s₁.setTop (mkF m 0 #[.val (.ref x), .val (.ref kx), .val .null] [])) (fun tZ kZ => castTop (ef_rmR0 m x kx) kZ) ?_
  refine own_by (S' := s₁.setTop (mkF m 1 #[.val (.ref x), .val (.ref kx), .val .null] [(.ref x)])) (fun tZ kZ => XS.aloadN X0.here hx rfl (hb hby d2_0) rfl rfl kZ) ?_
  refine own_by (S' := s₁.setTop (mkF m 2 #[.val (.ref x), .val (.ref kx), .val .null] [.null, (.ref x)])) (fun tZ kZ => XS.aloadN X0.here hx rfl (hb hby d2_1) rfl rfl kZ) ?_
  obtain ⟨_, _, ⟨T1, L1, k1, n1⟩, -, X1, ⟨Lc1, hQ1, l1, y1, z1⟩, st1⟩ := X0.specialBack hx (y := (⟨"java/lang/Exception", "<init>", "(Ljava/lang/String;)V"⟩ : MethodName)) rfl hown (mvT hZ (hw _ (List.mem_of_getElem? (i := 13) rfl))) (mvT hZ (hw _ (List.mem_of_getElem? (i := 14) rfl))) (mvT hZ (hw _ (List.mem_of_getElem? (i := 17) rfl))) (by decide) (backOfKL (W := 0) (rmE0 l Z a0 hw [] x us se h0 n0 Z0 HT hl S_us S_se Ex_x N_x F_cause_x F_stackTrace_x F_suppressedExceptions_x F_detailMessage_x F_backtrace_x F_depth_x F_kind_x g_x) hZ (hw _ (List.mem_of_getElem? (i := 17) rfl)) (hw _ (List.mem_of_getElem? (i := 16) rfl)) (by decide) (by decide) hTK hBelow) (g := (mkF m 2 #[.val (.ref x), .val (.ref kx), .val .null] [.null, (.ref x)])) rfl (by rw [hml]; rfl) (Steps.refl _) (a := x) (argsL := [.null]) (rest := []) (lenOf pd_7 rfl) rfl (by show 2 * 0 + _ ≤ _; exact Nat.le_of_eq rfl) (hb hby d2_2) (fun _ _ => ⟨rfl, e0, (by decide : 0 + 1 ≤ _), (by decide : 0 + 2752 ≤ _)⟩)
  dsimp only [Pt.U, Pt.locs, Pt.cells, Pt.slots] at X1 l1 y1 z1 st1 hQ1
  subst l1 y1 z1
  obtain ⟨rfl, N1q, Kc1, qe1, qf1⟩ := hQ1
  have N1 := Fr.app N0 N1q
  have Zs1 := Nat.le_trans Z0 Kc1.1
  have K1 := (Keep.refl h0 [x]).trans Kc1 (fun x hx => by
      simp only [List.mem_cons, List.not_mem_nil, or_false] at hx
      rcases hx with rfl
      · exact Or.inl (List.mem_of_getElem? (i := 0) rfl))
  refine own_by (S' := T1.setTop (mkF m 5 #[.val (.ref x), .val (.ref kx), .val .null] [])) (fun tZ kZ => st1.trans kZ) ?_
  refine own_by (S' := T1.setTop (mkF m 6 #[.val (.ref x), .val (.ref kx), .val .null] [(.ref x)])) (fun tZ kZ => XS.aloadN X1.here hx rfl (hb hby d2_5) rfl rfl kZ) ?_
  refine own_by (S' := T1.setTop (mkF m 7 #[.val (.ref x), .val (.ref kx), .val .null] [(.ref kx), (.ref x)])) (fun tZ kZ => XS.aloadN X1.here hx rfl (hb hby d2_6) rfl rfl kZ) ?_
  obtain ⟨T2, h2, X2, e2, W2, st2⟩ := putF X1 hx hZ hown (host := "") (Or.inl (hw _ (List.mem_of_getElem? (i := 63) rfl))) Via.refl rfl qf1 qe1 (Or.inr ⟨(hw _ (List.mem_of_getElem? (i := 64) rfl)), rfl, hnm⟩) (hw _ (List.mem_of_getElem? (i := 6) rfl)) (ty := (.object "com/example/idpd/idpd/RefusedMessageException$Kind")) (by decide) rfl rfl (g := (mkF m 7 #[.val (.ref x), .val (.ref kx), .val .null] [(.ref kx), (.ref x)])) rfl rfl (hb hby d2_7)
  have N2 := Fr.snoc X2 N1 g_x
  have qe1_2 := qe1.wr W2
  have qf1_2 := qf1.same W2
  have Zs2 : n0 ≤ h2.size := Nat.le_trans Zs1 (Keep.of_wr W2).1
  have K2 := K1.wr W2 (Or.inl (List.mem_of_getElem? (i := 0) rfl))
  refine own_by (S' := T2.setTop (mkF m 10 #[.val (.ref x), .val (.ref kx), .val .null] [])) st2 ?_
  exact own_ret0 X2 hx Bd.returns (hb hby d2_10) Bd.notSynchronized (by decide) (by decide) (show QRe Z x kx h0 n0 none T2.heap _ from by rw [e2]; exact ⟨rfl, N2, K2, qe1_2, qf1_2⟩)
theorem d1_0 : decode prog_18_method_8_code 0 = .ok (.new 8, 3) := by decide +kernel
theorem d1_3 : decode prog_18_method_8_code 3 = .ok (.dup, 1) := by decide +kernel
theorem d1_4 : decode prog_18_method_8_code 4 = .ok (.getstatic 33, 3) := by decide +kernel
theorem d1_7 : decode prog_18_method_8_code 7 = .ok (.aload_n 0, 1) := by decide +kernel
theorem d1_8 : decode prog_18_method_8_code 8 = .ok (.invokespecial 21, 3) := by decide +kernel
theorem d1_11 : decode prog_18_method_8_code 11 = .ok (.areturn, 1) := by decide +kernel
theorem ef_rmX0 (m : MethodId) : entryFrame m #[.null] 1 = mkF m 0 #[.val .null] [] := by first | (simp [entryFrame, mkF, argsToLocals, Value.category, maxLocals]; done) | rfl
set_option maxRecDepth 65536 in
set_option maxHeartbeats 40000000 in
theorem rmX0 (l : Launch) (Z : State) (a0 : Array Value) (hw : ∀ d ∈ tables_1, d.before a0 Z = true) (ws : List Jvm.Cond) (kx us se : Addr) (h0 : Heap) (n0 : Nat) (Z0 : n0 ≤ h0.size) (HT : ThS Z h0) (hl : l.stackTraces = true) (S_us : Sta Z h0 "java/lang/Throwable" "UNASSIGNED_STACK" "[Ljava/lang/StackTraceElement;" (.ref us)) (S_se : Sta Z h0 "java/lang/Throwable" "SUPPRESSED_SENTINEL" "Ljava/util/List;" (.ref se)) (S_k : Sta Z h0 "com/example/idpd/idpd/RefusedMessageException$Kind" "EXPIRED" "Lcom/example/idpd/idpd/RefusedMessageException$Kind;" (.ref kx)) :
    MetFree l (⟨"com/example/idpd/idpd/RefusedMessageException", "expired", "(Ljava/lang/String;)Lcom/example/idpd/idpd/RefusedMessageException;"⟩ : MethodName) (head1 (Jvm.Cond.code (⟨"com/example/idpd/idpd/RefusedMessageException", "expired", "(Ljava/lang/String;)Lcom/example/idpd/idpd/RefusedMessageException;"⟩ : MethodName) prog_18_method_8_code (1 : Nat) (Option.some (Jvm.ClassFile.FieldType.object "com/example/idpd/idpd/RefusedMessageException")) :: ws) ({ frames := 6, cells := 2, slots := 2759, locals := 83 } : Room)) (fun aZ UZ => aZ = #[.null] ∧ Z.Warmed39 UZ.vm ∧ UZ.heap = h0) (fun _ _ bl sZ _ => sZ.vm.MethodsKnown ∧ sZ.vm.FramesKnown bl) (fun _ UZ oZ VZ => ∃ vZ LZ, oZ = .returned vZ ∧ (QEx Z kx h0 n0) vZ VZ.heap LZ ∧ FrameEnd UZ oZ VZ LZ ({ frames := 6, cells := 2, slots := 2759, locals := 83 } : Room).cells ({ frames := 6, cells := 2, slots := 2759, locals := 83 } : Room).slots) := by
  refine MetFree.of_bodySF (plainFor_of_name pn_5) hisR ?_
  intro p e s m args below meth c s₁ Bd hml0 hP hK
  obtain ⟨rfl, hZ, hh⟩ := hP
  obtain ⟨hTK, hBelow⟩ := hK
  have hx := Bd.exec
  have hby := Bd.bytes
  have hml : c.maxLocals = 1 := hml0
  have hown : s.vm.findClass "com/example/idpd/idpd/RefusedMessageException" = some m.cls := findClass_of_methodNamed Bd.named
  have hnm := (name_of_methodNamed Bd.named Bd.method).1
  have X0 : Stand p l e ({ frames := 6, cells := 2, slots := 2759, locals := 83 } : Room) s m #[.null] below meth c s₁ [] 0 0 := Stand.of_body Bd
  have e0 : s₁.heap = h0 := by rw [← hh, Bd.state]; rfl
  have N0 := Fr.nil n0
  show OwnG p e below (OwnE s (QEx Z kx h0 n0) ({ frames := 6, cells := 2, slots := 2759, locals := 83 } : Room).cells ({ frames := 6, cells := 2, slots := 2759, locals := 83 } : Room).slots) _
  refine own_by (S' := s₁.setTop (mkF m 0 #[.val .null] [])) (fun tZ kZ => castTop (ef_rmX0 m) kZ) ?_
  obtain ⟨T1, h1, X1, e1, E1, A1, D1, U1, st1⟩ := newO X0 hx hZ hown (hw _ (List.mem_of_getElem? (i := 5) rfl)) (hw _ (List.mem_of_getElem? (i := 6) rfl)) (hw _ (List.mem_of_getElem? (i := 3) rfl)) e0 (g := (mkF m 0 #[.val .null] [])) rfl (hb hby d1_0) (by decide) (by decide)
  obtain ⟨b1, g1⟩ : ∃ z, z = h0.size := ⟨_, rfl⟩
  rw [← g1] at A1 D1 U1 st1
  have g_b1 : n0 ≤ b1 := Nat.le_trans Z0 (Nat.le_of_eq g1.symm)
  have sz_b1 : h0.size ≤ b1 := Nat.le_trans (Keep.refl h0 []).1 (Nat.le_of_eq g1.symm)
  have Zs1 : n0 ≤ h1.size := Nat.le_trans Z0 E1.1
  have K1 := (Keep.refl h0 []).ext E1
  have Ex_b1 := A1
  have F_cause_b1 : Fld Z h1 b1 "java/lang/Throwable" "cause" "Ljava/lang/Throwable;" .null := D1 (Or.inl (hw _ (List.mem_of_getElem? (i := 28) rfl))) (ty := (.object "java/lang/Throwable")) (by decide)
  have F_stackTrace_b1 : Fld Z h1 b1 "java/lang/Throwable" "stackTrace" "[Ljava/lang/StackTraceElement;" .null := D1 (Or.inl (hw _ (List.mem_of_getElem? (i := 31) rfl))) (ty := (.array (.object "java/lang/StackTraceElement"))) (by decide)
  have F_suppressedExceptions_b1 : Fld Z h1 b1 "java/lang/Throwable" "suppressedExceptions" "Ljava/util/List;" .null := D1 (Or.inl (hw _ (List.mem_of_getElem? (i := 34) rfl))) (ty := (.object "java/util/List")) (by decide)
  have F_detailMessage_b1 : Fld Z h1 b1 "java/lang/Throwable" "detailMessage" "Ljava/lang/String;" .null := D1 (Or.inl (hw _ (List.mem_of_getElem? (i := 58) rfl))) (ty := (.object "java/lang/String")) (by decide)
  have F_backtrace_b1 : Fld Z h1 b1 "java/lang/Throwable" "backtrace" "Ljava/lang/Object;" .null := D1 (Or.inl (hw _ (List.mem_of_getElem? (i := 59) rfl))) (ty := (.object "java/lang/Object")) (by decide)
  have F_depth_b1 : Fld Z h1 b1 "java/lang/Throwable" "depth" "I" (.int (0 : Int32)) := D1 (Or.inl (hw _ (List.mem_of_getElem? (i := 60) rfl))) (ty := .int) (by decide)
  have F_kind_b1 : Fld Z h1 b1 "com/example/idpd/idpd/RefusedMessageException" "kind" "Lcom/example/idpd/idpd/RefusedMessageException$Kind;" .null := D1 (Or.inr (hw _ (List.mem_of_getElem? (i := 64) rfl))) (ty := (.object "com/example/idpd/idpd/RefusedMessageException$Kind")) (by decide)
  refine own_by (S' := T1.setTop (mkF m 3 #[.val .null] [(.ref b1)])) st1 ?_
  refine own_by (S' := T1.setTop (mkF m 4 #[.val .null] [(.ref b1), (.ref b1)])) (fun tZ kZ => XS.dup X1.here hx rfl (hb hby d1_3) rfl rfl kZ) ?_
  have ExK1 := own_ext0 K1
  obtain ⟨T2, X2, e2, st2⟩ := getS2 X1 hx hZ hown (host := "") (Or.inl (hw _ (List.mem_of_getElem? (i := 7) rfl))) Via.refl e1 (S_k.ext ExK1) (g := (mkF m 4 #[.val .null] [(.ref b1), (.ref b1)])) rfl (hb hby d1_4)
  refine own_by (S' := T2.setTop (mkF m 7 #[.val .null] [(.ref kx), (.ref b1), (.ref b1)])) st2 ?_
  refine own_by (S' := T2.setTop (mkF m 8 #[.val .null] [.null, (.ref kx), (.ref b1), (.ref b1)])) (fun tZ kZ => XS.aloadN X2.here hx rfl (hb hby d1_7) rfl rfl kZ) ?_
  obtain ⟨_, _, ⟨T3, L3, k3, n3⟩, -, X3, ⟨Lc3, hQ3, l3, y3, z3⟩, st3⟩ := X2.specialBack hx (y := (⟨"com/example/idpd/idpd/RefusedMessageException", "<init>", "(Lcom/example/idpd/idpd/RefusedMessageException$Kind;Ljava/lang/String;)V"⟩ : MethodName)) rfl hown (mvT hZ (hw _ (List.mem_of_getElem? (i := 10) rfl))) (mvT hZ (hw _ (List.mem_of_getElem? (i := 11) rfl))) (mvT hZ (hw _ (List.mem_of_getElem? (i := 12) rfl))) (by decide) (backOfKL (W := 1) (rmR0 l Z a0 hw [] b1 kx us se h1 n0 Zs1 (HT.ext ExK1) hl (S_us.ext ExK1) (S_se.ext ExK1) Ex_b1 U1 F_cause_b1 F_stackTrace_b1 F_suppressedExceptions_b1 F_detailMessage_b1 F_backtrace_b1 F_depth_b1 F_kind_b1 g_b1) hZ (hw _ (List.mem_of_getElem? (i := 12) rfl)) (hw _ (List.mem_of_getElem? (i := 3) rfl)) (by decide) (by decide) hTK hBelow) (g := (mkF m 8 #[.val .null] [.null, (.ref kx), (.ref b1), (.ref b1)])) rfl (by rw [hml]; rfl) (Steps.refl _) (a := b1) (argsL := [(.ref kx), .null]) (rest := [(.ref b1)]) (lenOf pd_8 rfl) rfl (by show 2 * 0 + _ ≤ _; exact Nat.le_of_eq rfl) (hb hby d1_8) (fun _ _ => ⟨rfl, e2, (by decide : 1 + 1 ≤ _), (by decide : 7 + 2752 ≤ _)⟩)
  dsimp only [Pt.U, Pt.locs, Pt.cells, Pt.slots] at X3 l3 y3 z3 st3 hQ3
  subst l3 y3 z3
  obtain ⟨rfl, N3q, Kc3, qe3, qf3⟩ := hQ3
  have N3 := Fr.app N0 N3q
  have Zs3 := Nat.le_trans Zs1 Kc3.1
  have K3 := K1.trans Kc3 (fun x hx => by
      simp only [List.mem_cons, List.not_mem_nil, or_false] at hx
      rcases hx with rfl
      · exact Or.inr sz_b1)
  have Ex_b1_3 := Ex_b1.keep Kc3
  refine own_by (S' := T3.setTop (mkF m 11 #[.val .null] [(.ref b1)])) (fun tZ kZ => st3.trans kZ) ?_
  exact own_retA X3 hx Bd.returns rfl rfl (hb hby d1_11) Bd.notSynchronized (by decide) (by decide) ⟨b1, rfl, N3, K3, qe3, qf3⟩
theorem ef_rmTh1 (m : MethodId) (x : Addr) (ms : Addr) : entryFrame m #[(.ref x), (.ref ms)] 2 = mkF m 0 #[.val (.ref x), .val (.ref ms)] [] := by first | (simp [entryFrame, mkF, argsToLocals, Value.category, maxLocals]; done) | rfl
set_option maxRecDepth 65536 in
set_option maxHeartbeats 40000000 in
theorem rmTh1 (l : Launch) (Z : State) (a0 : Array Value) (hw : ∀ d ∈ tables_1, d.before a0 Z = true) (ws : List Jvm.Cond) (x us se : Addr) (ms : Addr) (h0 : Heap) (n0 : Nat) (Z0 : n0 ≤ h0.size) (HT : ThS Z h0) (hl : l.stackTraces = true) (S_us : Sta Z h0 "java/lang/Throwable" "UNASSIGNED_STACK" "[Ljava/lang/StackTraceElement;" (.ref us)) (S_se : Sta Z h0 "java/lang/Throwable" "SUPPRESSED_SENTINEL" "Ljava/util/List;" (.ref se)) (Ex_x : Exa Z h0 x "com/example/idpd/idpd/RefusedMessageException") (N_x : Unt h0 x) (F_cause_x : Fld Z h0 x "java/lang/Throwable" "cause" "Ljava/lang/Throwable;" .null) (F_stackTrace_x : Fld Z h0 x "java/lang/Throwable" "stackTrace" "[Ljava/lang/StackTraceElement;" .null) (F_suppressedExceptions_x : Fld Z h0 x "java/lang/Throwable" "suppressedExceptions" "Ljava/util/List;" .null) (F_detailMessage_x : Fld Z h0 x "java/lang/Throwable" "detailMessage" "Ljava/lang/String;" .null) (F_backtrace_x : Fld Z h0 x "java/lang/Throwable" "backtrace" "Ljava/lang/Object;" .null) (F_depth_x : Fld Z h0 x "java/lang/Throwable" "depth" "I" (.int 0)) (F_kind_x : Fld Z h0 x "com/example/idpd/idpd/RefusedMessageException" "kind" "Lcom/example/idpd/idpd/RefusedMessageException$Kind;" .null) (g_x : n0 ≤ x) :
    MetFree l (⟨"java/lang/Throwable", "<init>", "(Ljava/lang/String;)V"⟩ : MethodName) (head1 (Jvm.Cond.code (⟨"java/lang/Throwable", "<init>", "(Ljava/lang/String;)V"⟩ : MethodName) jdk_78_method_2_code (2 : Nat) (Option.none : Option Jvm.ClassFile.FieldType) :: ws) ({ frames := 3, cells := 1, slots := 2752, locals := 42 } : Room)) (fun aZ UZ => aZ = #[(.ref x), (.ref ms)] ∧ Z.Warmed39 UZ.vm ∧ UZ.heap = h0) (fun _ _ bl sZ _ => sZ.vm.MethodsKnown ∧ sZ.vm.FramesKnown bl) (fun _ UZ oZ VZ => ∃ vZ LZ, oZ = .returned vZ ∧ (QTh Z x h0 n0) vZ VZ.heap LZ ∧ FrameEnd UZ oZ VZ LZ ({ frames := 3, cells := 1, slots := 2752, locals := 42 } : Room).cells ({ frames := 3, cells := 1, slots := 2752, locals := 42 } : Room).slots) := by
  refine MetFree.of_bodySF (plainFor_of_name pn_3) hisR ?_
  intro p e s m args below meth c s₁ Bd hml0 hP hK
  obtain ⟨rfl, hZ, hh⟩ := hP
  obtain ⟨hTK, hBelow⟩ := hK
  have hx := Bd.exec
  have hby := Bd.bytes
  have hml : c.maxLocals = 2 := hml0
  have hown : s.vm.findClass "java/lang/Throwable" = some m.cls := findClass_of_methodNamed Bd.named
  have hnm := (name_of_methodNamed Bd.named Bd.method).1
  have X0 : Stand p l e ({ frames := 3, cells := 1, slots := 2752, locals := 42 } : Room) s m #[(.ref x), (.ref ms)] below meth c s₁ [] 0 0 := Stand.of_body Bd
  have e0 : s₁.heap = h0 := by rw [← hh, Bd.state]; rfl
  have N0 := Fr.nil n0
  show OwnG p e below (OwnE s (QTh Z x h0 n0) ({ frames := 3, cells := 1, slots := 2752, locals := 42 } : Room).cells ({ frames := 3, cells := 1, slots := 2752, locals := 42 } : Room).slots) _
  refine own_by (S' := s₁.setTop (mkF m 0 #[.val (.ref x), .val (.ref ms)] [])) (fun tZ kZ => castTop (ef_rmTh1 m x ms) kZ) ?_
  refine own_by (S' := s₁.setTop (mkF m 1 #[.val (.ref x), .val (.ref ms)] [(.ref x)])) (fun tZ kZ => XS.aloadN X0.here hx rfl (hb hby d4_0) rfl rfl kZ) ?_
  obtain ⟨T1, X1, e1, st1⟩ := initO X0 hx hZ hown (hw _ (List.mem_of_getElem? (i := 24) rfl)) (hw _ (List.mem_of_getElem? (i := 25) rfl)) (hw _ (List.mem_of_getElem? (i := 26) rfl)) e0 (g := (mkF m 1 #[.val (.ref x), .val (.ref ms)] [(.ref x)])) rfl (by rw [hml]; rfl) rfl (hb hby d4_1) (by decide) (W := 0) (by show 2 * 0 + _ ≤ _; exact Nat.le_of_eq rfl) (by decide)
  refine own_by (S' := T1.setTop (mkF m 4 #[.val (.ref x), .val (.ref ms)] [])) st1 ?_
  refine own_by (S' := T1.setTop (mkF m 5 #[.val (.ref x), .val (.ref ms)] [(.ref x)])) (fun tZ kZ => XS.aloadN X1.here hx rfl (hb hby d4_4) rfl rfl kZ) ?_
  refine own_by (S' := T1.setTop (mkF m 6 #[.val (.ref x), .val (.ref ms)] [(.ref x), (.ref x)])) (fun tZ kZ => XS.aloadN X1.here hx rfl (hb hby d4_5) rfl rfl kZ) ?_
  obtain ⟨T2, h2, X2, e2, W2, st2⟩ := putF X1 hx hZ hown (host := "") (Or.inl (hw _ (List.mem_of_getElem? (i := 27) rfl))) Via.refl e1 F_cause_x Ex_x (Or.inl (hw _ (List.mem_of_getElem? (i := 28) rfl))) (hw _ (List.mem_of_getElem? (i := 6) rfl)) (ty := (.object "java/lang/Throwable")) (by decide) rfl rfl (g := (mkF m 6 #[.val (.ref x), .val (.ref ms)] [(.ref x), (.ref x)])) rfl rfl (hb hby d4_6)
  have N2 := Fr.snoc X2 N0 g_x
  have Ex_x_2 := Ex_x.wr W2
  have N_x_2 := N_x.wr W2
  have S_us_2 := S_us.wr W2
  have S_se_2 := S_se.wr W2
  have F_cause_x_2 := F_cause_x.same W2
  have F_stackTrace_x_2 := F_stackTrace_x.other W2 (Or.inr (slot_ne (Or.inl (hw _ (List.mem_of_getElem? (i := 31) rfl))) (Or.inl (hw _ (List.mem_of_getElem? (i := 28) rfl))) (by decide) (t := (.array (.object "java/lang/StackTraceElement"))) (t' := (.object "java/lang/Throwable")) (by decide) (by decide)))
  have F_suppressedExceptions_x_2 := F_suppressedExceptions_x.other W2 (Or.inr (slot_ne (Or.inl (hw _ (List.mem_of_getElem? (i := 34) rfl))) (Or.inl (hw _ (List.mem_of_getElem? (i := 28) rfl))) (by decide) (t := (.object "java/util/List")) (t' := (.object "java/lang/Throwable")) (by decide) (by decide)))
  have F_detailMessage_x_2 := F_detailMessage_x.other W2 (Or.inr (slot_ne (Or.inl (hw _ (List.mem_of_getElem? (i := 58) rfl))) (Or.inl (hw _ (List.mem_of_getElem? (i := 28) rfl))) (by decide) (t := (.object "java/lang/String")) (t' := (.object "java/lang/Throwable")) (by decide) (by decide)))
  have F_backtrace_x_2 := F_backtrace_x.other W2 (Or.inr (slot_ne (Or.inl (hw _ (List.mem_of_getElem? (i := 59) rfl))) (Or.inl (hw _ (List.mem_of_getElem? (i := 28) rfl))) (by decide) (t := (.object "java/lang/Object")) (t' := (.object "java/lang/Throwable")) (by decide) (by decide)))
  have F_depth_x_2 := F_depth_x.other W2 (Or.inr (slot_ne (Or.inl (hw _ (List.mem_of_getElem? (i := 60) rfl))) (Or.inl (hw _ (List.mem_of_getElem? (i := 28) rfl))) (by decide) (t := .int) (t' := (.object "java/lang/Throwable")) (by decide) (by decide)))
  have F_kind_x_2 := F_kind_x.other W2 (Or.inr (slot_ne (Or.inr (hw _ (List.mem_of_getElem? (i := 64) rfl))) (Or.inl (hw _ (List.mem_of_getElem? (i := 28) rfl))) (by decide) (t := (.object "com/example/idpd/idpd/RefusedMessageException$Kind")) (t' := (.object "java/lang/Throwable")) (by decide) (by decide)))
  have Zs2 : n0 ≤ h2.size := Nat.le_trans Z0 (Keep.of_wr W2).1
  have K2 := (Keep.refl h0 [x]).wr W2 (Or.inl (List.mem_of_getElem? (i := 0) rfl))
  refine own_by (S' := T2.setTop (mkF m 9 #[.val (.ref x), .val (.ref ms)] [])) st2 ?_
  refine own_by (S' := T2.setTop (mkF m 10 #[.val (.ref x), .val (.ref ms)] [(.ref x)])) (fun tZ kZ => XS.aloadN X2.here hx rfl (hb hby d4_9) rfl rfl kZ) ?_
  obtain ⟨T3, X3, e3, st3⟩ := getS2 X2 hx hZ hown (host := "") (Or.inl (hw _ (List.mem_of_getElem? (i := 29) rfl))) Via.refl e2 S_us_2 (g := (mkF m 10 #[.val (.ref x), .val (.ref ms)] [(.ref x)])) rfl (hb hby d4_10)
  refine own_by (S' := T3.setTop (mkF m 13 #[.val (.ref x), .val (.ref ms)] [(.ref us), (.ref x)])) st3 ?_
  obtain ⟨T4, h4, X4, e4, W4, st4⟩ := putF X3 hx hZ hown (host := "") (Or.inl (hw _ (List.mem_of_getElem? (i := 30) rfl))) Via.refl e3 F_stackTrace_x_2 Ex_x_2 (Or.inl (hw _ (List.mem_of_getElem? (i := 31) rfl))) (hw _ (List.mem_of_getElem? (i := 6) rfl)) (ty := (.array (.object "java/lang/StackTraceElement"))) (by decide) rfl rfl (g := (mkF m 13 #[.val (.ref x), .val (.ref ms)] [(.ref us), (.ref x)])) rfl rfl (hb hby d4_13)
  have N4 := Fr.snoc X4 N2 g_x
  have Ex_x_4 := Ex_x_2.wr W4
  have N_x_4 := N_x_2.wr W4
  have S_us_4 := S_us_2.wr W4
  have S_se_4 := S_se_2.wr W4
  have F_cause_x_4 := F_cause_x_2.other W4 (Or.inr (slot_ne (Or.inl (hw _ (List.mem_of_getElem? (i := 28) rfl))) (Or.inl (hw _ (List.mem_of_getElem? (i := 31) rfl))) (by decide) (t := (.object "java/lang/Throwable")) (t' := (.array (.object "java/lang/StackTraceElement"))) (by decide) (by decide)))
  have F_stackTrace_x_4 := F_stackTrace_x_2.same W4
  have F_suppressedExceptions_x_4 := F_suppressedExceptions_x_2.other W4 (Or.inr (slot_ne (Or.inl (hw _ (List.mem_of_getElem? (i := 34) rfl))) (Or.inl (hw _ (List.mem_of_getElem? (i := 31) rfl))) (by decide) (t := (.object "java/util/List")) (t' := (.array (.object "java/lang/StackTraceElement"))) (by decide) (by decide)))
  have F_detailMessage_x_4 := F_detailMessage_x_2.other W4 (Or.inr (slot_ne (Or.inl (hw _ (List.mem_of_getElem? (i := 58) rfl))) (Or.inl (hw _ (List.mem_of_getElem? (i := 31) rfl))) (by decide) (t := (.object "java/lang/String")) (t' := (.array (.object "java/lang/StackTraceElement"))) (by decide) (by decide)))
  have F_backtrace_x_4 := F_backtrace_x_2.other W4 (Or.inr (slot_ne (Or.inl (hw _ (List.mem_of_getElem? (i := 59) rfl))) (Or.inl (hw _ (List.mem_of_getElem? (i := 31) rfl))) (by decide) (t := (.object "java/lang/Object")) (t' := (.array (.object "java/lang/StackTraceElement"))) (by decide) (by decide)))
  have F_depth_x_4 := F_depth_x_2.other W4 (Or.inr (slot_ne (Or.inl (hw _ (List.mem_of_getElem? (i := 60) rfl))) (Or.inl (hw _ (List.mem_of_getElem? (i := 31) rfl))) (by decide) (t := .int) (t' := (.array (.object "java/lang/StackTraceElement"))) (by decide) (by decide)))
  have F_kind_x_4 := F_kind_x_2.other W4 (Or.inr (slot_ne (Or.inr (hw _ (List.mem_of_getElem? (i := 64) rfl))) (Or.inl (hw _ (List.mem_of_getElem? (i := 31) rfl))) (by decide) (t := (.object "com/example/idpd/idpd/RefusedMessageException$Kind")) (t' := (.array (.object "java/lang/StackTraceElement"))) (by decide) (by decide)))
  have Zs4 : n0 ≤ h4.size := Nat.le_trans Zs2 (Keep.of_wr W4).1
  have K4 := K2.wr W4 (Or.inl (List.mem_of_getElem? (i := 0) rfl))
  refine own_by (S' := T4.setTop (mkF m 16 #[.val (.ref x), .val (.ref ms)] [])) st4 ?_
  refine own_by (S' := T4.setTop (mkF m 17 #[.val (.ref x), .val (.ref ms)] [(.ref x)])) (fun tZ kZ => XS.aloadN X4.here hx rfl (hb hby d4_16) rfl rfl kZ) ?_
  obtain ⟨T5, X5, e5, st5⟩ := getS2 X4 hx hZ hown (host := "") (Or.inl (hw _ (List.mem_of_getElem? (i := 32) rfl))) Via.refl e4 S_se_4 (g := (mkF m 17 #[.val (.ref x), .val (.ref ms)] [(.ref x)])) rfl (hb hby d4_17)
  refine own_by (S' := T5.setTop (mkF m 20 #[.val (.ref x), .val (.ref ms)] [(.ref se), (.ref x)])) st5 ?_
  obtain ⟨T6, h6, X6, e6, W6, st6⟩ := putF X5 hx hZ hown (host := "") (Or.inl (hw _ (List.mem_of_getElem? (i := 33) rfl))) Via.refl e5 F_suppressedExceptions_x_4 Ex_x_4 (Or.inl (hw _ (List.mem_of_getElem? (i := 34) rfl))) (hw _ (List.mem_of_getElem? (i := 6) rfl)) (ty := (.object "java/util/List")) (by decide) rfl rfl (g := (mkF m 20 #[.val (.ref x), .val (.ref ms)] [(.ref se), (.ref x)])) rfl rfl (hb hby d4_20)
  have N6 := Fr.snoc X6 N4 g_x
  have Ex_x_6 := Ex_x_4.wr W6
  have N_x_6 := N_x_4.wr W6
  have S_us_6 := S_us_4.wr W6
  have S_se_6 := S_se_4.wr W6
  have F_cause_x_6 := F_cause_x_4.other W6 (Or.inr (slot_ne (Or.inl (hw _ (List.mem_of_getElem? (i := 28) rfl))) (Or.inl (hw _ (List.mem_of_getElem? (i := 34) rfl))) (by decide) (t := (.object "java/lang/Throwable")) (t' := (.object "java/util/List")) (by decide) (by decide)))
  have F_stackTrace_x_6 := F_stackTrace_x_4.other W6 (Or.inr (slot_ne (Or.inl (hw _ (List.mem_of_getElem? (i := 31) rfl))) (Or.inl (hw _ (List.mem_of_getElem? (i := 34) rfl))) (by decide) (t := (.array (.object "java/lang/StackTraceElement"))) (t' := (.object "java/util/List")) (by decide) (by decide)))
  have F_suppressedExceptions_x_6 := F_suppressedExceptions_x_4.same W6
  have F_detailMessage_x_6 := F_detailMessage_x_4.other W6 (Or.inr (slot_ne (Or.inl (hw _ (List.mem_of_getElem? (i := 58) rfl))) (Or.inl (hw _ (List.mem_of_getElem? (i := 34) rfl))) (by decide) (t := (.object "java/lang/String")) (t' := (.object "java/util/List")) (by decide) (by decide)))
  have F_backtrace_x_6 := F_backtrace_x_4.other W6 (Or.inr (slot_ne (Or.inl (hw _ (List.mem_of_getElem? (i := 59) rfl))) (Or.inl (hw _ (List.mem_of_getElem? (i := 34) rfl))) (by decide) (t := (.object "java/lang/Object")) (t' := (.object "java/util/List")) (by decide) (by decide)))
  have F_depth_x_6 := F_depth_x_4.other W6 (Or.inr (slot_ne (Or.inl (hw _ (List.mem_of_getElem? (i := 60) rfl))) (Or.inl (hw _ (List.mem_of_getElem? (i := 34) rfl))) (by decide) (t := .int) (t' := (.object "java/util/List")) (by decide) (by decide)))
  have F_kind_x_6 := F_kind_x_4.other W6 (Or.inr (slot_ne (Or.inr (hw _ (List.mem_of_getElem? (i := 64) rfl))) (Or.inl (hw _ (List.mem_of_getElem? (i := 34) rfl))) (by decide) (t := (.object "com/example/idpd/idpd/RefusedMessageException$Kind")) (t' := (.object "java/util/List")) (by decide) (by decide)))
  have Zs6 : n0 ≤ h6.size := Nat.le_trans Zs4 (Keep.of_wr W6).1
  have K6 := K4.wr W6 (Or.inl (List.mem_of_getElem? (i := 0) rfl))
  refine own_by (S' := T6.setTop (mkF m 23 #[.val (.ref x), .val (.ref ms)] [])) st6 ?_
  refine own_by (S' := T6.setTop (mkF m 24 #[.val (.ref x), .val (.ref ms)] [(.ref x)])) (fun tZ kZ => XS.aloadN X6.here hx rfl (hb hby d4_23) rfl rfl kZ) ?_
  obtain ⟨T7, h7, L7, X7, e7, hl7, Kf7, st7⟩ := own_fill (rc := "com/example/idpd/idpd/RefusedMessageException") X6 hx hl hZ hown (by rw [hh]; exact HT) (own_xw hw) (hw _ (List.mem_of_getElem? (i := 6) rfl)) hTK hBelow e6 (x := x) (us := us) (by simp) Ex_x_6 N_x_6 F_backtrace_x_6 F_stackTrace_x_6 S_us_6 (g := (mkF m 24 #[.val (.ref x), .val (.ref ms)] [(.ref x)])) rfl (by rw [hml]; rfl) rfl rfl (hb hby d4_24) (by decide) (by decide) (by decide) (by decide)
  have N7 := Fr.app N6 (own_frx hl7 g_x)
  have K7 := K6.trans Kf7.1 (fun z hz => by obtain rfl := List.mem_singleton.mp hz; exact Or.inl (List.mem_of_getElem? (i := 0) rfl))
  have Zs7 := Nat.le_trans Zs6 Kf7.1.1
  have Ex_x_7 := Ex_x_6.keep Kf7.1
  have F_detailMessage_x_7 := Kf7.fld F_detailMessage_x_6 (slot_ne (Or.inl (hw _ (List.mem_of_getElem? (i := 58) rfl))) (Or.inl (hw _ (List.mem_of_getElem? (i := 59) rfl))) (by decide) (t := (.object "java/lang/String")) (t' := (.object "java/lang/Object")) (by decide) (by decide)) (slot_ne (Or.inl (hw _ (List.mem_of_getElem? (i := 58) rfl))) (Or.inl (hw _ (List.mem_of_getElem? (i := 60) rfl))) (by decide) (t := (.object "java/lang/String")) (t' := .int) (by decide) (by decide)) (slot_ne (Or.inl (hw _ (List.mem_of_getElem? (i := 58) rfl))) (Or.inl (hw _ (List.mem_of_getElem? (i := 31) rfl))) (by decide) (t := (.object "java/lang/String")) (t' := (.array (.object "java/lang/StackTraceElement"))) (by decide) (by decide))
  have F_kind_x_7 := Kf7.fld F_kind_x_6 (slot_ne (Or.inr (hw _ (List.mem_of_getElem? (i := 64) rfl))) (Or.inl (hw _ (List.mem_of_getElem? (i := 59) rfl))) (by decide) (t := (.object "com/example/idpd/idpd/RefusedMessageException$Kind")) (t' := (.object "java/lang/Object")) (by decide) (by decide)) (slot_ne (Or.inr (hw _ (List.mem_of_getElem? (i := 64) rfl))) (Or.inl (hw _ (List.mem_of_getElem? (i := 60) rfl))) (by decide) (t := (.object "com/example/idpd/idpd/RefusedMessageException$Kind")) (t' := .int) (by decide) (by decide)) (slot_ne (Or.inr (hw _ (List.mem_of_getElem? (i := 64) rfl))) (Or.inl (hw _ (List.mem_of_getElem? (i := 31) rfl))) (by decide) (t := (.object "com/example/idpd/idpd/RefusedMessageException$Kind")) (t' := (.array (.object "java/lang/StackTraceElement"))) (by decide) (by decide))
  refine own_by (S' := T7.setTop (mkF m 27 #[.val (.ref x), .val (.ref ms)] [(.ref x)])) st7 ?_
  refine own_by (S' := T7.setTop (mkF m 28 #[.val (.ref x), .val (.ref ms)] [])) (fun tZ kZ => XS.pop X7.here hx rfl (hb hby d4_27) rfl rfl kZ) ?_
  refine own_by (S' := T7.setTop (mkF m 29 #[.val (.ref x), .val (.ref ms)] [(.ref x)])) (fun tZ kZ => XS.aloadN X7.here hx rfl (hb hby d4_28) rfl rfl kZ) ?_
  refine own_by (S' := T7.setTop (mkF m 30 #[.val (.ref x), .val (.ref ms)] [(.ref ms), (.ref x)])) (fun tZ kZ => XS.aloadN X7.here hx rfl (hb hby d4_29) rfl rfl kZ) ?_
  obtain ⟨T8, h8, X8, e8, W8, st8⟩ := putF X7 hx hZ hown (host := "") (Or.inl (hw _ (List.mem_of_getElem? (i := 62) rfl))) Via.refl e7 F_detailMessage_x_7 Ex_x_7 (Or.inl (hw _ (List.mem_of_getElem? (i := 58) rfl))) (hw _ (List.mem_of_getElem? (i := 6) rfl)) (ty := (.object "java/lang/String")) (by decide) rfl rfl (g := (mkF m 30 #[.val (.ref x), .val (.ref ms)] [(.ref ms), (.ref x)])) rfl rfl (hb hby d4_30)
  have N8 := Fr.snoc X8 N7 g_x
  have Ex_x_8 := Ex_x_7.wr W8
  have F_detailMessage_x_8 := F_detailMessage_x_7.same W8
  have F_kind_x_8 := F_kind_x_7.other W8 (Or.inr (slot_ne (Or.inr (hw _ (List.mem_of_getElem? (i := 64) rfl))) (Or.inl (hw _ (List.mem_of_getElem? (i := 58) rfl))) (by decide) (t := (.object "com/example/idpd/idpd/RefusedMessageException$Kind")) (t' := (.object "java/lang/String")) (by decide) (by decide)))
  have Zs8 : n0 ≤ h8.size := Nat.le_trans Zs7 (Keep.of_wr W8).1
  have K8 := K7.wr W8 (Or.inl (List.mem_of_getElem? (i := 0) rfl))
  refine own_by (S' := T8.setTop (mkF m 33 #[.val (.ref x), .val (.ref ms)] [])) st8 ?_
  exact own_ret0 X8 hx Bd.returns (hb hby d4_33) Bd.notSynchronized (by decide) (by decide) (show QTh Z x h0 n0 none T8.heap _ from by rw [e8]; exact ⟨rfl, N8, K8, Ex_x_8, F_kind_x_8⟩)
theorem ef_rmE1 (m : MethodId) (x : Addr) (ms : Addr) : entryFrame m #[(.ref x), (.ref ms)] 2 = mkF m 0 #[.val (.ref x), .val (.ref ms)] [] := by first | (simp [entryFrame, mkF, argsToLocals, Value.category, maxLocals]; done) | rfl
set_option maxRecDepth 65536 in
set_option maxHeartbeats 40000000 in
theorem rmE1 (l : Launch) (Z : State) (a0 : Array Value) (hw : ∀ d ∈ tables_1, d.before a0 Z = true) (ws : List Jvm.Cond) (x us se : Addr) (ms : Addr) (h0 : Heap) (n0 : Nat) (Z0 : n0 ≤ h0.size) (HT : ThS Z h0) (hl : l.stackTraces = true) (S_us : Sta Z h0 "java/lang/Throwable" "UNASSIGNED_STACK" "[Ljava/lang/StackTraceElement;" (.ref us)) (S_se : Sta Z h0 "java/lang/Throwable" "SUPPRESSED_SENTINEL" "Ljava/util/List;" (.ref se)) (Ex_x : Exa Z h0 x "com/example/idpd/idpd/RefusedMessageException") (N_x : Unt h0 x) (F_cause_x : Fld Z h0 x "java/lang/Throwable" "cause" "Ljava/lang/Throwable;" .null) (F_stackTrace_x : Fld Z h0 x "java/lang/Throwable" "stackTrace" "[Ljava/lang/StackTraceElement;" .null) (F_suppressedExceptions_x : Fld Z h0 x "java/lang/Throwable" "suppressedExceptions" "Ljava/util/List;" .null) (F_detailMessage_x : Fld Z h0 x "java/lang/Throwable" "detailMessage" "Ljava/lang/String;" .null) (F_backtrace_x : Fld Z h0 x "java/lang/Throwable" "backtrace" "Ljava/lang/Object;" .null) (F_depth_x : Fld Z h0 x "java/lang/Throwable" "depth" "I" (.int 0)) (F_kind_x : Fld Z h0 x "com/example/idpd/idpd/RefusedMessageException" "kind" "Lcom/example/idpd/idpd/RefusedMessageException$Kind;" .null) (g_x : n0 ≤ x) :
    MetFree l (⟨"java/lang/Exception", "<init>", "(Ljava/lang/String;)V"⟩ : MethodName) (head1 (Jvm.Cond.code (⟨"java/lang/Exception", "<init>", "(Ljava/lang/String;)V"⟩ : MethodName) jdk_59_method_2_code (2 : Nat) (Option.none : Option Jvm.ClassFile.FieldType) :: ws) ({ frames := 4, cells := 1, slots := 2752, locals := 55 } : Room)) (fun aZ UZ => aZ = #[(.ref x), (.ref ms)] ∧ Z.Warmed39 UZ.vm ∧ UZ.heap = h0) (fun _ _ bl sZ _ => sZ.vm.MethodsKnown ∧ sZ.vm.FramesKnown bl) (fun _ UZ oZ VZ => ∃ vZ LZ, oZ = .returned vZ ∧ (QTh Z x h0 n0) vZ VZ.heap LZ ∧ FrameEnd UZ oZ VZ LZ ({ frames := 4, cells := 1, slots := 2752, locals := 55 } : Room).cells ({ frames := 4, cells := 1, slots := 2752, locals := 55 } : Room).slots) := by
  refine MetFree.of_bodySF (plainFor_of_name pn_4) hisR ?_
  intro p e s m args below meth c s₁ Bd hml0 hP hK
  obtain ⟨rfl, hZ, hh⟩ := hP
  obtain ⟨hTK, hBelow⟩ := hK
  have hx := Bd.exec
  have hby := Bd.bytes
  have hml : c.maxLocals = 2 := hml0
  have hown : s.vm.findClass "java/lang/Exception" = some m.cls := findClass_of_methodNamed Bd.named
  have hnm := (name_of_methodNamed Bd.named Bd.method).1
  have X0 : Stand p l e ({ frames := 4, cells := 1, slots := 2752, locals := 55 } : Room) s m #[(.ref x), (.ref ms)] below meth c s₁ [] 0 0 := Stand.of_body Bd
  have e0 : s₁.heap = h0 := by rw [← hh, Bd.state]; rfl
  have N0 := Fr.nil n0
  show OwnG p e below (OwnE s (QTh Z x h0 n0) ({ frames := 4, cells := 1, slots := 2752, locals := 55 } : Room).cells ({ frames := 4, cells := 1, slots := 2752, locals := 55 } : Room).slots) _
  refine own_by (S' := s₁.setTop (mkF m 0 #[.val (.ref x), .val (.ref ms)] [])) (fun tZ kZ => castTop (ef_rmE1 m x ms) kZ) ?_
  refine own_by (S' := s₁.setTop (mkF m 1 #[.val (.ref x), .val (.ref ms)] [(.ref x)])) (fun tZ kZ => XS.aloadN X0.here hx rfl (hb hby d3_0) rfl rfl kZ) ?_
  refine own_by (S' := s₁.setTop (mkF m 2 #[.val (.ref x), .val (.ref ms)] [(.ref ms), (.ref x)])) (fun tZ kZ => XS.aloadN X0.here hx rfl (hb hby d3_1) rfl rfl kZ) ?_
  obtain ⟨_, _, ⟨T1, L1, k1, n1⟩, -, X1, ⟨Lc1, hQ1, l1, y1, z1⟩, st1⟩ := X0.specialBack hx (y := (⟨"java/lang/Throwable", "<init>", "(Ljava/lang/String;)V"⟩ : MethodName)) rfl hown (mvT hZ (hw _ (List.mem_of_getElem? (i := 18) rfl))) (mvT hZ (hw _ (List.mem_of_getElem? (i := 19) rfl))) (mvT hZ (hw _ (List.mem_of_getElem? (i := 23) rfl))) (by decide) (backOfKL (W := 0) (rmTh1 l Z a0 hw [] x us se ms h0 n0 Z0 HT hl S_us S_se Ex_x N_x F_cause_x F_stackTrace_x F_suppressedExceptions_x F_detailMessage_x F_backtrace_x F_depth_x F_kind_x g_x) hZ (hw _ (List.mem_of_getElem? (i := 23) rfl)) (hw _ (List.mem_of_getElem? (i := 22) rfl)) (by decide) (by decide) hTK hBelow) (g := (mkF m 2 #[.val (.ref x), .val (.ref ms)] [(.ref ms), (.ref x)])) rfl (by rw [hml]; rfl) (Steps.refl _) (a := x) (argsL := [(.ref ms)]) (rest := []) (lenOf pd_7 rfl) rfl (by show 2 * 0 + _ ≤ _; exact Nat.le_of_eq rfl) (hb hby d3_2) (fun _ _ => ⟨rfl, e0, (by decide : 0 + 1 ≤ _), (by decide : 0 + 2752 ≤ _)⟩)
  dsimp only [Pt.U, Pt.locs, Pt.cells, Pt.slots] at X1 l1 y1 z1 st1 hQ1
  subst l1 y1 z1
  obtain ⟨rfl, N1q, Kc1, qe1, qf1⟩ := hQ1
  have N1 := Fr.app N0 N1q
  have Zs1 := Nat.le_trans Z0 Kc1.1
  have K1 := (Keep.refl h0 [x]).trans Kc1 (fun x hx => by
      simp only [List.mem_cons, List.not_mem_nil, or_false] at hx
      rcases hx with rfl
      · exact Or.inl (List.mem_of_getElem? (i := 0) rfl))
  refine own_by (S' := T1.setTop (mkF m 5 #[.val (.ref x), .val (.ref ms)] [])) (fun tZ kZ => st1.trans kZ) ?_
  exact own_ret0 X1 hx Bd.returns (hb hby d3_5) Bd.notSynchronized (by decide) (by decide) ⟨rfl, N1, K1, qe1, qf1⟩
theorem ef_rmR1 (m : MethodId) (x : Addr) (kx : Addr) (ms : Addr) : entryFrame m #[(.ref x), (.ref kx), (.ref ms)] 3 = mkF m 0 #[.val (.ref x), .val (.ref kx), .val (.ref ms)] [] := by first | (simp [entryFrame, mkF, argsToLocals, Value.category, maxLocals]; done) | rfl
set_option maxRecDepth 65536 in
set_option maxHeartbeats 40000000 in
theorem rmR1 (l : Launch) (Z : State) (a0 : Array Value) (hw : ∀ d ∈ tables_1, d.before a0 Z = true) (ws : List Jvm.Cond) (x kx us se : Addr) (ms : Addr) (h0 : Heap) (n0 : Nat) (Z0 : n0 ≤ h0.size) (HT : ThS Z h0) (hl : l.stackTraces = true) (S_us : Sta Z h0 "java/lang/Throwable" "UNASSIGNED_STACK" "[Ljava/lang/StackTraceElement;" (.ref us)) (S_se : Sta Z h0 "java/lang/Throwable" "SUPPRESSED_SENTINEL" "Ljava/util/List;" (.ref se)) (Ex_x : Exa Z h0 x "com/example/idpd/idpd/RefusedMessageException") (N_x : Unt h0 x) (F_cause_x : Fld Z h0 x "java/lang/Throwable" "cause" "Ljava/lang/Throwable;" .null) (F_stackTrace_x : Fld Z h0 x "java/lang/Throwable" "stackTrace" "[Ljava/lang/StackTraceElement;" .null) (F_suppressedExceptions_x : Fld Z h0 x "java/lang/Throwable" "suppressedExceptions" "Ljava/util/List;" .null) (F_detailMessage_x : Fld Z h0 x "java/lang/Throwable" "detailMessage" "Ljava/lang/String;" .null) (F_backtrace_x : Fld Z h0 x "java/lang/Throwable" "backtrace" "Ljava/lang/Object;" .null) (F_depth_x : Fld Z h0 x "java/lang/Throwable" "depth" "I" (.int 0)) (F_kind_x : Fld Z h0 x "com/example/idpd/idpd/RefusedMessageException" "kind" "Lcom/example/idpd/idpd/RefusedMessageException$Kind;" .null) (g_x : n0 ≤ x) :
    MetFree l (⟨"com/example/idpd/idpd/RefusedMessageException", "<init>", "(Lcom/example/idpd/idpd/RefusedMessageException$Kind;Ljava/lang/String;)V"⟩ : MethodName) (head1 (Jvm.Cond.code (⟨"com/example/idpd/idpd/RefusedMessageException", "<init>", "(Lcom/example/idpd/idpd/RefusedMessageException$Kind;Ljava/lang/String;)V"⟩ : MethodName) prog_18_method_1_code (3 : Nat) (Option.none : Option Jvm.ClassFile.FieldType) :: ws) ({ frames := 5, cells := 1, slots := 2752, locals := 68 } : Room)) (fun aZ UZ => aZ = #[(.ref x), (.ref kx), (.ref ms)] ∧ Z.Warmed39 UZ.vm ∧ UZ.heap = h0) (fun _ _ bl sZ _ => sZ.vm.MethodsKnown ∧ sZ.vm.FramesKnown bl) (fun _ UZ oZ VZ => ∃ vZ LZ, oZ = .returned vZ ∧ (QRe Z x kx h0 n0) vZ VZ.heap LZ ∧ FrameEnd UZ oZ VZ LZ ({ frames := 5, cells := 1, slots := 2752, locals := 68 } : Room).cells ({ frames := 5, cells := 1, slots := 2752, locals := 68 } : Room).slots) := by
  refine MetFree.of_bodySF (plainFor_of_name pn_5) hisR ?_
  intro p e s m args below meth c s₁ Bd hml0 hP hK
  obtain ⟨rfl, hZ, hh⟩ := hP
  obtain ⟨hTK, hBelow⟩ := hK
  have hx := Bd.exec
  have hby := Bd.bytes
  have hml : c.maxLocals = 3 := hml0
  have hown : s.vm.findClass "com/example/idpd/idpd/RefusedMessageException" = some m.cls := findClass_of_methodNamed Bd.named
  have hnm := (name_of_methodNamed Bd.named Bd.method).1
  have X0 : Stand p l e ({ frames := 5, cells := 1, slots := 2752, locals := 68 } : Room) s m #[(.ref x), (.ref kx), (.ref ms)] below meth c s₁ [] 0 0 := Stand.of_body Bd
  have e0 : s₁.heap = h0 := by rw [← hh, Bd.state]; rfl
  have N0 := Fr.nil n0
  show OwnG p e below (OwnE s (QRe Z x kx h0 n0) ({ frames := 5, cells := 1, slots := 2752, locals := 68 } : Room).cells ({ frames := 5, cells := 1, slots := 2752, locals := 68 } : Room).slots) _
  refine own_by (S' := s₁.setTop (mkF m 0 #[.val (.ref x), .val (.ref kx), .val (.ref ms)] [])) (fun tZ kZ => castTop (ef_rmR1 m x kx ms) kZ) ?_
  refine own_by (S' := s₁.setTop (mkF m 1 #[.val (.ref x), .val (.ref kx), .val (.ref ms)] [(.ref x)])) (fun tZ kZ => XS.aloadN X0.here hx rfl (hb hby d2_0) rfl rfl kZ) ?_
  refine own_by (S' := s₁.setTop (mkF m 2 #[.val (.ref x), .val (.ref kx), .val (.ref ms)] [(.ref ms), (.ref x)])) (fun tZ kZ => XS.aloadN X0.here hx rfl (hb hby d2_1) rfl rfl kZ) ?_
  obtain ⟨_, _, ⟨T1, L1, k1, n1⟩, -, X1, ⟨Lc1, hQ1, l1, y1, z1⟩, st1⟩ := X0.specialBack hx (y := (⟨"java/lang/Exception", "<init>", "(Ljava/lang/String;)V"⟩ : MethodName)) rfl hown (mvT hZ (hw _ (List.mem_of_getElem? (i := 13) rfl))) (mvT hZ (hw _ (List.mem_of_getElem? (i := 14) rfl))) (mvT hZ (hw _ (List.mem_of_getElem? (i := 17) rfl))) (by decide) (backOfKL (W := 0) (rmE1 l Z a0 hw [] x us se ms h0 n0 Z0 HT hl S_us S_se Ex_x N_x F_cause_x F_stackTrace_x F_suppressedExceptions_x F_detailMessage_x F_backtrace_x F_depth_x F_kind_x g_x) hZ (hw _ (List.mem_of_getElem? (i := 17) rfl)) (hw _ (List.mem_of_getElem? (i := 16) rfl)) (by decide) (by decide) hTK hBelow) (g := (mkF m 2 #[.val (.ref x), .val (.ref kx), .val (.ref ms)] [(.ref ms), (.ref x)])) rfl (by rw [hml]; rfl) (Steps.refl _) (a := x) (argsL := [(.ref ms)]) (rest := []) (lenOf pd_7 rfl) rfl (by show 2 * 0 + _ ≤ _; exact Nat.le_of_eq rfl) (hb hby d2_2) (fun _ _ => ⟨rfl, e0, (by decide : 0 + 1 ≤ _), (by decide : 0 + 2752 ≤ _)⟩)
  dsimp only [Pt.U, Pt.locs, Pt.cells, Pt.slots] at X1 l1 y1 z1 st1 hQ1
  subst l1 y1 z1
  obtain ⟨rfl, N1q, Kc1, qe1, qf1⟩ := hQ1
  have N1 := Fr.app N0 N1q
  have Zs1 := Nat.le_trans Z0 Kc1.1
  have K1 := (Keep.refl h0 [x]).trans Kc1 (fun x hx => by
      simp only [List.mem_cons, List.not_mem_nil, or_false] at hx
      rcases hx with rfl
      · exact Or.inl (List.mem_of_getElem? (i := 0) rfl))
  refine own_by (S' := T1.setTop (mkF m 5 #[.val (.ref x), .val (.ref kx), .val (.ref ms)] [])) (fun tZ kZ => st1.trans kZ) ?_
  refine own_by (S' := T1.setTop (mkF m 6 #[.val (.ref x), .val (.ref kx), .val (.ref ms)] [(.ref x)])) (fun tZ kZ => XS.aloadN X1.here hx rfl (hb hby d2_5) rfl rfl kZ) ?_
  refine own_by (S' := T1.setTop (mkF m 7 #[.val (.ref x), .val (.ref kx), .val (.ref ms)] [(.ref kx), (.ref x)])) (fun tZ kZ => XS.aloadN X1.here hx rfl (hb hby d2_6) rfl rfl kZ) ?_
  obtain ⟨T2, h2, X2, e2, W2, st2⟩ := putF X1 hx hZ hown (host := "") (Or.inl (hw _ (List.mem_of_getElem? (i := 63) rfl))) Via.refl rfl qf1 qe1 (Or.inr ⟨(hw _ (List.mem_of_getElem? (i := 64) rfl)), rfl, hnm⟩) (hw _ (List.mem_of_getElem? (i := 6) rfl)) (ty := (.object "com/example/idpd/idpd/RefusedMessageException$Kind")) (by decide) rfl rfl (g := (mkF m 7 #[.val (.ref x), .val (.ref kx), .val (.ref ms)] [(.ref kx), (.ref x)])) rfl rfl (hb hby d2_7)
  have N2 := Fr.snoc X2 N1 g_x
  have qe1_2 := qe1.wr W2
  have qf1_2 := qf1.same W2
  have Zs2 : n0 ≤ h2.size := Nat.le_trans Zs1 (Keep.of_wr W2).1
  have K2 := K1.wr W2 (Or.inl (List.mem_of_getElem? (i := 0) rfl))
  refine own_by (S' := T2.setTop (mkF m 10 #[.val (.ref x), .val (.ref kx), .val (.ref ms)] [])) st2 ?_
  exact own_ret0 X2 hx Bd.returns (hb hby d2_10) Bd.notSynchronized (by decide) (by decide) (show QRe Z x kx h0 n0 none T2.heap _ from by rw [e2]; exact ⟨rfl, N2, K2, qe1_2, qf1_2⟩)
theorem ef_rmX1 (m : MethodId) (ms : Addr) : entryFrame m #[(.ref ms)] 1 = mkF m 0 #[.val (.ref ms)] [] := by first | (simp [entryFrame, mkF, argsToLocals, Value.category, maxLocals]; done) | rfl
set_option maxRecDepth 65536 in
set_option maxHeartbeats 40000000 in
theorem rmX1 (l : Launch) (Z : State) (a0 : Array Value) (hw : ∀ d ∈ tables_1, d.before a0 Z = true) (ws : List Jvm.Cond) (kx us se : Addr) (ms : Addr) (h0 : Heap) (n0 : Nat) (Z0 : n0 ≤ h0.size) (HT : ThS Z h0) (hl : l.stackTraces = true) (S_us : Sta Z h0 "java/lang/Throwable" "UNASSIGNED_STACK" "[Ljava/lang/StackTraceElement;" (.ref us)) (S_se : Sta Z h0 "java/lang/Throwable" "SUPPRESSED_SENTINEL" "Ljava/util/List;" (.ref se)) (S_k : Sta Z h0 "com/example/idpd/idpd/RefusedMessageException$Kind" "EXPIRED" "Lcom/example/idpd/idpd/RefusedMessageException$Kind;" (.ref kx)) :
    MetFree l (⟨"com/example/idpd/idpd/RefusedMessageException", "expired", "(Ljava/lang/String;)Lcom/example/idpd/idpd/RefusedMessageException;"⟩ : MethodName) (head1 (Jvm.Cond.code (⟨"com/example/idpd/idpd/RefusedMessageException", "expired", "(Ljava/lang/String;)Lcom/example/idpd/idpd/RefusedMessageException;"⟩ : MethodName) prog_18_method_8_code (1 : Nat) (Option.some (Jvm.ClassFile.FieldType.object "com/example/idpd/idpd/RefusedMessageException")) :: ws) ({ frames := 6, cells := 2, slots := 2759, locals := 83 } : Room)) (fun aZ UZ => aZ = #[(.ref ms)] ∧ Z.Warmed39 UZ.vm ∧ UZ.heap = h0) (fun _ _ bl sZ _ => sZ.vm.MethodsKnown ∧ sZ.vm.FramesKnown bl) (fun _ UZ oZ VZ => ∃ vZ LZ, oZ = .returned vZ ∧ (QEx Z kx h0 n0) vZ VZ.heap LZ ∧ FrameEnd UZ oZ VZ LZ ({ frames := 6, cells := 2, slots := 2759, locals := 83 } : Room).cells ({ frames := 6, cells := 2, slots := 2759, locals := 83 } : Room).slots) := by
  refine MetFree.of_bodySF (plainFor_of_name pn_5) hisR ?_
  intro p e s m args below meth c s₁ Bd hml0 hP hK
  obtain ⟨rfl, hZ, hh⟩ := hP
  obtain ⟨hTK, hBelow⟩ := hK
  have hx := Bd.exec
  have hby := Bd.bytes
  have hml : c.maxLocals = 1 := hml0
  have hown : s.vm.findClass "com/example/idpd/idpd/RefusedMessageException" = some m.cls := findClass_of_methodNamed Bd.named
  have hnm := (name_of_methodNamed Bd.named Bd.method).1
  have X0 : Stand p l e ({ frames := 6, cells := 2, slots := 2759, locals := 83 } : Room) s m #[(.ref ms)] below meth c s₁ [] 0 0 := Stand.of_body Bd
  have e0 : s₁.heap = h0 := by rw [← hh, Bd.state]; rfl
  have N0 := Fr.nil n0
  show OwnG p e below (OwnE s (QEx Z kx h0 n0) ({ frames := 6, cells := 2, slots := 2759, locals := 83 } : Room).cells ({ frames := 6, cells := 2, slots := 2759, locals := 83 } : Room).slots) _
  refine own_by (S' := s₁.setTop (mkF m 0 #[.val (.ref ms)] [])) (fun tZ kZ => castTop (ef_rmX1 m ms) kZ) ?_
  obtain ⟨T1, h1, X1, e1, E1, A1, D1, U1, st1⟩ := newO X0 hx hZ hown (hw _ (List.mem_of_getElem? (i := 5) rfl)) (hw _ (List.mem_of_getElem? (i := 6) rfl)) (hw _ (List.mem_of_getElem? (i := 3) rfl)) e0 (g := (mkF m 0 #[.val (.ref ms)] [])) rfl (hb hby d1_0) (by decide) (by decide)
  obtain ⟨b1, g1⟩ : ∃ z, z = h0.size := ⟨_, rfl⟩
  rw [← g1] at A1 D1 U1 st1
  have g_b1 : n0 ≤ b1 := Nat.le_trans Z0 (Nat.le_of_eq g1.symm)
  have sz_b1 : h0.size ≤ b1 := Nat.le_trans (Keep.refl h0 []).1 (Nat.le_of_eq g1.symm)
  have Zs1 : n0 ≤ h1.size := Nat.le_trans Z0 E1.1
  have K1 := (Keep.refl h0 []).ext E1
  have Ex_b1 := A1
  have F_cause_b1 : Fld Z h1 b1 "java/lang/Throwable" "cause" "Ljava/lang/Throwable;" .null := D1 (Or.inl (hw _ (List.mem_of_getElem? (i := 28) rfl))) (ty := (.object "java/lang/Throwable")) (by decide)
  have F_stackTrace_b1 : Fld Z h1 b1 "java/lang/Throwable" "stackTrace" "[Ljava/lang/StackTraceElement;" .null := D1 (Or.inl (hw _ (List.mem_of_getElem? (i := 31) rfl))) (ty := (.array (.object "java/lang/StackTraceElement"))) (by decide)
  have F_suppressedExceptions_b1 : Fld Z h1 b1 "java/lang/Throwable" "suppressedExceptions" "Ljava/util/List;" .null := D1 (Or.inl (hw _ (List.mem_of_getElem? (i := 34) rfl))) (ty := (.object "java/util/List")) (by decide)
  have F_detailMessage_b1 : Fld Z h1 b1 "java/lang/Throwable" "detailMessage" "Ljava/lang/String;" .null := D1 (Or.inl (hw _ (List.mem_of_getElem? (i := 58) rfl))) (ty := (.object "java/lang/String")) (by decide)
  have F_backtrace_b1 : Fld Z h1 b1 "java/lang/Throwable" "backtrace" "Ljava/lang/Object;" .null := D1 (Or.inl (hw _ (List.mem_of_getElem? (i := 59) rfl))) (ty := (.object "java/lang/Object")) (by decide)
  have F_depth_b1 : Fld Z h1 b1 "java/lang/Throwable" "depth" "I" (.int (0 : Int32)) := D1 (Or.inl (hw _ (List.mem_of_getElem? (i := 60) rfl))) (ty := .int) (by decide)
  have F_kind_b1 : Fld Z h1 b1 "com/example/idpd/idpd/RefusedMessageException" "kind" "Lcom/example/idpd/idpd/RefusedMessageException$Kind;" .null := D1 (Or.inr (hw _ (List.mem_of_getElem? (i := 64) rfl))) (ty := (.object "com/example/idpd/idpd/RefusedMessageException$Kind")) (by decide)
  refine own_by (S' := T1.setTop (mkF m 3 #[.val (.ref ms)] [(.ref b1)])) st1 ?_
  refine own_by (S' := T1.setTop (mkF m 4 #[.val (.ref ms)] [(.ref b1), (.ref b1)])) (fun tZ kZ => XS.dup X1.here hx rfl (hb hby d1_3) rfl rfl kZ) ?_
  have ExK1 := own_ext0 K1
  obtain ⟨T2, X2, e2, st2⟩ := getS2 X1 hx hZ hown (host := "") (Or.inl (hw _ (List.mem_of_getElem? (i := 7) rfl))) Via.refl e1 (S_k.ext ExK1) (g := (mkF m 4 #[.val (.ref ms)] [(.ref b1), (.ref b1)])) rfl (hb hby d1_4)
  refine own_by (S' := T2.setTop (mkF m 7 #[.val (.ref ms)] [(.ref kx), (.ref b1), (.ref b1)])) st2 ?_
  refine own_by (S' := T2.setTop (mkF m 8 #[.val (.ref ms)] [(.ref ms), (.ref kx), (.ref b1), (.ref b1)])) (fun tZ kZ => XS.aloadN X2.here hx rfl (hb hby d1_7) rfl rfl kZ) ?_
  obtain ⟨_, _, ⟨T3, L3, k3, n3⟩, -, X3, ⟨Lc3, hQ3, l3, y3, z3⟩, st3⟩ := X2.specialBack hx (y := (⟨"com/example/idpd/idpd/RefusedMessageException", "<init>", "(Lcom/example/idpd/idpd/RefusedMessageException$Kind;Ljava/lang/String;)V"⟩ : MethodName)) rfl hown (mvT hZ (hw _ (List.mem_of_getElem? (i := 10) rfl))) (mvT hZ (hw _ (List.mem_of_getElem? (i := 11) rfl))) (mvT hZ (hw _ (List.mem_of_getElem? (i := 12) rfl))) (by decide) (backOfKL (W := 1) (rmR1 l Z a0 hw [] b1 kx us se ms h1 n0 Zs1 (HT.ext ExK1) hl (S_us.ext ExK1) (S_se.ext ExK1) Ex_b1 U1 F_cause_b1 F_stackTrace_b1 F_suppressedExceptions_b1 F_detailMessage_b1 F_backtrace_b1 F_depth_b1 F_kind_b1 g_b1) hZ (hw _ (List.mem_of_getElem? (i := 12) rfl)) (hw _ (List.mem_of_getElem? (i := 3) rfl)) (by decide) (by decide) hTK hBelow) (g := (mkF m 8 #[.val (.ref ms)] [(.ref ms), (.ref kx), (.ref b1), (.ref b1)])) rfl (by rw [hml]; rfl) (Steps.refl _) (a := b1) (argsL := [(.ref kx), (.ref ms)]) (rest := [(.ref b1)]) (lenOf pd_8 rfl) rfl (by show 2 * 0 + _ ≤ _; exact Nat.le_of_eq rfl) (hb hby d1_8) (fun _ _ => ⟨rfl, e2, (by decide : 1 + 1 ≤ _), (by decide : 7 + 2752 ≤ _)⟩)
  dsimp only [Pt.U, Pt.locs, Pt.cells, Pt.slots] at X3 l3 y3 z3 st3 hQ3
  subst l3 y3 z3
  obtain ⟨rfl, N3q, Kc3, qe3, qf3⟩ := hQ3
  have N3 := Fr.app N0 N3q
  have Zs3 := Nat.le_trans Zs1 Kc3.1
  have K3 := K1.trans Kc3 (fun x hx => by
      simp only [List.mem_cons, List.not_mem_nil, or_false] at hx
      rcases hx with rfl
      · exact Or.inr sz_b1)
  have Ex_b1_3 := Ex_b1.keep Kc3
  refine own_by (S' := T3.setTop (mkF m 11 #[.val (.ref ms)] [(.ref b1)])) (fun tZ kZ => st3.trans kZ) ?_
  exact own_retA X3 hx Bd.returns rfl rfl (hb hby d1_11) Bd.notSynchronized (by decide) (by decide) ⟨b1, rfl, N3, K3, qe3, qf3⟩
theorem d7_0 : decode prog_18_method_9_code 0 = .ok (.aload_n 0, 1) := by decide +kernel
theorem d7_1 : decode prog_18_method_9_code 1 = .ok (.getfield 7, 3) := by decide +kernel
theorem d7_4 : decode prog_18_method_9_code 4 = .ok (.areturn, 1) := by decide +kernel
theorem ef_rmKi (m : MethodId) (x : Addr) : entryFrame m #[(.ref x)] 1 = mkF m 0 #[.val (.ref x)] [] := by first | (simp [entryFrame, mkF, argsToLocals, Value.category, maxLocals]; done) | rfl
set_option maxRecDepth 65536 in
set_option maxHeartbeats 40000000 in
theorem rmKi (l : Launch) (Z : State) (a0 : Array Value) (hw : ∀ d ∈ tables_1, d.before a0 Z = true) (ws : List Jvm.Cond) (x kx : Addr) (h0 : Heap) (n0 : Nat) (Z0 : n0 ≤ h0.size) (Fk : Fld Z h0 x "com/example/idpd/idpd/RefusedMessageException" "kind" "Lcom/example/idpd/idpd/RefusedMessageException$Kind;" (.ref kx)) :
    MetFree l (⟨"com/example/idpd/idpd/RefusedMessageException", "kind", "()Lcom/example/idpd/idpd/RefusedMessageException$Kind;"⟩ : MethodName) (head1 (Jvm.Cond.code (⟨"com/example/idpd/idpd/RefusedMessageException", "kind", "()Lcom/example/idpd/idpd/RefusedMessageException$Kind;"⟩ : MethodName) prog_18_method_9_code (1 : Nat) (Option.some (Jvm.ClassFile.FieldType.object "com/example/idpd/idpd/RefusedMessageException$Kind")) :: ws) ({ frames := 0, cells := 0, slots := 0, locals := 0 } : Room)) (fun aZ UZ => aZ = #[(.ref x)] ∧ Z.Warmed39 UZ.vm ∧ UZ.heap = h0) (fun _ _ _ _ _ => True) (fun _ UZ oZ VZ => ∃ vZ LZ, oZ = .returned vZ ∧ (QSame (some (.ref kx)) h0 n0) vZ VZ.heap LZ ∧ FrameEnd UZ oZ VZ LZ ({ frames := 0, cells := 0, slots := 0, locals := 0 } : Room).cells ({ frames := 0, cells := 0, slots := 0, locals := 0 } : Room).slots) := by
  refine MetFree.of_bodySF (plainFor_of_name pn_5) hisR ?_
  intro p e s m args below meth c s₁ Bd hml0 hP hK
  obtain ⟨rfl, hZ, hh⟩ := hP
  have hx := Bd.exec
  have hby := Bd.bytes
  have hml : c.maxLocals = 1 := hml0
  have hown : s.vm.findClass "com/example/idpd/idpd/RefusedMessageException" = some m.cls := findClass_of_methodNamed Bd.named
  have hnm := (name_of_methodNamed Bd.named Bd.method).1
  have X0 : Stand p l e ({ frames := 0, cells := 0, slots := 0, locals := 0 } : Room) s m #[(.ref x)] below meth c s₁ [] 0 0 := Stand.of_body Bd
  have e0 : s₁.heap = h0 := by rw [← hh, Bd.state]; rfl
  have N0 := Fr.nil n0
  show OwnG p e below (OwnE s (QSame (some (.ref kx)) h0 n0) ({ frames := 0, cells := 0, slots := 0, locals := 0 } : Room).cells ({ frames := 0, cells := 0, slots := 0, locals := 0 } : Room).slots) _
  refine own_by (S' := s₁.setTop (mkF m 0 #[.val (.ref x)] [])) (fun tZ kZ => castTop (ef_rmKi m x) kZ) ?_
  refine own_by (S' := s₁.setTop (mkF m 1 #[.val (.ref x)] [(.ref x)])) (fun tZ kZ => XS.aloadN X0.here hx rfl (hb hby d7_0) rfl rfl kZ) ?_
  obtain ⟨T1, X1, e1, st1⟩ := getF X0 hx hZ hown (host := "") (Or.inl (hw _ (List.mem_of_getElem? (i := 63) rfl))) Via.refl e0 Fk (g := (mkF m 1 #[.val (.ref x)] [(.ref x)])) rfl rfl (hb hby d7_1)
  refine own_by (S' := T1.setTop (mkF m 4 #[.val (.ref x)] [(.ref kx)])) st1 ?_
  exact own_retA X1 hx Bd.returns rfl rfl (hb hby d7_4) Bd.notSynchronized (by decide) (by decide) ⟨rfl, N0, e1⟩
def Q0 (h0 : Heap) (n0 : Nat) (v : Option Value) (h : Heap) (L : List Loc) : Prop := v = some (.int 1) ∧ Fr n0 L
theorem pn_6 : plainName "com/example/idpd/idpd/RefusedMessageExceptionExpiredPinLaw" = true := by first | (simp [plainName, overriddenIn]; done) | decide +kernel
theorem ef_rm0 (m : MethodId) (p1 : Int32) (p2 : Int32) (p3 : Int32) (p4 : Int32) : entryFrame m #[(.int p1), (.int p2), (.int p3), (.int p4)] maxLocals = mkF m 0 #[.val (.int p1), .val (.int p2), .val (.int p3), .val (.int p4), .unset, .unset, .unset, .unset] [] := by first | (simp [entryFrame, mkF, argsToLocals, Value.category, maxLocals]; done) | rfl
set_option maxRecDepth 65536 in
set_option maxHeartbeats 40000000 in
theorem rm0 (l : Launch) (Z : State) (a0 : Array Value) (hw : ∀ d ∈ tables_1, d.before a0 Z = true) (ws : List Jvm.Cond) (p1 p2 p3 p4 : Int32) (kx us se : Addr) (cz : Int32) (h0 : Heap) (n0 : Nat) (Z0 : n0 ≤ h0.size) (HT : ThS Z h0) (hl : l.stackTraces = true) (S_us : Sta Z h0 "java/lang/Throwable" "UNASSIGNED_STACK" "[Ljava/lang/StackTraceElement;" (.ref us)) (S_se : Sta Z h0 "java/lang/Throwable" "SUPPRESSED_SENTINEL" "Ljava/util/List;" (.ref se)) (S_k : Sta Z h0 "com/example/idpd/idpd/RefusedMessageException$Kind" "EXPIRED" "Lcom/example/idpd/idpd/RefusedMessageException$Kind;" (.ref kx)) (Sc : Sta Z h0 "java/lang/String" "COMPACT_STRINGS" "Z" (.int cz)) (hcz : ¬ cz = 0) :
    MetFree l x (head1 (Jvm.Cond.code x code maxLocals ret :: ws) room_1) (fun aZ UZ => aZ = #[(.int p1), (.int p2), (.int p3), (.int p4)] ∧ Z.Warmed39 UZ.vm ∧ UZ.heap = h0) (fun _ _ bl sZ _ => sZ.vm.MethodsKnown ∧ sZ.vm.FramesKnown bl) (fun _ UZ oZ VZ => ∃ vZ LZ, oZ = .returned vZ ∧ (Q0  h0 n0) vZ VZ.heap LZ ∧ ReturnedEndW UZ oZ VZ LZ room_1.cells room_1.slots) := by
  refine MetFree.of_bodySF (plainFor_of_name pn_6) hisR ?_
  intro p e s m args below meth c s₁ Bd hml0 hP hK
  obtain ⟨rfl, hZ, hh⟩ := hP
  obtain ⟨hTK, hBelow⟩ := hK
  have hx := Bd.exec
  have hby := Bd.bytes
  have hml : c.maxLocals = 8 := hml0
  have hown : s.vm.findClass "com/example/idpd/idpd/RefusedMessageExceptionExpiredPinLaw" = some m.cls := findClass_of_methodNamed Bd.named
  have hnm := (name_of_methodNamed Bd.named Bd.method).1
  have X0 : Stand p l e room_1 (s.setVm s.vm) m #[(.int p1), (.int p2), (.int p3), (.int p4)] below meth c s₁ [] 0 0 := Stand.of_body Bd
  have e0 : s₁.heap = h0 := by rw [← hh, Bd.state]; rfl
  have N0 := Fr.nil n0
  show OwnG p e below (OwnEW s (Q0  h0 n0) room_1.cells room_1.slots) _
  refine own_by (S' := s₁.setTop (mkF m 0 #[.val (.int p1), .val (.int p2), .val (.int p3), .val (.int p4), .unset, .unset, .unset, .unset] [])) (fun tZ kZ => castTop (ef_rm0 m p1 p2 p3 p4) kZ) ?_
  have hS0 : s.Since s.vm 0 := State.WarmedH.since (State.WarmedH.refl s) 0
  have hk0 : 0 ≤ h0.size := Nat.zero_le _
  have hZ0 : Z.Warmed39 (s.setVm s.vm).vm := hZ
  have hown0 : (s.setVm s.vm).vm.findClass "com/example/idpd/idpd/RefusedMessageExceptionExpiredPinLaw" = some m.cls := hown
  refine own_by (S' := s₁.setTop (mkF m 1 #[.val (.int p1), .val (.int p2), .val (.int p3), .val (.int p4), .unset, .unset, .unset, .unset] [(.int (3 : Int32))])) (fun tZ kZ => XS.iconst X0.here hx rfl (hb hby at_0) kZ) ?_
  obtain ⟨T1, h1, k1, X1, e1, E1, A1, st1⟩ := newP X0 hx hZ0 (hw _ (List.mem_of_getElem? (i := 0) rfl)) e0 (g := (mkF m 1 #[.val (.int p1), .val (.int p2), .val (.int p3), .val (.int p4), .unset, .unset, .unset, .unset] [(.int (3 : Int32))])) rfl (hb hby at_1) rfl (by decide) (cap := 3) (by decide) (by decide) (by decide) (by decide)
  obtain ⟨b1, g1⟩ : ∃ z, z = h0.size := ⟨_, rfl⟩
  rw [← g1] at A1 st1
  have g_b1 : n0 ≤ b1 := Nat.le_trans Z0 (Nat.le_of_eq g1.symm)
  have sz_b1 : h0.size ≤ b1 := Nat.le_trans (Keep.refl h0 []).1 (Nat.le_of_eq g1.symm)
  have Zs1 : n0 ≤ h1.size := Nat.le_trans Z0 E1.1
  have hk1 := Nat.le_trans hk0 E1.1
  have K1 := (Keep.refl h0 []).ext E1
  have V_b1 := OwnA.new A1
  refine own_by (S' := T1.setTop (mkF m 3 #[.val (.int p1), .val (.int p2), .val (.int p3), .val (.int p4), .unset, .unset, .unset, .unset] [(.ref b1)])) st1 ?_
  have V_b1' : OwnA Z h1 b1 k1 .char [.int 0, .int 0, .int 0] := V_b1
  refine own_by (S' := T1.setTop (mkF m 5 #[.val (.int p1), .val (.int p2), .val (.int p3), .val (.int p4), .val (.ref b1), .unset, .unset, .unset] [])) (fun tZ kZ => XS.astore X1.here hx rfl (hb hby at_3) rfl rfl (l' := #[.val (.int p1), .val (.int p2), .val (.int p3), .val (.int p4), .val (.ref b1), .unset, .unset, .unset]) rfl kZ) ?_
  refine own_by (S' := T1.setTop (mkF m 7 #[.val (.int p1), .val (.int p2), .val (.int p3), .val (.int p4), .val (.ref b1), .unset, .unset, .unset] [(.ref b1)])) (fun tZ kZ => XS.aload X1.here hx rfl (hb hby at_5) rfl rfl kZ) ?_
  refine own_by (S' := T1.setTop (mkF m 8 #[.val (.int p1), .val (.int p2), .val (.int p3), .val (.int p4), .val (.ref b1), .unset, .unset, .unset] [(.int (0 : Int32)), (.ref b1)])) (fun tZ kZ => XS.iconst X1.here hx rfl (hb hby at_7) kZ) ?_
  refine own_by (S' := T1.setTop (mkF m 9 #[.val (.int p1), .val (.int p2), .val (.int p3), .val (.int p4), .val (.ref b1), .unset, .unset, .unset] [(.int p2), (.int (0 : Int32)), (.ref b1)])) (fun tZ kZ => XS.iloadN X1.here hx rfl (hb hby at_8) rfl kZ) ?_
  refine own_by (S' := T1.setTop (mkF m 12 #[.val (.int p1), .val (.int p2), .val (.int p3), .val (.int p4), .val (.ref b1), .unset, .unset, .unset] [(.int (255 : Int32)), (.int p2), (.int (0 : Int32)), (.ref b1)])) (fun tZ kZ => XS.sipush X1.here hx rfl (hb hby at_9) kZ) ?_
  refine own_by (S' := T1.setTop (mkF m 13 #[.val (.int p1), .val (.int p2), .val (.int p3), .val (.int p4), .val (.ref b1), .unset, .unset, .unset] [(.int (p2 &&& (255 : Int32))), (.int (0 : Int32)), (.ref b1)])) (fun tZ kZ => XS.iand X1.here hx rfl (hb hby at_12) rfl kZ) ?_
  refine own_by (S' := T1.setTop (mkF m 14 #[.val (.int p1), .val (.int p2), .val (.int p3), .val (.int p4), .val (.ref b1), .unset, .unset, .unset] [(.int ((p2 &&& (255 : Int32)).toUInt32.toUInt16.toUInt32.toInt32)), (.int (0 : Int32)), (.ref b1)])) (fun tZ kZ => XS.i2c X1.here hx rfl (hb hby at_13) rfl kZ) ?_
  obtain ⟨q0, hq0⟩ : ∃ z : Int32, z = ((p2 &&& (255 : Int32)).toUInt32.toUInt16.toUInt32.toInt32) := ⟨_, rfl⟩
  rw [← hq0]
  have hn0 : ¬ (255 : Int32) < nar .char q0 := by rw [hq0]; exact own_c255 _
  obtain ⟨cc2, Ar2, hc2, hl2⟩ := id V_b1'
  have hin2 := OwnA.inb (j := (0 : Int32)) hl2 (by decide) (Nat.le_of_ble_eq_true rfl)
  obtain ⟨T2, h2, X2, e2, W2, st2⟩ := stC X1 hx hZ0 e1 Ar2 (j := (0 : Int32)) hin2 (g := (mkF m 14 #[.val (.int p1), .val (.int p2), .val (.int p3), .val (.int p4), .val (.ref b1), .unset, .unset, .unset] [(.int q0), (.int (0 : Int32)), (.ref b1)])) rfl rfl (hb hby at_14)
  have N2 := Fr.snoc X2 N0 g_b1
  have Zs2 : n0 ≤ h2.size := Nat.le_trans Zs1 (Keep.of_wr W2).1
  have hk2 := Nat.le_trans hk1 (Keep.of_wr W2).1
  have K2 := K1.wr W2 (Or.inr sz_b1)
  have V_b1_w2 : OwnA Z h2 b1 k1 .char [.int (nar .char q0), .int 0, .int 0] := (V_b1'.set W2)
  refine own_by (S' := T2.setTop (mkF m 15 #[.val (.int p1), .val (.int p2), .val (.int p3), .val (.int p4), .val (.ref b1), .unset, .unset, .unset] [])) st2 ?_
  refine own_by (S' := T2.setTop (mkF m 17 #[.val (.int p1), .val (.int p2), .val (.int p3), .val (.int p4), .val (.ref b1), .unset, .unset, .unset] [(.ref b1)])) (fun tZ kZ => XS.aload X2.here hx rfl (hb hby at_15) rfl rfl kZ) ?_
  refine own_by (S' := T2.setTop (mkF m 18 #[.val (.int p1), .val (.int p2), .val (.int p3), .val (.int p4), .val (.ref b1), .unset, .unset, .unset] [(.int (1 : Int32)), (.ref b1)])) (fun tZ kZ => XS.iconst X2.here hx rfl (hb hby at_17) kZ) ?_
  refine own_by (S' := T2.setTop (mkF m 19 #[.val (.int p1), .val (.int p2), .val (.int p3), .val (.int p4), .val (.ref b1), .unset, .unset, .unset] [(.int p3), (.int (1 : Int32)), (.ref b1)])) (fun tZ kZ => XS.iloadN X2.here hx rfl (hb hby at_18) rfl kZ) ?_
  refine own_by (S' := T2.setTop (mkF m 22 #[.val (.int p1), .val (.int p2), .val (.int p3), .val (.int p4), .val (.ref b1), .unset, .unset, .unset] [(.int (255 : Int32)), (.int p3), (.int (1 : Int32)), (.ref b1)])) (fun tZ kZ => XS.sipush X2.here hx rfl (hb hby at_19) kZ) ?_
  refine own_by (S' := T2.setTop (mkF m 23 #[.val (.int p1), .val (.int p2), .val (.int p3), .val (.int p4), .val (.ref b1), .unset, .unset, .unset] [(.int (p3 &&& (255 : Int32))), (.int (1 : Int32)), (.ref b1)])) (fun tZ kZ => XS.iand X2.here hx rfl (hb hby at_22) rfl kZ) ?_
  refine own_by (S' := T2.setTop (mkF m 24 #[.val (.int p1), .val (.int p2), .val (.int p3), .val (.int p4), .val (.ref b1), .unset, .unset, .unset] [(.int ((p3 &&& (255 : Int32)).toUInt32.toUInt16.toUInt32.toInt32)), (.int (1 : Int32)), (.ref b1)])) (fun tZ kZ => XS.i2c X2.here hx rfl (hb hby at_23) rfl kZ) ?_
  obtain ⟨q1, hq1⟩ : ∃ z : Int32, z = ((p3 &&& (255 : Int32)).toUInt32.toUInt16.toUInt32.toInt32) := ⟨_, rfl⟩
  rw [← hq1]
  have hn1 : ¬ (255 : Int32) < nar .char q1 := by rw [hq1]; exact own_c255 _
  obtain ⟨cc3, Ar3, hc3, hl3⟩ := id V_b1_w2
  have hin3 := OwnA.inb (j := (1 : Int32)) hl3 (by decide) (Nat.le_of_ble_eq_true rfl)
  obtain ⟨T3, h3, X3, e3, W3, st3⟩ := stC X2 hx hZ0 e2 Ar3 (j := (1 : Int32)) hin3 (g := (mkF m 24 #[.val (.int p1), .val (.int p2), .val (.int p3), .val (.int p4), .val (.ref b1), .unset, .unset, .unset] [(.int q1), (.int (1 : Int32)), (.ref b1)])) rfl rfl (hb hby at_24)
  have N3 := Fr.snoc X3 N2 g_b1
  have Zs3 : n0 ≤ h3.size := Nat.le_trans Zs2 (Keep.of_wr W3).1
  have hk3 := Nat.le_trans hk2 (Keep.of_wr W3).1
  have K3 := K2.wr W3 (Or.inr sz_b1)
  have V_b1_w3 : OwnA Z h3 b1 k1 .char [.int (nar .char q0), .int (nar .char q1), .int 0] := (V_b1_w2.set W3)
  refine own_by (S' := T3.setTop (mkF m 25 #[.val (.int p1), .val (.int p2), .val (.int p3), .val (.int p4), .val (.ref b1), .unset, .unset, .unset] [])) st3 ?_
  refine own_by (S' := T3.setTop (mkF m 27 #[.val (.int p1), .val (.int p2), .val (.int p3), .val (.int p4), .val (.ref b1), .unset, .unset, .unset] [(.ref b1)])) (fun tZ kZ => XS.aload X3.here hx rfl (hb hby at_25) rfl rfl kZ) ?_
  refine own_by (S' := T3.setTop (mkF m 28 #[.val (.int p1), .val (.int p2), .val (.int p3), .val (.int p4), .val (.ref b1), .unset, .unset, .unset] [(.int (2 : Int32)), (.ref b1)])) (fun tZ kZ => XS.iconst X3.here hx rfl (hb hby at_27) kZ) ?_
  refine own_by (S' := T3.setTop (mkF m 29 #[.val (.int p1), .val (.int p2), .val (.int p3), .val (.int p4), .val (.ref b1), .unset, .unset, .unset] [(.int p4), (.int (2 : Int32)), (.ref b1)])) (fun tZ kZ => XS.iloadN X3.here hx rfl (hb hby at_28) rfl kZ) ?_
  refine own_by (S' := T3.setTop (mkF m 32 #[.val (.int p1), .val (.int p2), .val (.int p3), .val (.int p4), .val (.ref b1), .unset, .unset, .unset] [(.int (255 : Int32)), (.int p4), (.int (2 : Int32)), (.ref b1)])) (fun tZ kZ => XS.sipush X3.here hx rfl (hb hby at_29) kZ) ?_
  refine own_by (S' := T3.setTop (mkF m 33 #[.val (.int p1), .val (.int p2), .val (.int p3), .val (.int p4), .val (.ref b1), .unset, .unset, .unset] [(.int (p4 &&& (255 : Int32))), (.int (2 : Int32)), (.ref b1)])) (fun tZ kZ => XS.iand X3.here hx rfl (hb hby at_32) rfl kZ) ?_
  refine own_by (S' := T3.setTop (mkF m 34 #[.val (.int p1), .val (.int p2), .val (.int p3), .val (.int p4), .val (.ref b1), .unset, .unset, .unset] [(.int ((p4 &&& (255 : Int32)).toUInt32.toUInt16.toUInt32.toInt32)), (.int (2 : Int32)), (.ref b1)])) (fun tZ kZ => XS.i2c X3.here hx rfl (hb hby at_33) rfl kZ) ?_
  obtain ⟨q2, hq2⟩ : ∃ z : Int32, z = ((p4 &&& (255 : Int32)).toUInt32.toUInt16.toUInt32.toInt32) := ⟨_, rfl⟩
  rw [← hq2]
  have hn2 : ¬ (255 : Int32) < nar .char q2 := by rw [hq2]; exact own_c255 _
  obtain ⟨cc4, Ar4, hc4, hl4⟩ := id V_b1_w3
  have hin4 := OwnA.inb (j := (2 : Int32)) hl4 (by decide) (Nat.le_of_ble_eq_true rfl)
  obtain ⟨T4, h4, X4, e4, W4, st4⟩ := stC X3 hx hZ0 e3 Ar4 (j := (2 : Int32)) hin4 (g := (mkF m 34 #[.val (.int p1), .val (.int p2), .val (.int p3), .val (.int p4), .val (.ref b1), .unset, .unset, .unset] [(.int q2), (.int (2 : Int32)), (.ref b1)])) rfl rfl (hb hby at_34)
  have N4 := Fr.snoc X4 N3 g_b1
  have Zs4 : n0 ≤ h4.size := Nat.le_trans Zs3 (Keep.of_wr W4).1
  have hk4 := Nat.le_trans hk3 (Keep.of_wr W4).1
  have K4 := K3.wr W4 (Or.inr sz_b1)
  have V_b1_w4 : OwnA Z h4 b1 k1 .char [.int (nar .char q0), .int (nar .char q1), .int (nar .char q2)] := (V_b1_w3.set W4)
  refine own_by (S' := T4.setTop (mkF m 35 #[.val (.int p1), .val (.int p2), .val (.int p3), .val (.int p4), .val (.ref b1), .unset, .unset, .unset] [])) st4 ?_
  refine own_by (S' := T4.setTop (mkF m 36 #[.val (.int p1), .val (.int p2), .val (.int p3), .val (.int p4), .val (.ref b1), .unset, .unset, .unset] [(.int p1)])) (fun tZ kZ => XS.iloadN X4.here hx rfl (hb hby at_35) rfl kZ) ?_
  refine own_by (S' := T4.setTop (mkF m 37 #[.val (.int p1), .val (.int p2), .val (.int p3), .val (.int p4), .val (.ref b1), .unset, .unset, .unset] [(.int (3 : Int32)), (.int p1)])) (fun tZ kZ => XS.iconst X4.here hx rfl (hb hby at_36) kZ) ?_
  refine own_by (S' := T4.setTop (mkF m 38 #[.val (.int p1), .val (.int p2), .val (.int p3), .val (.int p4), .val (.ref b1), .unset, .unset, .unset] [(.int (p1 &&& (3 : Int32)))])) (fun tZ kZ => XS.iand X4.here hx rfl (hb hby at_37) rfl kZ) ?_
  obtain ⟨v38, hv38⟩ : ∃ z : Int32, z = (p1 &&& (3 : Int32)) := ⟨_, rfl⟩
  rw [← hv38]
  refine own_by (S' := T4.setTop (mkF m 40 #[.val (.int p1), .val (.int p2), .val (.int p3), .val (.int p4), .val (.ref b1), .unset, .val (.int v38), .unset] [])) (fun tZ kZ => XS.istore X4.here hx rfl (hb hby at_38) rfl (l' := #[.val (.int p1), .val (.int p2), .val (.int p3), .val (.int p4), .val (.ref b1), .unset, .val (.int v38), .unset]) rfl kZ) ?_
  refine own_by (S' := T4.setTop (mkF m 42 #[.val (.int p1), .val (.int p2), .val (.int p3), .val (.int p4), .val (.ref b1), .unset, .val (.int v38), .unset] [(.int v38)])) (fun tZ kZ => XS.iload X4.here hx rfl (hb hby at_40) rfl kZ) ?_
  by_cases hk0_ : v38 = (0 : Int32)
  · refine own_by (S' := T4.setTop (mkF m 45 #[.val (.int p1), .val (.int p2), .val (.int p3), .val (.int p4), .val (.ref b1), .unset, .val (.int v38), .unset] [])) (fun tZ kZ => XS.ifNo X4.here hx rfl (hb hby at_42) rfl ((if0 _ _).trans (teq hk0_).2) kZ) ?_
    refine own_by (S' := T4.setTop (mkF m 46 #[.val (.int p1), .val (.int p2), .val (.int p3), .val (.int p4), .val (.ref b1), .unset, .val (.int v38), .unset] [.null])) (fun tZ kZ => XS.aconstNull X4.here hx rfl (hb hby at_45) kZ) ?_
    refine own_by (S' := T4.setTop (mkF m 48 #[.val (.int p1), .val (.int p2), .val (.int p3), .val (.int p4), .val (.ref b1), .val .null, .val (.int v38), .unset] [])) (fun tZ kZ => XS.astore X4.here hx rfl (hb hby at_46) rfl rfl (l' := #[.val (.int p1), .val (.int p2), .val (.int p3), .val (.int p4), .val (.ref b1), .val .null, .val (.int v38), .unset]) rfl kZ) ?_
    refine own_by (S' := T4.setTop (mkF m 93 #[.val (.int p1), .val (.int p2), .val (.int p3), .val (.int p4), .val (.ref b1), .val .null, .val (.int v38), .unset] [])) (fun tZ kZ => XS.goto X4.here hx rfl (pc0 := 48) (pc' := 93) rfl (hb hby at_48) (by decide) (by decide) kZ) ?_
    refine own_by (S' := T4.setTop (mkF m 95 #[.val (.int p1), .val (.int p2), .val (.int p3), .val (.int p4), .val (.ref b1), .val .null, .val (.int v38), .unset] [.null])) (fun tZ kZ => XS.aload X4.here hx rfl (hb hby at_93) rfl rfl kZ) ?_
    have ExK4 := own_ext0 K4
    obtain ⟨_, _, ⟨T5, L5, k5, n5⟩, -, X5, ⟨Lc5, hQ5, l5, y5, z5⟩, st5⟩ := Jvm.LawKit.callS X4 hx (y := (⟨"com/example/idpd/idpd/RefusedMessageException", "expired", "(Ljava/lang/String;)Lcom/example/idpd/idpd/RefusedMessageException;"⟩ : MethodName)) hown0 (mvT hZ0 (hw _ (List.mem_of_getElem? (i := 1) rfl))) (mvT hZ0 (hw _ (List.mem_of_getElem? (i := 2) rfl))) (mvT hZ0 (hw _ (List.mem_of_getElem? (i := 3) rfl))) (mvT hZ0 (hw _ (List.mem_of_getElem? (i := 4) rfl))) (by decide) (backOfKL (W := 0) (rmX0 l Z a0 hw [] kx us se h4 n0 Zs4 (HT.ext ExK4) hl (S_us.ext ExK4) (S_se.ext ExK4) (S_k.ext ExK4)) hZ0 (hw _ (List.mem_of_getElem? (i := 4) rfl)) (hw _ (List.mem_of_getElem? (i := 3) rfl)) (by decide) (by decide) (Jvm.Vm.MethodsKnown.alikeC hS0.1.alike hTK) (Jvm.Vm.FramesKnown.alikeC hS0.1.alike hBelow)) (g := (mkF m 95 #[.val (.int p1), .val (.int p2), .val (.int p3), .val (.int p4), .val (.ref b1), .val .null, .val (.int v38), .unset] [.null])) rfl (by rw [hml]; rfl) (argsL := [.null]) (rest := []) (lenOf pd_9 rfl) rfl (by show 2 * 0 + _ ≤ _; exact Nat.le_of_eq rfl) (hb hby at_95) (fun _ _ => ⟨rfl, e4, (by decide : 1 + 2 ≤ _), (by decide : 3 + 2759 ≤ _)⟩)
    dsimp only [Pt.U, Pt.locs, Pt.cells, Pt.slots] at X5 l5 y5 z5 st5 hQ5
    subst l5 y5 z5
    obtain ⟨rx, rfl, N5q, Kc5, qe5, qf5⟩ := hQ5
    have N5 := Fr.app N4 N5q
    have Zs5 := Nat.le_trans Zs4 Kc5.1
    have hk5 := Nat.le_trans hk4 Kc5.1
    have Ec5 := own_ext0 Kc5
    have K5 := K4.ext Ec5
    have V_b1_5 := V_b1_w4.ext Ec5
    refine own_by (S' := T5.setTop (mkF m 98 #[.val (.int p1), .val (.int p2), .val (.int p3), .val (.int p4), .val (.ref b1), .val .null, .val (.int v38), .unset] [(.ref rx)])) (fun tZ kZ => st5 _ kZ) ?_
    refine own_by (S' := T5.setTop (mkF m 100 #[.val (.int p1), .val (.int p2), .val (.int p3), .val (.int p4), .val (.ref b1), .val .null, .val (.int v38), .val (.ref rx)] [])) (fun tZ kZ => XS.astore X5.here hx rfl (hb hby at_98) rfl rfl (l' := #[.val (.int p1), .val (.int p2), .val (.int p3), .val (.int p4), .val (.ref b1), .val .null, .val (.int v38), .val (.ref rx)]) rfl kZ) ?_
    refine own_by (S' := T5.setTop (mkF m 102 #[.val (.int p1), .val (.int p2), .val (.int p3), .val (.int p4), .val (.ref b1), .val .null, .val (.int v38), .val (.ref rx)] [(.ref rx)])) (fun tZ kZ => XS.aload X5.here hx rfl (hb hby at_100) rfl rfl kZ) ?_
    refine own_by (S' := T5.setTop (mkF m 107 #[.val (.int p1), .val (.int p2), .val (.int p3), .val (.int p4), .val (.ref b1), .val .null, .val (.int v38), .val (.ref rx)] [])) (fun tZ kZ => Jvm.Free.XT.ifnonnullYes X5.here hx rfl (pc0 := 102) (pc' := 107) rfl (hb hby at_102) rfl (by decide) (by decide) kZ) ?_
    refine own_by (S' := T5.setTop (mkF m 109 #[.val (.int p1), .val (.int p2), .val (.int p3), .val (.int p4), .val (.ref b1), .val .null, .val (.int v38), .val (.ref rx)] [(.ref rx)])) (fun tZ kZ => XS.aload X5.here hx rfl (hb hby at_107) rfl rfl kZ) ?_
    obtain ⟨cq6, kq6, q6a, q6b, q6c⟩ := isOf hZ0 rfl qe5
    obtain ⟨_, _, ⟨T6, L6, k6, n6⟩, -, X6, ⟨Lc6, hQ6, l6, y6, z6⟩, st6⟩ := X5.virtualBack hx (y := (⟨"com/example/idpd/idpd/RefusedMessageException", "kind", "()Lcom/example/idpd/idpd/RefusedMessageException$Kind;"⟩ : MethodName)) (z := (⟨"com/example/idpd/idpd/RefusedMessageException", "kind", "()Lcom/example/idpd/idpd/RefusedMessageException$Kind;"⟩ : MethodName)) hown0 (mvT hZ0 (hw _ (List.mem_of_getElem? (i := 65) rfl))) (mvT hZ0 (hw _ (List.mem_of_getElem? (i := 66) rfl))) (notFace_of_selects (args := #[]) (mvT hZ0 (hw _ (List.mem_of_getElem? (i := 68) rfl)))) (mvT hZ0 (hw _ (List.mem_of_getElem? (i := 68) rfl))) (mvT hZ0 (hw _ (List.mem_of_getElem? (i := 67) rfl))) (by decide) (backOf (W := 0) (rmKi l Z a0 hw [] rx kx T5.heap n0 Zs5 qf5) hZ0 (hw _ (List.mem_of_getElem? (i := 69) rfl)) (hw _ (List.mem_of_getElem? (i := 3) rfl)) (by decide) (by decide)) q6a q6c (g := (mkF m 109 #[.val (.int p1), .val (.int p2), .val (.int p3), .val (.int p4), .val (.ref b1), .val .null, .val (.int v38), .val (.ref rx)] [(.ref rx)])) rfl (by rw [hml]; rfl) (Steps.refl _) (argsL := []) (rest := []) (lenOf pd_10 rfl) rfl (by show 2 * 0 + _ ≤ _; exact Nat.le_of_eq rfl) (hb hby at_109) (fun _ _ => ⟨rfl, rfl, (by decide : 3 + 0 ≤ _), (by decide : 2762 + 0 ≤ _)⟩)
    dsimp only [Pt.U, Pt.locs, Pt.cells, Pt.slots] at X6 l6 y6 z6 st6 hQ6
    subst l6 y6 z6
    obtain ⟨rfl, N6q, heq6⟩ := hQ6
    have N6 := Fr.app N5 N6q
    refine own_by (S' := T6.setTop (mkF m 112 #[.val (.int p1), .val (.int p2), .val (.int p3), .val (.int p4), .val (.ref b1), .val .null, .val (.int v38), .val (.ref rx)] [(.ref kx)])) (fun tZ kZ => st6.trans kZ) ?_
    have ExK5 := own_ext0 K5
    obtain ⟨T7, X7, e7, st7⟩ := getS2 X6 hx hZ0 hown0 (host := "") (Or.inl (hw _ (List.mem_of_getElem? (i := 70) rfl))) Via.refl heq6 (S_k.ext ExK5) (g := (mkF m 112 #[.val (.int p1), .val (.int p2), .val (.int p3), .val (.int p4), .val (.ref b1), .val .null, .val (.int v38), .val (.ref rx)] [(.ref kx)])) rfl (hb hby at_112)
    refine own_by (S' := T7.setTop (mkF m 115 #[.val (.int p1), .val (.int p2), .val (.int p3), .val (.int p4), .val (.ref b1), .val .null, .val (.int v38), .val (.ref rx)] [(.ref kx), (.ref kx)])) st7 ?_
    refine own_by (S' := T7.setTop (mkF m 118 #[.val (.int p1), .val (.int p2), .val (.int p3), .val (.int p4), .val (.ref b1), .val .null, .val (.int v38), .val (.ref rx)] [])) (fun tZ kZ => Jvm.RoadKit.acmp (g := (mkF m 115 #[.val (.int p1), .val (.int p2), .val (.int p3), .val (.int p4), .val (.ref b1), .val .null, .val (.int v38), .val (.ref rx)] [(.ref kx), (.ref kx)])) X7 hx rfl rfl rfl (pc0 := 115) (pc' := 118) (same := true) rfl (hb hby at_115) rfl (decide_eq_true rfl) (by decide) (by decide) kZ) ?_
    refine own_by (S' := T7.setTop (mkF m 119 #[.val (.int p1), .val (.int p2), .val (.int p3), .val (.int p4), .val (.ref b1), .val .null, .val (.int v38), .val (.ref rx)] [(.int (1 : Int32))])) (fun tZ kZ => XS.iconst X7.here hx rfl (hb hby at_118) kZ) ?_
    refine own_by (S' := T7.setTop (mkF m 123 #[.val (.int p1), .val (.int p2), .val (.int p3), .val (.int p4), .val (.ref b1), .val .null, .val (.int v38), .val (.ref rx)] [(.int (1 : Int32))])) (fun tZ kZ => XS.goto X7.here hx rfl (pc0 := 119) (pc' := 123) rfl (hb hby at_119) (by decide) (by decide) kZ) ?_
    exact own_retWI X7 hS0 (by rw [e7]; exact hk5) hx (t := .boolean) Bd.returns (by simp) rfl (hb hby at_123) Bd.notSynchronized (by decide) (by decide) ⟨rfl, N6⟩
  · refine own_by (S' := T4.setTop (mkF m 51 #[.val (.int p1), .val (.int p2), .val (.int p3), .val (.int p4), .val (.ref b1), .unset, .val (.int v38), .unset] [])) (fun tZ kZ => XS.ifYes X4.here hx rfl (pc0 := 42) (pc' := 51) rfl (hb hby at_42) rfl ((if0 _ _).trans (feq hk0_).2) (by decide) (by decide) kZ) ?_
    refine own_by (S' := T4.setTop (mkF m 53 #[.val (.int p1), .val (.int p2), .val (.int p3), .val (.int p4), .val (.ref b1), .unset, .val (.int v38), .unset] [(.int v38)])) (fun tZ kZ => XS.iload X4.here hx rfl (hb hby at_51) rfl kZ) ?_
    refine own_by (S' := T4.setTop (mkF m 54 #[.val (.int p1), .val (.int p2), .val (.int p3), .val (.int p4), .val (.ref b1), .unset, .val (.int v38), .unset] [(.int (1 : Int32)), (.int v38)])) (fun tZ kZ => XS.iconst X4.here hx rfl (hb hby at_53) kZ) ?_
    by_cases hk1_ : v38 = (1 : Int32)
    · refine own_by (S' := T4.setTop (mkF m 57 #[.val (.int p1), .val (.int p2), .val (.int p3), .val (.int p4), .val (.ref b1), .unset, .val (.int v38), .unset] [])) (fun tZ kZ => XS.icmpNo X4.here hx rfl (hb hby at_54) rfl (teq hk1_).2 kZ) ?_
      obtain ⟨sy, T8, h8, k8, X8, e8, E8, hS8, hk8, hZ8, hown8, st8⟩ := ldcS X4 hx hZ0 hown0 (hw _ (List.mem_of_getElem? (i := 112) rfl)) (own_str hw) e4 hS0 hk4 (g := (mkF m 57 #[.val (.int p1), .val (.int p2), .val (.int p3), .val (.int p4), .val (.ref b1), .unset, .val (.int v38), .unset] [])) rfl (hb hby at_57) (n := 0) (by decide) (by decide) (by decide) (by decide)
      have V_b1_8 := V_b1_w4.ext E8
      have Zs8 : n0 ≤ h8.size := Nat.le_trans Zs4 E8.1
      have K8 := K4.ext E8
      refine own_by (S' := T8.setTop (mkF m 59 #[.val (.int p1), .val (.int p2), .val (.int p3), .val (.int p4), .val (.ref b1), .unset, .val (.int v38), .unset] [(.ref sy)])) st8 ?_
      refine own_by (S' := T8.setTop (mkF m 61 #[.val (.int p1), .val (.int p2), .val (.int p3), .val (.int p4), .val (.ref b1), .val (.ref sy), .val (.int v38), .unset] [])) (fun tZ kZ => XS.astore X8.here hx rfl (hb hby at_59) rfl rfl (l' := #[.val (.int p1), .val (.int p2), .val (.int p3), .val (.int p4), .val (.ref b1), .val (.ref sy), .val (.int v38), .unset]) rfl kZ) ?_
      refine own_by (S' := T8.setTop (mkF m 93 #[.val (.int p1), .val (.int p2), .val (.int p3), .val (.int p4), .val (.ref b1), .val (.ref sy), .val (.int v38), .unset] [])) (fun tZ kZ => XS.goto X8.here hx rfl (pc0 := 61) (pc' := 93) rfl (hb hby at_61) (by decide) (by decide) kZ) ?_
      refine own_by (S' := T8.setTop (mkF m 95 #[.val (.int p1), .val (.int p2), .val (.int p3), .val (.int p4), .val (.ref b1), .val (.ref sy), .val (.int v38), .unset] [(.ref sy)])) (fun tZ kZ => XS.aload X8.here hx rfl (hb hby at_93) rfl rfl kZ) ?_
      have ExK8 := own_ext0 K8
      obtain ⟨_, _, ⟨T9, L9, k9, n9⟩, -, X9, ⟨Lc9, hQ9, l9, y9, z9⟩, st9⟩ := Jvm.LawKit.callS X8 hx (y := (⟨"com/example/idpd/idpd/RefusedMessageException", "expired", "(Ljava/lang/String;)Lcom/example/idpd/idpd/RefusedMessageException;"⟩ : MethodName)) hown8 (mvT hZ8 (hw _ (List.mem_of_getElem? (i := 1) rfl))) (mvT hZ8 (hw _ (List.mem_of_getElem? (i := 2) rfl))) (mvT hZ8 (hw _ (List.mem_of_getElem? (i := 3) rfl))) (mvT hZ8 (hw _ (List.mem_of_getElem? (i := 4) rfl))) (by decide) (backOfKL (W := 0) (rmX1 l Z a0 hw [] kx us se sy h8 n0 Zs8 (HT.ext ExK8) hl (S_us.ext ExK8) (S_se.ext ExK8) (S_k.ext ExK8)) hZ8 (hw _ (List.mem_of_getElem? (i := 4) rfl)) (hw _ (List.mem_of_getElem? (i := 3) rfl)) (by decide) (by decide) (Jvm.Vm.MethodsKnown.alikeC hS8.1.alike hTK) (Jvm.Vm.FramesKnown.alikeC hS8.1.alike hBelow)) (g := (mkF m 95 #[.val (.int p1), .val (.int p2), .val (.int p3), .val (.int p4), .val (.ref b1), .val (.ref sy), .val (.int v38), .unset] [(.ref sy)])) rfl (by rw [hml]; rfl) (argsL := [(.ref sy)]) (rest := []) (lenOf pd_9 rfl) rfl (by show 2 * 0 + _ ≤ _; exact Nat.le_of_eq rfl) (hb hby at_95) (fun _ _ => ⟨rfl, e8, (by decide : 3 + 2 ≤ _), (by decide : 7 + 2759 ≤ _)⟩)
      dsimp only [Pt.U, Pt.locs, Pt.cells, Pt.slots] at X9 l9 y9 z9 st9 hQ9
      subst l9 y9 z9
      obtain ⟨rx, rfl, N9q, Kc9, qe9, qf9⟩ := hQ9
      have N9 := Fr.app N4 N9q
      have Zs9 := Nat.le_trans Zs8 Kc9.1
      have hk9 := Nat.le_trans hk8 Kc9.1
      have Ec9 := own_ext0 Kc9
      have K9 := K8.ext Ec9
      have V_b1_9 := V_b1_8.ext Ec9
      refine own_by (S' := T9.setTop (mkF m 98 #[.val (.int p1), .val (.int p2), .val (.int p3), .val (.int p4), .val (.ref b1), .val (.ref sy), .val (.int v38), .unset] [(.ref rx)])) (fun tZ kZ => st9 _ kZ) ?_
      refine own_by (S' := T9.setTop (mkF m 100 #[.val (.int p1), .val (.int p2), .val (.int p3), .val (.int p4), .val (.ref b1), .val (.ref sy), .val (.int v38), .val (.ref rx)] [])) (fun tZ kZ => XS.astore X9.here hx rfl (hb hby at_98) rfl rfl (l' := #[.val (.int p1), .val (.int p2), .val (.int p3), .val (.int p4), .val (.ref b1), .val (.ref sy), .val (.int v38), .val (.ref rx)]) rfl kZ) ?_
      refine own_by (S' := T9.setTop (mkF m 102 #[.val (.int p1), .val (.int p2), .val (.int p3), .val (.int p4), .val (.ref b1), .val (.ref sy), .val (.int v38), .val (.ref rx)] [(.ref rx)])) (fun tZ kZ => XS.aload X9.here hx rfl (hb hby at_100) rfl rfl kZ) ?_
      refine own_by (S' := T9.setTop (mkF m 107 #[.val (.int p1), .val (.int p2), .val (.int p3), .val (.int p4), .val (.ref b1), .val (.ref sy), .val (.int v38), .val (.ref rx)] [])) (fun tZ kZ => Jvm.Free.XT.ifnonnullYes X9.here hx rfl (pc0 := 102) (pc' := 107) rfl (hb hby at_102) rfl (by decide) (by decide) kZ) ?_
      refine own_by (S' := T9.setTop (mkF m 109 #[.val (.int p1), .val (.int p2), .val (.int p3), .val (.int p4), .val (.ref b1), .val (.ref sy), .val (.int v38), .val (.ref rx)] [(.ref rx)])) (fun tZ kZ => XS.aload X9.here hx rfl (hb hby at_107) rfl rfl kZ) ?_
      obtain ⟨cq10, kq10, q10a, q10b, q10c⟩ := isOf hZ8 rfl qe9
      obtain ⟨_, _, ⟨T10, L10, k10, n10⟩, -, X10, ⟨Lc10, hQ10, l10, y10, z10⟩, st10⟩ := X9.virtualBack hx (y := (⟨"com/example/idpd/idpd/RefusedMessageException", "kind", "()Lcom/example/idpd/idpd/RefusedMessageException$Kind;"⟩ : MethodName)) (z := (⟨"com/example/idpd/idpd/RefusedMessageException", "kind", "()Lcom/example/idpd/idpd/RefusedMessageException$Kind;"⟩ : MethodName)) hown8 (mvT hZ8 (hw _ (List.mem_of_getElem? (i := 65) rfl))) (mvT hZ8 (hw _ (List.mem_of_getElem? (i := 66) rfl))) (notFace_of_selects (args := #[]) (mvT hZ8 (hw _ (List.mem_of_getElem? (i := 68) rfl)))) (mvT hZ8 (hw _ (List.mem_of_getElem? (i := 68) rfl))) (mvT hZ8 (hw _ (List.mem_of_getElem? (i := 67) rfl))) (by decide) (backOf (W := 0) (rmKi l Z a0 hw [] rx kx T9.heap n0 Zs9 qf9) hZ8 (hw _ (List.mem_of_getElem? (i := 69) rfl)) (hw _ (List.mem_of_getElem? (i := 3) rfl)) (by decide) (by decide)) q10a q10c (g := (mkF m 109 #[.val (.int p1), .val (.int p2), .val (.int p3), .val (.int p4), .val (.ref b1), .val (.ref sy), .val (.int v38), .val (.ref rx)] [(.ref rx)])) rfl (by rw [hml]; rfl) (Steps.refl _) (argsL := []) (rest := []) (lenOf pd_10 rfl) rfl (by show 2 * 0 + _ ≤ _; exact Nat.le_of_eq rfl) (hb hby at_109) (fun _ _ => ⟨rfl, rfl, (by decide : 5 + 0 ≤ _), (by decide : 2766 + 0 ≤ _)⟩)
      dsimp only [Pt.U, Pt.locs, Pt.cells, Pt.slots] at X10 l10 y10 z10 st10 hQ10
      subst l10 y10 z10
      obtain ⟨rfl, N10q, heq10⟩ := hQ10
      have N10 := Fr.app N9 N10q
      refine own_by (S' := T10.setTop (mkF m 112 #[.val (.int p1), .val (.int p2), .val (.int p3), .val (.int p4), .val (.ref b1), .val (.ref sy), .val (.int v38), .val (.ref rx)] [(.ref kx)])) (fun tZ kZ => st10.trans kZ) ?_
      have ExK9 := own_ext0 K9
      obtain ⟨T11, X11, e11, st11⟩ := getS2 X10 hx hZ8 hown8 (host := "") (Or.inl (hw _ (List.mem_of_getElem? (i := 70) rfl))) Via.refl heq10 (S_k.ext ExK9) (g := (mkF m 112 #[.val (.int p1), .val (.int p2), .val (.int p3), .val (.int p4), .val (.ref b1), .val (.ref sy), .val (.int v38), .val (.ref rx)] [(.ref kx)])) rfl (hb hby at_112)
      refine own_by (S' := T11.setTop (mkF m 115 #[.val (.int p1), .val (.int p2), .val (.int p3), .val (.int p4), .val (.ref b1), .val (.ref sy), .val (.int v38), .val (.ref rx)] [(.ref kx), (.ref kx)])) st11 ?_
      refine own_by (S' := T11.setTop (mkF m 118 #[.val (.int p1), .val (.int p2), .val (.int p3), .val (.int p4), .val (.ref b1), .val (.ref sy), .val (.int v38), .val (.ref rx)] [])) (fun tZ kZ => Jvm.RoadKit.acmp (g := (mkF m 115 #[.val (.int p1), .val (.int p2), .val (.int p3), .val (.int p4), .val (.ref b1), .val (.ref sy), .val (.int v38), .val (.ref rx)] [(.ref kx), (.ref kx)])) X11 hx rfl rfl rfl (pc0 := 115) (pc' := 118) (same := true) rfl (hb hby at_115) rfl (decide_eq_true rfl) (by decide) (by decide) kZ) ?_
      refine own_by (S' := T11.setTop (mkF m 119 #[.val (.int p1), .val (.int p2), .val (.int p3), .val (.int p4), .val (.ref b1), .val (.ref sy), .val (.int v38), .val (.ref rx)] [(.int (1 : Int32))])) (fun tZ kZ => XS.iconst X11.here hx rfl (hb hby at_118) kZ) ?_
      refine own_by (S' := T11.setTop (mkF m 123 #[.val (.int p1), .val (.int p2), .val (.int p3), .val (.int p4), .val (.ref b1), .val (.ref sy), .val (.int v38), .val (.ref rx)] [(.int (1 : Int32))])) (fun tZ kZ => XS.goto X11.here hx rfl (pc0 := 119) (pc' := 123) rfl (hb hby at_119) (by decide) (by decide) kZ) ?_
      exact own_retWI X11 hS8 (by rw [e11]; exact hk9) hx (t := .boolean) Bd.returns (by simp) rfl (hb hby at_123) Bd.notSynchronized (by decide) (by decide) ⟨rfl, N10⟩
    · refine own_by (S' := T4.setTop (mkF m 64 #[.val (.int p1), .val (.int p2), .val (.int p3), .val (.int p4), .val (.ref b1), .unset, .val (.int v38), .unset] [])) (fun tZ kZ => XS.icmpYes X4.here hx rfl (pc0 := 54) (pc' := 64) rfl (hb hby at_54) rfl (feq hk1_).2 (by decide) (by decide) kZ) ?_
      refine own_by (S' := T4.setTop (mkF m 66 #[.val (.int p1), .val (.int p2), .val (.int p3), .val (.int p4), .val (.ref b1), .unset, .val (.int v38), .unset] [(.int v38)])) (fun tZ kZ => XS.iload X4.here hx rfl (hb hby at_64) rfl kZ) ?_
      refine own_by (S' := T4.setTop (mkF m 67 #[.val (.int p1), .val (.int p2), .val (.int p3), .val (.int p4), .val (.ref b1), .unset, .val (.int v38), .unset] [(.int (2 : Int32)), (.int v38)])) (fun tZ kZ => XS.iconst X4.here hx rfl (hb hby at_66) kZ) ?_
      by_cases hk2_ : v38 = (2 : Int32)
      · refine own_by (S' := T4.setTop (mkF m 70 #[.val (.int p1), .val (.int p2), .val (.int p3), .val (.int p4), .val (.ref b1), .unset, .val (.int v38), .unset] [])) (fun tZ kZ => XS.icmpNo X4.here hx rfl (hb hby at_67) rfl (teq hk2_).2 kZ) ?_
        refine own_by (S' := T4.setTop (mkF m 72 #[.val (.int p1), .val (.int p2), .val (.int p3), .val (.int p4), .val (.ref b1), .unset, .val (.int v38), .unset] [(.ref b1)])) (fun tZ kZ => XS.aload X4.here hx rfl (hb hby at_70) rfl rfl kZ) ?_
        refine own_by (S' := T4.setTop (mkF m 73 #[.val (.int p1), .val (.int p2), .val (.int p3), .val (.int p4), .val (.ref b1), .unset, .val (.int v38), .unset] [(.int (0 : Int32)), (.ref b1)])) (fun tZ kZ => XS.iconst X4.here hx rfl (hb hby at_72) kZ) ?_
        obtain ⟨cc12, Ar12, hc12, hl12⟩ := id V_b1_w4
        refine own_by (S' := T4.setTop (mkF m 74 #[.val (.int p1), .val (.int p2), .val (.int p3), .val (.int p4), .val (.ref b1), .unset, .val (.int v38), .unset] [(.int (nar .char q0))])) (fun tZ kZ => X4.caload hx (j := (0 : Int32)) (v := (.int (nar .char q0))) (by rw [e4]; exact Ar12.1) (State.isArrayOf_alike hZ0.alike Ar12.2.1) Ar12.2.2 (OwnA.inb (j := (0 : Int32)) hl12 (by decide) (Nat.le_of_ble_eq_true rfl)) (OwnA.at (j := (0 : Int32)) hl12 rfl) (g := (mkF m 73 #[.val (.int p1), .val (.int p2), .val (.int p3), .val (.int p4), .val (.ref b1), .unset, .val (.int v38), .unset] [(.int (0 : Int32)), (.ref b1)])) rfl rfl (hb hby at_73) _ kZ) ?_
        have ExK4 := own_ext0 K4
        obtain ⟨_, _, ⟨T13, L13, k13, n13⟩, -, X13, ⟨Lc13, hQ13, l13, y13, z13⟩, st13⟩ := Jvm.LawKit.callS X4 hx (y := (⟨"java/lang/String", "valueOf", "(C)Ljava/lang/String;"⟩ : MethodName)) hown0 (mvT hZ0 (hw _ (List.mem_of_getElem? (i := 98) rfl))) (mvT hZ0 (hw _ (List.mem_of_getElem? (i := 99) rfl))) (mvT hZ0 (hw _ (List.mem_of_getElem? (i := 73) rfl))) (mvT hZ0 (hw _ (List.mem_of_getElem? (i := 100) rfl))) (by decide) (backOf (W := 0) (rmVo l Z a0 hw [] (nar .char q0) cz h4 n0 Zs4 (Sc.ext ExK4) hcz hn0) hZ0 (hw _ (List.mem_of_getElem? (i := 100) rfl)) (hw _ (List.mem_of_getElem? (i := 73) rfl)) (by decide) (by decide)) (g := (mkF m 74 #[.val (.int p1), .val (.int p2), .val (.int p3), .val (.int p4), .val (.ref b1), .unset, .val (.int v38), .unset] [(.int (nar .char q0))])) rfl (by rw [hml]; rfl) (argsL := [(.int (nar .char q0))]) (rest := []) (lenOf pd_11 rfl) rfl (by show 2 * 0 + _ ≤ _; exact Nat.le_of_eq rfl) (hb hby at_74) (fun _ _ => ⟨rfl, e4, (by decide : 1 + 2 ≤ _), (by decide : 3 + 5 ≤ _)⟩)
        dsimp only [Pt.U, Pt.locs, Pt.cells, Pt.slots] at X13 l13 y13 z13 st13 hQ13
        subst l13 y13 z13
        obtain ⟨sy, rfl, N13q, Kc13⟩ := hQ13
        have N13 := Fr.app N4 N13q
        have Zs13 := Nat.le_trans Zs4 Kc13.1
        have hk13 := Nat.le_trans hk4 Kc13.1
        have Ec13 := own_ext0 Kc13
        have K13 := K4.ext Ec13
        have V_b1_13 := V_b1_w4.ext Ec13
        refine own_by (S' := T13.setTop (mkF m 77 #[.val (.int p1), .val (.int p2), .val (.int p3), .val (.int p4), .val (.ref b1), .unset, .val (.int v38), .unset] [(.ref sy)])) (fun tZ kZ => st13 _ kZ) ?_
        refine own_by (S' := T13.setTop (mkF m 79 #[.val (.int p1), .val (.int p2), .val (.int p3), .val (.int p4), .val (.ref b1), .val (.ref sy), .val (.int v38), .unset] [])) (fun tZ kZ => XS.astore X13.here hx rfl (hb hby at_77) rfl rfl (l' := #[.val (.int p1), .val (.int p2), .val (.int p3), .val (.int p4), .val (.ref b1), .val (.ref sy), .val (.int v38), .unset]) rfl kZ) ?_
        refine own_by (S' := T13.setTop (mkF m 93 #[.val (.int p1), .val (.int p2), .val (.int p3), .val (.int p4), .val (.ref b1), .val (.ref sy), .val (.int v38), .unset] [])) (fun tZ kZ => XS.goto X13.here hx rfl (pc0 := 79) (pc' := 93) rfl (hb hby at_79) (by decide) (by decide) kZ) ?_
        refine own_by (S' := T13.setTop (mkF m 95 #[.val (.int p1), .val (.int p2), .val (.int p3), .val (.int p4), .val (.ref b1), .val (.ref sy), .val (.int v38), .unset] [(.ref sy)])) (fun tZ kZ => XS.aload X13.here hx rfl (hb hby at_93) rfl rfl kZ) ?_
        have ExK13 := own_ext0 K13
        obtain ⟨_, _, ⟨T14, L14, k14, n14⟩, -, X14, ⟨Lc14, hQ14, l14, y14, z14⟩, st14⟩ := Jvm.LawKit.callS X13 hx (y := (⟨"com/example/idpd/idpd/RefusedMessageException", "expired", "(Ljava/lang/String;)Lcom/example/idpd/idpd/RefusedMessageException;"⟩ : MethodName)) hown0 (mvT hZ0 (hw _ (List.mem_of_getElem? (i := 1) rfl))) (mvT hZ0 (hw _ (List.mem_of_getElem? (i := 2) rfl))) (mvT hZ0 (hw _ (List.mem_of_getElem? (i := 3) rfl))) (mvT hZ0 (hw _ (List.mem_of_getElem? (i := 4) rfl))) (by decide) (backOfKL (W := 0) (rmX1 l Z a0 hw [] kx us se sy T13.heap n0 Zs13 (HT.ext ExK13) hl (S_us.ext ExK13) (S_se.ext ExK13) (S_k.ext ExK13)) hZ0 (hw _ (List.mem_of_getElem? (i := 4) rfl)) (hw _ (List.mem_of_getElem? (i := 3) rfl)) (by decide) (by decide) (Jvm.Vm.MethodsKnown.alikeC hS0.1.alike hTK) (Jvm.Vm.FramesKnown.alikeC hS0.1.alike hBelow)) (g := (mkF m 95 #[.val (.int p1), .val (.int p2), .val (.int p3), .val (.int p4), .val (.ref b1), .val (.ref sy), .val (.int v38), .unset] [(.ref sy)])) rfl (by rw [hml]; rfl) (argsL := [(.ref sy)]) (rest := []) (lenOf pd_9 rfl) rfl (by show 2 * 0 + _ ≤ _; exact Nat.le_of_eq rfl) (hb hby at_95) (fun _ _ => ⟨rfl, rfl, (by decide : 3 + 2 ≤ _), (by decide : 8 + 2759 ≤ _)⟩)
        dsimp only [Pt.U, Pt.locs, Pt.cells, Pt.slots] at X14 l14 y14 z14 st14 hQ14
        subst l14 y14 z14
        obtain ⟨rx, rfl, N14q, Kc14, qe14, qf14⟩ := hQ14
        have N14 := Fr.app N13 N14q
        have Zs14 := Nat.le_trans Zs13 Kc14.1
        have hk14 := Nat.le_trans hk13 Kc14.1
        have Ec14 := own_ext0 Kc14
        have K14 := K13.ext Ec14
        have V_b1_14 := V_b1_13.ext Ec14
        refine own_by (S' := T14.setTop (mkF m 98 #[.val (.int p1), .val (.int p2), .val (.int p3), .val (.int p4), .val (.ref b1), .val (.ref sy), .val (.int v38), .unset] [(.ref rx)])) (fun tZ kZ => st14 _ kZ) ?_
        refine own_by (S' := T14.setTop (mkF m 100 #[.val (.int p1), .val (.int p2), .val (.int p3), .val (.int p4), .val (.ref b1), .val (.ref sy), .val (.int v38), .val (.ref rx)] [])) (fun tZ kZ => XS.astore X14.here hx rfl (hb hby at_98) rfl rfl (l' := #[.val (.int p1), .val (.int p2), .val (.int p3), .val (.int p4), .val (.ref b1), .val (.ref sy), .val (.int v38), .val (.ref rx)]) rfl kZ) ?_
        refine own_by (S' := T14.setTop (mkF m 102 #[.val (.int p1), .val (.int p2), .val (.int p3), .val (.int p4), .val (.ref b1), .val (.ref sy), .val (.int v38), .val (.ref rx)] [(.ref rx)])) (fun tZ kZ => XS.aload X14.here hx rfl (hb hby at_100) rfl rfl kZ) ?_
        refine own_by (S' := T14.setTop (mkF m 107 #[.val (.int p1), .val (.int p2), .val (.int p3), .val (.int p4), .val (.ref b1), .val (.ref sy), .val (.int v38), .val (.ref rx)] [])) (fun tZ kZ => Jvm.Free.XT.ifnonnullYes X14.here hx rfl (pc0 := 102) (pc' := 107) rfl (hb hby at_102) rfl (by decide) (by decide) kZ) ?_
        refine own_by (S' := T14.setTop (mkF m 109 #[.val (.int p1), .val (.int p2), .val (.int p3), .val (.int p4), .val (.ref b1), .val (.ref sy), .val (.int v38), .val (.ref rx)] [(.ref rx)])) (fun tZ kZ => XS.aload X14.here hx rfl (hb hby at_107) rfl rfl kZ) ?_
        obtain ⟨cq15, kq15, q15a, q15b, q15c⟩ := isOf hZ0 rfl qe14
        obtain ⟨_, _, ⟨T15, L15, k15, n15⟩, -, X15, ⟨Lc15, hQ15, l15, y15, z15⟩, st15⟩ := X14.virtualBack hx (y := (⟨"com/example/idpd/idpd/RefusedMessageException", "kind", "()Lcom/example/idpd/idpd/RefusedMessageException$Kind;"⟩ : MethodName)) (z := (⟨"com/example/idpd/idpd/RefusedMessageException", "kind", "()Lcom/example/idpd/idpd/RefusedMessageException$Kind;"⟩ : MethodName)) hown0 (mvT hZ0 (hw _ (List.mem_of_getElem? (i := 65) rfl))) (mvT hZ0 (hw _ (List.mem_of_getElem? (i := 66) rfl))) (notFace_of_selects (args := #[]) (mvT hZ0 (hw _ (List.mem_of_getElem? (i := 68) rfl)))) (mvT hZ0 (hw _ (List.mem_of_getElem? (i := 68) rfl))) (mvT hZ0 (hw _ (List.mem_of_getElem? (i := 67) rfl))) (by decide) (backOf (W := 0) (rmKi l Z a0 hw [] rx kx T14.heap n0 Zs14 qf14) hZ0 (hw _ (List.mem_of_getElem? (i := 69) rfl)) (hw _ (List.mem_of_getElem? (i := 3) rfl)) (by decide) (by decide)) q15a q15c (g := (mkF m 109 #[.val (.int p1), .val (.int p2), .val (.int p3), .val (.int p4), .val (.ref b1), .val (.ref sy), .val (.int v38), .val (.ref rx)] [(.ref rx)])) rfl (by rw [hml]; rfl) (Steps.refl _) (argsL := []) (rest := []) (lenOf pd_10 rfl) rfl (by show 2 * 0 + _ ≤ _; exact Nat.le_of_eq rfl) (hb hby at_109) (fun _ _ => ⟨rfl, rfl, (by decide : 5 + 0 ≤ _), (by decide : 2767 + 0 ≤ _)⟩)
        dsimp only [Pt.U, Pt.locs, Pt.cells, Pt.slots] at X15 l15 y15 z15 st15 hQ15
        subst l15 y15 z15
        obtain ⟨rfl, N15q, heq15⟩ := hQ15
        have N15 := Fr.app N14 N15q
        refine own_by (S' := T15.setTop (mkF m 112 #[.val (.int p1), .val (.int p2), .val (.int p3), .val (.int p4), .val (.ref b1), .val (.ref sy), .val (.int v38), .val (.ref rx)] [(.ref kx)])) (fun tZ kZ => st15.trans kZ) ?_
        have ExK14 := own_ext0 K14
        obtain ⟨T16, X16, e16, st16⟩ := getS2 X15 hx hZ0 hown0 (host := "") (Or.inl (hw _ (List.mem_of_getElem? (i := 70) rfl))) Via.refl heq15 (S_k.ext ExK14) (g := (mkF m 112 #[.val (.int p1), .val (.int p2), .val (.int p3), .val (.int p4), .val (.ref b1), .val (.ref sy), .val (.int v38), .val (.ref rx)] [(.ref kx)])) rfl (hb hby at_112)
        refine own_by (S' := T16.setTop (mkF m 115 #[.val (.int p1), .val (.int p2), .val (.int p3), .val (.int p4), .val (.ref b1), .val (.ref sy), .val (.int v38), .val (.ref rx)] [(.ref kx), (.ref kx)])) st16 ?_
        refine own_by (S' := T16.setTop (mkF m 118 #[.val (.int p1), .val (.int p2), .val (.int p3), .val (.int p4), .val (.ref b1), .val (.ref sy), .val (.int v38), .val (.ref rx)] [])) (fun tZ kZ => Jvm.RoadKit.acmp (g := (mkF m 115 #[.val (.int p1), .val (.int p2), .val (.int p3), .val (.int p4), .val (.ref b1), .val (.ref sy), .val (.int v38), .val (.ref rx)] [(.ref kx), (.ref kx)])) X16 hx rfl rfl rfl (pc0 := 115) (pc' := 118) (same := true) rfl (hb hby at_115) rfl (decide_eq_true rfl) (by decide) (by decide) kZ) ?_
        refine own_by (S' := T16.setTop (mkF m 119 #[.val (.int p1), .val (.int p2), .val (.int p3), .val (.int p4), .val (.ref b1), .val (.ref sy), .val (.int v38), .val (.ref rx)] [(.int (1 : Int32))])) (fun tZ kZ => XS.iconst X16.here hx rfl (hb hby at_118) kZ) ?_
        refine own_by (S' := T16.setTop (mkF m 123 #[.val (.int p1), .val (.int p2), .val (.int p3), .val (.int p4), .val (.ref b1), .val (.ref sy), .val (.int v38), .val (.ref rx)] [(.int (1 : Int32))])) (fun tZ kZ => XS.goto X16.here hx rfl (pc0 := 119) (pc' := 123) rfl (hb hby at_119) (by decide) (by decide) kZ) ?_
        exact own_retWI X16 hS0 (by rw [e16]; exact hk14) hx (t := .boolean) Bd.returns (by simp) rfl (hb hby at_123) Bd.notSynchronized (by decide) (by decide) ⟨rfl, N15⟩
      · refine own_by (S' := T4.setTop (mkF m 82 #[.val (.int p1), .val (.int p2), .val (.int p3), .val (.int p4), .val (.ref b1), .unset, .val (.int v38), .unset] [])) (fun tZ kZ => XS.icmpYes X4.here hx rfl (pc0 := 67) (pc' := 82) rfl (hb hby at_67) rfl (feq hk2_).2 (by decide) (by decide) kZ) ?_
        obtain ⟨T17, h17, X17, e17, E17, A17, D17, U17, st17⟩ := newO X4 hx hZ0 hown0 (hw _ (List.mem_of_getElem? (i := 71) rfl)) (hw _ (List.mem_of_getElem? (i := 72) rfl)) (hw _ (List.mem_of_getElem? (i := 73) rfl)) e4 (g := (mkF m 82 #[.val (.int p1), .val (.int p2), .val (.int p3), .val (.int p4), .val (.ref b1), .unset, .val (.int v38), .unset] [])) rfl (hb hby at_82) (by decide) (by decide)
        obtain ⟨b17, g17⟩ : ∃ z, z = h4.size := ⟨_, rfl⟩
        rw [← g17] at A17 D17 U17 st17
        have ne_b1_b17 : b1 ≠ b17 := Nat.ne_of_lt (Nat.lt_of_lt_of_le V_b1_w4.lt (Nat.le_of_eq g17.symm))
        have g_b17 : n0 ≤ b17 := Nat.le_trans Zs4 (Nat.le_of_eq g17.symm)
        have sz_b17 : h0.size ≤ b17 := Nat.le_trans K4.1 (Nat.le_of_eq g17.symm)
        have V_b1_17 := V_b1_w4.ext E17
        have Zs17 : n0 ≤ h17.size := Nat.le_trans Zs4 E17.1
        have hk17 := Nat.le_trans hk4 E17.1
        have K17 := K4.ext E17
        have Ex_b17 := A17
        have F_coder_b17 : Fld Z h17 b17 "java/lang/String" "coder" "B" (.int (0 : Int32)) := D17 (Or.inr (hw _ (List.mem_of_getElem? (i := 95) rfl))) (ty := .byte) (by decide)
        have F_value_b17 : Fld Z h17 b17 "java/lang/String" "value" "[B" .null := D17 (Or.inr (hw _ (List.mem_of_getElem? (i := 97) rfl))) (ty := (.array .byte)) (by decide)
        refine own_by (S' := T17.setTop (mkF m 85 #[.val (.int p1), .val (.int p2), .val (.int p3), .val (.int p4), .val (.ref b1), .unset, .val (.int v38), .unset] [(.ref b17)])) st17 ?_
        refine own_by (S' := T17.setTop (mkF m 86 #[.val (.int p1), .val (.int p2), .val (.int p3), .val (.int p4), .val (.ref b1), .unset, .val (.int v38), .unset] [(.ref b17), (.ref b17)])) (fun tZ kZ => XS.dup X17.here hx rfl (hb hby at_85) rfl rfl kZ) ?_
        refine own_by (S' := T17.setTop (mkF m 88 #[.val (.int p1), .val (.int p2), .val (.int p3), .val (.int p4), .val (.ref b1), .unset, .val (.int v38), .unset] [(.ref b1), (.ref b17), (.ref b17)])) (fun tZ kZ => XS.aload X17.here hx rfl (hb hby at_86) rfl rfl kZ) ?_
        have ExK17 := own_ext0 K17
        obtain ⟨_, _, ⟨T18, L18, k18, n18⟩, -, X18, ⟨Lc18, hQ18, l18, y18, z18⟩, st18⟩ := X17.specialBack hx (y := (⟨"java/lang/String", "<init>", "([C)V"⟩ : MethodName)) rfl hown0 (mvT hZ0 (hw _ (List.mem_of_getElem? (i := 74) rfl))) (mvT hZ0 (hw _ (List.mem_of_getElem? (i := 75) rfl))) (mvT hZ0 (hw _ (List.mem_of_getElem? (i := 76) rfl))) (by decide) (backOf (W := 1) (rmS1 l Z a0 hw [] b17 b1 k1 (nar .char q0) (nar .char q1) (nar .char q2) cz h17 n0 Zs17 V_b1_17 hn0 hn1 hn2 (Sc.ext ExK17) hcz Ex_b17 F_value_b17 F_coder_b17 g_b17 ne_b1_b17) hZ0 (hw _ (List.mem_of_getElem? (i := 76) rfl)) (hw _ (List.mem_of_getElem? (i := 73) rfl)) (by decide) (by decide)) (g := (mkF m 88 #[.val (.int p1), .val (.int p2), .val (.int p3), .val (.int p4), .val (.ref b1), .unset, .val (.int v38), .unset] [(.ref b1), (.ref b17), (.ref b17)])) rfl (by rw [hml]; rfl) (Steps.refl _) (a := b17) (argsL := [(.ref b1)]) (rest := [(.ref b17)]) (lenOf pd_12 rfl) rfl (by show 2 * 0 + _ ≤ _; exact Nat.le_of_eq rfl) (hb hby at_88) (fun _ _ => ⟨rfl, e17, (by decide : 2 + 1 ≤ _), (by decide : 7 + 3 ≤ _)⟩)
        dsimp only [Pt.U, Pt.locs, Pt.cells, Pt.slots] at X18 l18 y18 z18 st18 hQ18
        subst l18 y18 z18
        obtain ⟨rfl, N18q, Kc18⟩ := hQ18
        have N18 := Fr.app N4 N18q
        have Zs18 := Nat.le_trans Zs17 Kc18.1
        have hk18 := Nat.le_trans hk17 Kc18.1
        have K18 := K17.trans Kc18 (fun x hx => by
            simp only [List.mem_cons, List.not_mem_nil, or_false] at hx
            rcases hx with rfl
            · exact Or.inr sz_b17)
        have V_b1_18 := V_b1_17.keep Kc18 (by
            simp only [List.mem_cons, List.not_mem_nil, or_false, not_or]
            exact ne_b1_b17)
        have Ex_b17_18 := Ex_b17.keep Kc18
        refine own_by (S' := T18.setTop (mkF m 91 #[.val (.int p1), .val (.int p2), .val (.int p3), .val (.int p4), .val (.ref b1), .unset, .val (.int v38), .unset] [(.ref b17)])) (fun tZ kZ => st18.trans kZ) ?_
        refine own_by (S' := T18.setTop (mkF m 93 #[.val (.int p1), .val (.int p2), .val (.int p3), .val (.int p4), .val (.ref b1), .val (.ref b17), .val (.int v38), .unset] [])) (fun tZ kZ => XS.astore X18.here hx rfl (hb hby at_91) rfl rfl (l' := #[.val (.int p1), .val (.int p2), .val (.int p3), .val (.int p4), .val (.ref b1), .val (.ref b17), .val (.int v38), .unset]) rfl kZ) ?_
        refine own_by (S' := T18.setTop (mkF m 95 #[.val (.int p1), .val (.int p2), .val (.int p3), .val (.int p4), .val (.ref b1), .val (.ref b17), .val (.int v38), .unset] [(.ref b17)])) (fun tZ kZ => XS.aload X18.here hx rfl (hb hby at_93) rfl rfl kZ) ?_
        have ExK18 := own_ext0 K18
        obtain ⟨_, _, ⟨T19, L19, k19, n19⟩, -, X19, ⟨Lc19, hQ19, l19, y19, z19⟩, st19⟩ := Jvm.LawKit.callS X18 hx (y := (⟨"com/example/idpd/idpd/RefusedMessageException", "expired", "(Ljava/lang/String;)Lcom/example/idpd/idpd/RefusedMessageException;"⟩ : MethodName)) hown0 (mvT hZ0 (hw _ (List.mem_of_getElem? (i := 1) rfl))) (mvT hZ0 (hw _ (List.mem_of_getElem? (i := 2) rfl))) (mvT hZ0 (hw _ (List.mem_of_getElem? (i := 3) rfl))) (mvT hZ0 (hw _ (List.mem_of_getElem? (i := 4) rfl))) (by decide) (backOfKL (W := 0) (rmX1 l Z a0 hw [] kx us se b17 T18.heap n0 Zs18 (HT.ext ExK18) hl (S_us.ext ExK18) (S_se.ext ExK18) (S_k.ext ExK18)) hZ0 (hw _ (List.mem_of_getElem? (i := 4) rfl)) (hw _ (List.mem_of_getElem? (i := 3) rfl)) (by decide) (by decide) (Jvm.Vm.MethodsKnown.alikeC hS0.1.alike hTK) (Jvm.Vm.FramesKnown.alikeC hS0.1.alike hBelow)) (g := (mkF m 95 #[.val (.int p1), .val (.int p2), .val (.int p3), .val (.int p4), .val (.ref b1), .val (.ref b17), .val (.int v38), .unset] [(.ref b17)])) rfl (by rw [hml]; rfl) (argsL := [(.ref b17)]) (rest := []) (lenOf pd_9 rfl) rfl (by show 2 * 0 + _ ≤ _; exact Nat.le_of_eq rfl) (hb hby at_95) (fun _ _ => ⟨rfl, rfl, (by decide : 3 + 2 ≤ _), (by decide : 10 + 2759 ≤ _)⟩)
        dsimp only [Pt.U, Pt.locs, Pt.cells, Pt.slots] at X19 l19 y19 z19 st19 hQ19
        subst l19 y19 z19
        obtain ⟨rx, rfl, N19q, Kc19, qe19, qf19⟩ := hQ19
        have N19 := Fr.app N18 N19q
        have Zs19 := Nat.le_trans Zs18 Kc19.1
        have hk19 := Nat.le_trans hk18 Kc19.1
        have Ec19 := own_ext0 Kc19
        have K19 := K18.ext Ec19
        have V_b1_19 := V_b1_18.ext Ec19
        have Ex_b17_19 := Ex_b17_18.ext Ec19
        refine own_by (S' := T19.setTop (mkF m 98 #[.val (.int p1), .val (.int p2), .val (.int p3), .val (.int p4), .val (.ref b1), .val (.ref b17), .val (.int v38), .unset] [(.ref rx)])) (fun tZ kZ => st19 _ kZ) ?_
        refine own_by (S' := T19.setTop (mkF m 100 #[.val (.int p1), .val (.int p2), .val (.int p3), .val (.int p4), .val (.ref b1), .val (.ref b17), .val (.int v38), .val (.ref rx)] [])) (fun tZ kZ => XS.astore X19.here hx rfl (hb hby at_98) rfl rfl (l' := #[.val (.int p1), .val (.int p2), .val (.int p3), .val (.int p4), .val (.ref b1), .val (.ref b17), .val (.int v38), .val (.ref rx)]) rfl kZ) ?_
        refine own_by (S' := T19.setTop (mkF m 102 #[.val (.int p1), .val (.int p2), .val (.int p3), .val (.int p4), .val (.ref b1), .val (.ref b17), .val (.int v38), .val (.ref rx)] [(.ref rx)])) (fun tZ kZ => XS.aload X19.here hx rfl (hb hby at_100) rfl rfl kZ) ?_
        refine own_by (S' := T19.setTop (mkF m 107 #[.val (.int p1), .val (.int p2), .val (.int p3), .val (.int p4), .val (.ref b1), .val (.ref b17), .val (.int v38), .val (.ref rx)] [])) (fun tZ kZ => Jvm.Free.XT.ifnonnullYes X19.here hx rfl (pc0 := 102) (pc' := 107) rfl (hb hby at_102) rfl (by decide) (by decide) kZ) ?_
        refine own_by (S' := T19.setTop (mkF m 109 #[.val (.int p1), .val (.int p2), .val (.int p3), .val (.int p4), .val (.ref b1), .val (.ref b17), .val (.int v38), .val (.ref rx)] [(.ref rx)])) (fun tZ kZ => XS.aload X19.here hx rfl (hb hby at_107) rfl rfl kZ) ?_
        obtain ⟨cq20, kq20, q20a, q20b, q20c⟩ := isOf hZ0 rfl qe19
        obtain ⟨_, _, ⟨T20, L20, k20, n20⟩, -, X20, ⟨Lc20, hQ20, l20, y20, z20⟩, st20⟩ := X19.virtualBack hx (y := (⟨"com/example/idpd/idpd/RefusedMessageException", "kind", "()Lcom/example/idpd/idpd/RefusedMessageException$Kind;"⟩ : MethodName)) (z := (⟨"com/example/idpd/idpd/RefusedMessageException", "kind", "()Lcom/example/idpd/idpd/RefusedMessageException$Kind;"⟩ : MethodName)) hown0 (mvT hZ0 (hw _ (List.mem_of_getElem? (i := 65) rfl))) (mvT hZ0 (hw _ (List.mem_of_getElem? (i := 66) rfl))) (notFace_of_selects (args := #[]) (mvT hZ0 (hw _ (List.mem_of_getElem? (i := 68) rfl)))) (mvT hZ0 (hw _ (List.mem_of_getElem? (i := 68) rfl))) (mvT hZ0 (hw _ (List.mem_of_getElem? (i := 67) rfl))) (by decide) (backOf (W := 0) (rmKi l Z a0 hw [] rx kx T19.heap n0 Zs19 qf19) hZ0 (hw _ (List.mem_of_getElem? (i := 69) rfl)) (hw _ (List.mem_of_getElem? (i := 3) rfl)) (by decide) (by decide)) q20a q20c (g := (mkF m 109 #[.val (.int p1), .val (.int p2), .val (.int p3), .val (.int p4), .val (.ref b1), .val (.ref b17), .val (.int v38), .val (.ref rx)] [(.ref rx)])) rfl (by rw [hml]; rfl) (Steps.refl _) (argsL := []) (rest := []) (lenOf pd_10 rfl) rfl (by show 2 * 0 + _ ≤ _; exact Nat.le_of_eq rfl) (hb hby at_109) (fun _ _ => ⟨rfl, rfl, (by decide : 5 + 0 ≤ _), (by decide : 2769 + 0 ≤ _)⟩)
        dsimp only [Pt.U, Pt.locs, Pt.cells, Pt.slots] at X20 l20 y20 z20 st20 hQ20
        subst l20 y20 z20
        obtain ⟨rfl, N20q, heq20⟩ := hQ20
        have N20 := Fr.app N19 N20q
        refine own_by (S' := T20.setTop (mkF m 112 #[.val (.int p1), .val (.int p2), .val (.int p3), .val (.int p4), .val (.ref b1), .val (.ref b17), .val (.int v38), .val (.ref rx)] [(.ref kx)])) (fun tZ kZ => st20.trans kZ) ?_
        have ExK19 := own_ext0 K19
        obtain ⟨T21, X21, e21, st21⟩ := getS2 X20 hx hZ0 hown0 (host := "") (Or.inl (hw _ (List.mem_of_getElem? (i := 70) rfl))) Via.refl heq20 (S_k.ext ExK19) (g := (mkF m 112 #[.val (.int p1), .val (.int p2), .val (.int p3), .val (.int p4), .val (.ref b1), .val (.ref b17), .val (.int v38), .val (.ref rx)] [(.ref kx)])) rfl (hb hby at_112)
        refine own_by (S' := T21.setTop (mkF m 115 #[.val (.int p1), .val (.int p2), .val (.int p3), .val (.int p4), .val (.ref b1), .val (.ref b17), .val (.int v38), .val (.ref rx)] [(.ref kx), (.ref kx)])) st21 ?_
        refine own_by (S' := T21.setTop (mkF m 118 #[.val (.int p1), .val (.int p2), .val (.int p3), .val (.int p4), .val (.ref b1), .val (.ref b17), .val (.int v38), .val (.ref rx)] [])) (fun tZ kZ => Jvm.RoadKit.acmp (g := (mkF m 115 #[.val (.int p1), .val (.int p2), .val (.int p3), .val (.int p4), .val (.ref b1), .val (.ref b17), .val (.int v38), .val (.ref rx)] [(.ref kx), (.ref kx)])) X21 hx rfl rfl rfl (pc0 := 115) (pc' := 118) (same := true) rfl (hb hby at_115) rfl (decide_eq_true rfl) (by decide) (by decide) kZ) ?_
        refine own_by (S' := T21.setTop (mkF m 119 #[.val (.int p1), .val (.int p2), .val (.int p3), .val (.int p4), .val (.ref b1), .val (.ref b17), .val (.int v38), .val (.ref rx)] [(.int (1 : Int32))])) (fun tZ kZ => XS.iconst X21.here hx rfl (hb hby at_118) kZ) ?_
        refine own_by (S' := T21.setTop (mkF m 123 #[.val (.int p1), .val (.int p2), .val (.int p3), .val (.int p4), .val (.ref b1), .val (.ref b17), .val (.int v38), .val (.ref rx)] [(.int (1 : Int32))])) (fun tZ kZ => XS.goto X21.here hx rfl (pc0 := 119) (pc' := 123) rfl (hb hby at_119) (by decide) (by decide) kZ) ?_
        exact own_retWI X21 hS0 (by rw [e21]; exact hk19) hx (t := .boolean) Bd.returns (by simp) rfl (hb hby at_123) Bd.notSynchronized (by decide) (by decide) ⟨rfl, N20⟩
set_option maxRecDepth 65536 in
set_option maxHeartbeats 40000000 in
theorem comes_1 {Post : Tables → Env → Array Value → State → Outcome → State → Prop} (hpost : ∀ tb e args s v u, (limb_1_1.after args s (.returned v) u = true ∧ limb_1_2.after args s (.returned v) u = true ∧ True) → FramedW s (.returned v) u (Jvm.fieldLocs frame_1_writes args s ++ Jvm.arrayLocs frame_1_arrays args s ++ Jvm.staticLocs frame_1_statics s) 24 6656 → Post tb e args s (.returned v) u) :
    ArmFor flags0 classFile x code maxLocals ret World_1 tables_1 room_1 Calls_1 rest_1 Pre_1 Post := by
  intro l hfl _ _ p e ha hc hk s m args below hf hA hF happ hP
  obtain ⟨hcalls, hrest, hpre⟩ := hP
  obtain ⟨-, -, -, hnamed, -, -, -, hat⟩ := (Spec.applies_iff hf).mp happ
  obtain ⟨hg, hn⟩ := and_e (Cond.before_iff.mp (show (Jvm.Cond.and given_1 narrow_1).before args s = true from hpre))
  obtain ⟨gc, gr0⟩ := and_e hg
  obtain ⟨ga0, gr1⟩ := and_e gr0
  obtain ⟨ga1, gr2⟩ := and_e gr1
  obtain ⟨ga2, gr3⟩ := and_e gr2
  obtain ⟨w0, w1, w2, w3, rfl⟩ : ∃ w0 w1 w2 w3 : Value, args = #[w0, w1, w2, w3] := by
    have hs : args.size = 4 := by simpa [Cond.value, given_1] using gc
    obtain ⟨L⟩ := args
    match L, hs with
    | [w0, w1, w2, w3], _ => exact ⟨w0, w1, w2, w3, rfl⟩
  have hw := fun d (hd : d ∈ tables_1) => atoms_spec (ws := Jvm.Cond.code x code maxLocals ret :: tables_1) hat d (List.mem_cons_of_mem _ hd)
  have hfit : Fit s := fun {y c} hc i hi => by
    obtain ⟨ha, rfl⟩ := Array.getElem?_eq_some_iff.mp hc
    have q := List.all_eq_true.mp ((Array.all_eq_true_iff_forall_mem.mp hF) _ (Array.getElem_mem ha)) i (List.mem_range.mpr hi)
    simpa [Array.getElem?_eq_getElem hi] using q
  obtain ⟨hsets, hown0⟩ := atoms_of _ (rest_1_c_eq ▸ (show rest_1_c.before _ s = true from hrest))
  have hr0 := Cond.before_iff.mp hown0
  obtain ⟨i0, ei0⟩ := is_v ga0
  obtain rfl : w0 = (.int i0) := Option.some.inj ei0
  obtain ⟨i1, ei1⟩ := is_v ga1
  obtain rfl : w1 = (.int i1) := Option.some.inj ei1
  obtain ⟨i2, ei2⟩ := is_v ga2
  obtain rfl : w2 = (.int i2) := Option.some.inj ei2
  obtain ⟨i3, ei3⟩ := is_v gr3
  obtain rfl : w3 = (.int i3) := Option.some.inj ei3
  obtain ⟨us, e_us⟩ := arr_v (Cond.before_iff.mp (hsets _ (List.mem_of_getElem? (i := 8) rfl)))
  have S_us : Sta s s.heap "java/lang/Throwable" "UNASSIGNED_STACK" "[Ljava/lang/StackTraceElement;" (.ref us) := Sta.start e_us (Or.inl (hsets _ (List.mem_of_getElem? (i := 6) rfl)))
  obtain ⟨se, e_se⟩ := exa_v (Cond.before_iff.mp (hsets _ (List.mem_of_getElem? (i := 13) rfl)))
  have S_se : Sta s s.heap "java/lang/Throwable" "SUPPRESSED_SENTINEL" "Ljava/util/List;" (.ref se) := Sta.start e_se (Or.inl (hsets _ (List.mem_of_getElem? (i := 11) rfl)))
  obtain ⟨kx, e_kx⟩ := exa_v hn
  have S_k : Sta s s.heap "com/example/idpd/idpd/RefusedMessageException$Kind" "EXPIRED" "Lcom/example/idpd/idpd/RefusedMessageException$Kind;" (.ref kx) := Sta.start e_kx (Or.inr ⟨(hw _ (List.mem_of_getElem? (i := 8) rfl)), (hw _ (List.mem_of_getElem? (i := 9) rfl))⟩)
  obtain ⟨cz, ecz⟩ := is_v (Cond.before_iff.mp (hsets _ (List.mem_of_getElem? (i := 21) rfl)))
  have Sc : Sta s s.heap "java/lang/String" "COMPACT_STRINGS" "Z" (.int cz) := Sta.start ecz (Or.inl (hsets _ (List.mem_of_getElem? (i := 20) rfl)))
  have hcz : ¬ cz = 0 := own_ne ecz (Cond.before_iff.mp (hsets _ (List.mem_of_getElem? (i := 22) rfl)))
  have hl : l.stackTraces = true := by
    have q := Launch.traces_on hfl ha
    rw [ha.platform] at q
    exact q
  obtain ⟨n, o, h1, h2, h3, _, L, rfl, ⟨rfl, N⟩, hq⟩ := rm0 l s _ hw tables_1 i0 i1 i2 i3 kx us se cz s.heap s.heap.size (Nat.le_refl _) ThS.start hl S_us S_se S_k Sc hcz p e ha hc hk s m _ below hf ((Spec.applies_iff_loose hf).mp happ).1 ⟨rfl, State.Warmed39.refl s, rfl⟩ (own_known hf hcalls.1 hcalls.2.1)
  refine ⟨n, _, h1, h2, h3, hpost _ _ _ _ _ _ ⟨Cond.after_iff.mpr rfl, Cond.after_iff.mpr (eq_i res_at (Term.int_eval (1)) rfl), trivial⟩ ⟨hq.1, hq.2.1, hq.2.2.1, (hq.2.2.2.sift fun y hy => Or.inr (N y hy)).mono (by decide) (by decide)⟩⟩
theorem main_1_1 : Claimed_1_1 := comes_1 fun _ _ _ _ _ _ h hF => ⟨h.1, hF⟩
theorem main_1_2 : Claimed_1_2 := comes_1 fun _ _ _ _ _ _ h hF => ⟨h.2.1, hF⟩

end Jvm.Pilot.@@N@@
namespace Jvm.Pilot.@@N@@
open Jvm Jvm.ClassFile Sem Op Lib Jvm.Free Jvm.Stand Jvm.Pilot.@@N@@.Jvm.D
/-! MADE BY PROGRAM (witnessworld.py) out of the Statement's table words and the real class files: 37 classes; the members and pool entries that the words name. The judged class is class 1, her method 1. -/
namespace start1
open Jvm.ClassFile
def u (s : String) : CpInfo := .utf8 (stringToUtf16 s)
/-- a pool by its gaps: so many unusable entries, then the entry; so many at the end -/
def gap : Nat → List CpInfo → List CpInfo
  | 0, r => r
  | n + 1, r => .unusable :: gap n r
def poolList (es : List (Nat × CpInfo)) (last : Nat) : List CpInfo := es.foldr (fun e r => gap e.1 (e.2 :: r)) (gap last [])
def pool (es : List (Nat × CpInfo)) (last : Nat) : Array CpInfo := ⟨poolList es last⟩
def fileOf (pool : Array CpInfo) (this : Nat) (attrs : Array Attribute := #[]) (ms : Array MethodInfo := #[]) (fl : Nat := 33) (sup : Nat := 0) (ifs : Array Nat := #[]) (fds : Array FieldInfo := #[]) : ClassFile where
  minorVersion := 0
  majorVersion := 65
  constantPool := pool
  accessFlags := fl
  thisClass := this
  superClass := sup
  interfaces := ifs
  fields := fds
  methods := ms
  attributes := attrs
def plain (name : String) (sup : Option ClassId) : Class where
  name := name
  kind := .ordinary
  loader := none
  accessFlags := 33
  super := sup
  interfaces := #[]
  cf := none
  fields := #[]
  methods := #[]
  instanceTypes := #[]
  staticTypes := #[]
  resolved := #[]
  callSites := []
  init := .initialized
  statics := none
  mirror := none

def pool0 : Array CpInfo := pool [(5, u "<init>"), (0, u "()V"), (1, .class_ 10), (1, u "java/lang/Object")] 113

def k0c0 : Code := { maxStack := 0, maxLocals := 1, code := object_method_1_code, exceptionTable := #[], attributes := #[] }
def k0m0 : Method := { name := "<init>", desc := "()V", sig := { parameters := [], returnType := none }, accessFlags := 1, code := some k0c0 }
/-- java/lang/Object -/
def k0 : Class := { plain "java/lang/Object" none with
  accessFlags := 33
  interfaces := #[]
  cf := some (fileOf pool0 8 #[] #[{ accessFlags := 1, nameIndex := 5, descriptorIndex := 6, attributes := #[] }] 33 0 #[] #[])
  fields := #[]
  methods := #[k0m0]
  instanceTypes := #[]
  staticTypes := #[]
  resolved := Array.replicate 124 none
  statics := none }

def pool1 : Array CpInfo := pool [(2, .class_ 4), (1, u "java/lang/Object"), (0, u "<init>"), (0, u "()V"), (0, .string 8), (0, u ""), (0, .methodref 10 11), (0, .class_ 12), (0, .nameAndType 13 14), (0, u "java/lang/String"), (0, u "valueOf"), (0, u "(C)Ljava/lang/String;"), (0, .methodref 10 16), (0, .nameAndType 5 17), (0, u "([C)V"), (0, .methodref 19 20), (0, .class_ 21), (0, .nameAndType 22 23), (0, u "com/example/idpd/idpd/RefusedMessageException"), (0, u "expired"), (0, u "(Ljava/lang/String;)Lcom/example/idpd/idpd/RefusedMessageException;"), (0, .methodref 19 25), (0, .nameAndType 26 27), (0, u "kind"), (0, u "()Lcom/example/idpd/idpd/RefusedMessageException$Kind;"), (0, .fieldref 29 30), (0, .class_ 31), (0, .nameAndType 32 33), (0, u "com/example/idpd/idpd/RefusedMessageException$Kind"), (0, u "EXPIRED"), (0, u "Lcom/example/idpd/idpd/RefusedMessageException$Kind;"), (0, .class_ 35), (0, u "com/example/idpd/idpd/RefusedMessageExceptionExpiredPinLaw"), (2, u "law"), (0, u "(IIII)Z")] 7

def k1m0 : Method := { name := "<init>", desc := "()V", sig := { parameters := [], returnType := none }, accessFlags := 1, code := none }
def k1c1 : Code := { maxStack := 4, maxLocals := 8, code := code, exceptionTable := #[], attributes := #[] }
def k1m1 : Method := { name := "law", desc := "(IIII)Z", sig := { parameters := [.int, .int, .int, .int], returnType := some .boolean }, accessFlags := 9, code := some k1c1 }
/-- com/example/idpd/idpd/RefusedMessageExceptionExpiredPinLaw -/
def k1 : Class := { plain "com/example/idpd/idpd/RefusedMessageExceptionExpiredPinLaw" (some 0) with
  accessFlags := 49
  interfaces := #[]
  cf := some (fileOf pool1 34 #[] #[{ accessFlags := 1, nameIndex := 5, descriptorIndex := 6, attributes := #[] }, { accessFlags := 9, nameIndex := 38, descriptorIndex := 39, attributes := #[] }] 49 2 #[] #[])
  fields := #[]
  methods := #[k1m0, k1m1]
  instanceTypes := #[]
  staticTypes := #[]
  resolved := Array.replicate 47 none
  statics := none }

def pool2 : Array CpInfo := pool [(1, .class_ 2), (0, u "java/io/Serializable"), (0, .class_ 4), (0, u "java/lang/Object")] 2

/-- java/io/Serializable -/
def k2 : Class := { plain "java/io/Serializable" (some 0) with
  accessFlags := 1537
  interfaces := #[]
  cf := some (fileOf pool2 1 #[] #[] 1537 3 #[] #[])
  fields := #[]
  methods := #[]
  instanceTypes := #[]
  staticTypes := #[]
  resolved := Array.replicate 7 none
  statics := none }

def pool3 : Array CpInfo := pool [(1, .methodref 2 3), (0, .class_ 4), (0, .nameAndType 5 6), (0, u "java/lang/Object"), (0, u "<init>"), (0, u "()V"), (0, .fieldref 8 9), (0, .class_ 10), (0, .nameAndType 11 12), (0, u "java/lang/Throwable"), (0, u "cause"), (0, u "Ljava/lang/Throwable;"), (0, .fieldref 8 14), (0, .nameAndType 15 16), (0, u "UNASSIGNED_STACK"), (0, u "[Ljava/lang/StackTraceElement;"), (0, .fieldref 8 18), (0, .nameAndType 19 16), (0, u "stackTrace"), (0, .fieldref 8 21), (0, .nameAndType 22 23), (0, u "SUPPRESSED_SENTINEL"), (0, u "Ljava/util/List;"), (0, .fieldref 8 25), (0, .nameAndType 26 23), (0, u "suppressedExceptions"), (0, .methodref 8 28), (0, .nameAndType 29 30), (0, u "fillInStackTrace"), (0, u "()Ljava/lang/Throwable;"), (0, .fieldref 8 32), (0, .nameAndType 33 34), (0, u "detailMessage"), (0, u "Ljava/lang/String;"), (58, .class_ 94), (0, u "java/lang/Throwable$WrappedPrintStream"), (6, .class_ 103), (1, u "java/lang/Throwable$PrintStreamOrWriter"), (61, u "$assertionsDisabled"), (0, u "Z"), (26, .class_ 194), (0, u "java/lang/Throwable$WrappedPrintWriter"), (3, .fieldref 8 199), (0, .nameAndType 200 201), (0, u "backtrace"), (0, u "Ljava/lang/Object;"), (0, .methodref 8 203), (0, .nameAndType 29 204), (0, u "(I)Ljava/lang/Throwable;"), (6, u "depth"), (0, u "I"), (10, u "(Ljava/lang/String;)V"), (45, .class_ 271), (1, u "java/lang/Throwable$SentinelHolder"), (32, u "EMPTY_THROWABLE_ARRAY"), (0, u "[Ljava/lang/Throwable;"), (12, .class_ 319), (0, u "java/io/Serializable"), (0, u "serialVersionUID"), (0, u "J"), (5, u "NULL_CAUSE_MESSAGE"), (0, u "SELF_SUPPRESSION_MESSAGE"), (0, u "CAUSE_CAPTION"), (0, u "SUPPRESSED_CAPTION")] 73

def k3c0 : Code := { maxStack := 2, maxLocals := 1, code := jdk_78_method_1_code, exceptionTable := #[], attributes := #[] }
def k3m0 : Method := { name := "<init>", desc := "()V", sig := { parameters := [], returnType := none }, accessFlags := 1, code := some k3c0 }
def k3c1 : Code := { maxStack := 2, maxLocals := 2, code := jdk_78_method_2_code, exceptionTable := #[], attributes := #[] }
def k3m1 : Method := { name := "<init>", desc := "(Ljava/lang/String;)V", sig := { parameters := [(.object "java/lang/String")], returnType := none }, accessFlags := 1, code := some k3c1 }
def k3c2 : Code := { maxStack := 2, maxLocals := 1, code := ⟨#[0x2a, 0xb4, 0x00, 0x11, 0xc7, 0x00, 0x0a, 0x2a, 0xb4, 0x00, 0xc6, 0xc6, 0x00, 0x10, 0x2a, 0x03, 0xb6, 0x00, 0xca, 0x57, 0x2a, 0xb2, 0x00, 0x0d, 0xb5, 0x00, 0x11, 0x2a, 0xb0]⟩, exceptionTable := #[], attributes := #[] }
def k3m2 : Method := { name := "fillInStackTrace", desc := "()Ljava/lang/Throwable;", sig := { parameters := [], returnType := some (.object "java/lang/Throwable") }, accessFlags := 33, code := some k3c2 }
def k3m3 : Method := { name := "fillInStackTrace", desc := "(I)Ljava/lang/Throwable;", sig := { parameters := [.int], returnType := some (.object "java/lang/Throwable") }, accessFlags := 258, code := none }
/-- java/lang/Throwable -/
def k3 : Class := { plain "java/lang/Throwable" (some 0) with
  accessFlags := 33
  interfaces := #[2]
  cf := some (fileOf pool3 8 #[.nestMembers #[193, 93, 101, 269]] #[{ accessFlags := 1, nameIndex := 5, descriptorIndex := 6, attributes := #[] }, { accessFlags := 1, nameIndex := 5, descriptorIndex := 223, attributes := #[] }, { accessFlags := 33, nameIndex := 29, descriptorIndex := 30, attributes := #[] }, { accessFlags := 258, nameIndex := 29, descriptorIndex := 204, attributes := #[] }] 33 2 #[318] #[{ accessFlags := 26, nameIndex := 320, descriptorIndex := 321, attributes := #[] }, { accessFlags := 130, nameIndex := 200, descriptorIndex := 201, attributes := #[] }, { accessFlags := 2, nameIndex := 33, descriptorIndex := 34, attributes := #[] }, { accessFlags := 26, nameIndex := 15, descriptorIndex := 16, attributes := #[] }, { accessFlags := 2, nameIndex := 11, descriptorIndex := 12, attributes := #[] }, { accessFlags := 2, nameIndex := 19, descriptorIndex := 16, attributes := #[] }, { accessFlags := 130, nameIndex := 211, descriptorIndex := 212, attributes := #[] }, { accessFlags := 26, nameIndex := 22, descriptorIndex := 23, attributes := #[] }, { accessFlags := 2, nameIndex := 26, descriptorIndex := 23, attributes := #[] }, { accessFlags := 26, nameIndex := 327, descriptorIndex := 34, attributes := #[] }, { accessFlags := 26, nameIndex := 328, descriptorIndex := 34, attributes := #[] }, { accessFlags := 26, nameIndex := 329, descriptorIndex := 34, attributes := #[] }, { accessFlags := 26, nameIndex := 330, descriptorIndex := 34, attributes := #[] }, { accessFlags := 26, nameIndex := 304, descriptorIndex := 305, attributes := #[] }, { accessFlags := 4120, nameIndex := 165, descriptorIndex := 166, attributes := #[] }])
  fields := #[{ name := "serialVersionUID", type := .long, accessFlags := 26, slot := 0, constantValue := 0 }, { name := "backtrace", type := (.object "java/lang/Object"), accessFlags := 130, slot := 0, constantValue := 0 }, { name := "detailMessage", type := (.object "java/lang/String"), accessFlags := 2, slot := 1, constantValue := 0 }, { name := "UNASSIGNED_STACK", type := (.array (.object "java/lang/StackTraceElement")), accessFlags := 26, slot := 1, constantValue := 0 }, { name := "cause", type := (.object "java/lang/Throwable"), accessFlags := 2, slot := 2, constantValue := 0 }, { name := "stackTrace", type := (.array (.object "java/lang/StackTraceElement")), accessFlags := 2, slot := 3, constantValue := 0 }, { name := "depth", type := .int, accessFlags := 130, slot := 4, constantValue := 0 }, { name := "SUPPRESSED_SENTINEL", type := (.object "java/util/List"), accessFlags := 26, slot := 2, constantValue := 0 }, { name := "suppressedExceptions", type := (.object "java/util/List"), accessFlags := 2, slot := 5, constantValue := 0 }, { name := "NULL_CAUSE_MESSAGE", type := (.object "java/lang/String"), accessFlags := 26, slot := 3, constantValue := 0 }, { name := "SELF_SUPPRESSION_MESSAGE", type := (.object "java/lang/String"), accessFlags := 26, slot := 4, constantValue := 0 }, { name := "CAUSE_CAPTION", type := (.object "java/lang/String"), accessFlags := 26, slot := 5, constantValue := 0 }, { name := "SUPPRESSED_CAPTION", type := (.object "java/lang/String"), accessFlags := 26, slot := 6, constantValue := 0 }, { name := "EMPTY_THROWABLE_ARRAY", type := (.array (.object "java/lang/Throwable")), accessFlags := 26, slot := 7, constantValue := 0 }, { name := "$assertionsDisabled", type := .boolean, accessFlags := 4120, slot := 8, constantValue := 0 }]
  methods := #[k3m0, k3m1, k3m2, k3m3]
  instanceTypes := #[(.object "java/lang/Object"), (.object "java/lang/String"), (.object "java/lang/Throwable"), (.array (.object "java/lang/StackTraceElement")), .int, (.object "java/util/List")]
  staticTypes := #[.long, (.array (.object "java/lang/StackTraceElement")), (.object "java/util/List"), (.object "java/lang/String"), (.object "java/lang/String"), (.object "java/lang/String"), (.object "java/lang/String"), (.array (.object "java/lang/Throwable")), .boolean]
  resolved := Array.replicate 404 none
  statics := some 0 }

def pool4 : Array CpInfo := pool [(2, .class_ 4), (1, u "java/lang/Throwable"), (0, u "<init>"), (0, u "()V"), (0, .methodref 2 8), (0, .nameAndType 5 9), (0, u "(Ljava/lang/String;)V"), (9, .class_ 20), (0, u "java/lang/Exception"), (0, u "serialVersionUID"), (0, u "J")] 17

def k4m0 : Method := { name := "<init>", desc := "()V", sig := { parameters := [], returnType := none }, accessFlags := 1, code := none }
def k4c1 : Code := { maxStack := 2, maxLocals := 2, code := jdk_59_method_2_code, exceptionTable := #[], attributes := #[] }
def k4m1 : Method := { name := "<init>", desc := "(Ljava/lang/String;)V", sig := { parameters := [(.object "java/lang/String")], returnType := none }, accessFlags := 1, code := some k4c1 }
/-- java/lang/Exception -/
def k4 : Class := { plain "java/lang/Exception" (some 3) with
  accessFlags := 33
  interfaces := #[]
  cf := some (fileOf pool4 19 #[] #[{ accessFlags := 1, nameIndex := 5, descriptorIndex := 6, attributes := #[] }, { accessFlags := 1, nameIndex := 5, descriptorIndex := 9, attributes := #[] }] 33 2 #[] #[{ accessFlags := 24, nameIndex := 21, descriptorIndex := 22, attributes := #[] }])
  fields := #[{ name := "serialVersionUID", type := .long, accessFlags := 24, slot := 0, constantValue := 0 }]
  methods := #[k4m0, k4m1]
  instanceTypes := #[(.object "java/lang/Object"), (.object "java/lang/String"), (.object "java/lang/Throwable"), (.array (.object "java/lang/StackTraceElement")), .int, (.object "java/util/List")]
  staticTypes := #[.long]
  resolved := Array.replicate 40 none
  statics := none }

def pool5 : Array CpInfo := pool [(1, .methodref 2 3), (0, .class_ 4), (0, .nameAndType 5 6), (0, u "java/lang/Exception"), (0, u "<init>"), (0, u "(Ljava/lang/String;)V"), (0, .fieldref 8 9), (0, .class_ 10), (0, .nameAndType 11 12), (0, u "com/example/idpd/idpd/RefusedMessageException"), (0, u "kind"), (0, u "Lcom/example/idpd/idpd/RefusedMessageException$Kind;"), (4, .class_ 19), (1, u "com/example/idpd/idpd/RefusedMessageException$Kind"), (1, .methodref 8 22), (0, .nameAndType 5 23), (0, u "(Lcom/example/idpd/idpd/RefusedMessageException$Kind;Ljava/lang/String;)V"), (9, .fieldref 17 34), (0, .nameAndType 35 12), (0, u "EXPIRED"), (0, u "serialVersionUID"), (0, u "J"), (6, u "(Ljava/lang/String;)Lcom/example/idpd/idpd/RefusedMessageException;"), (3, u "expired"), (0, u "()Lcom/example/idpd/idpd/RefusedMessageException$Kind;")] 5

def k5c0 : Code := { maxStack := 2, maxLocals := 3, code := prog_18_method_1_code, exceptionTable := #[], attributes := #[] }
def k5m0 : Method := { name := "<init>", desc := "(Lcom/example/idpd/idpd/RefusedMessageException$Kind;Ljava/lang/String;)V", sig := { parameters := [(.object "com/example/idpd/idpd/RefusedMessageException$Kind"), (.object "java/lang/String")], returnType := none }, accessFlags := 2, code := some k5c0 }
def k5c1 : Code := { maxStack := 4, maxLocals := 1, code := prog_18_method_8_code, exceptionTable := #[], attributes := #[] }
def k5m1 : Method := { name := "expired", desc := "(Ljava/lang/String;)Lcom/example/idpd/idpd/RefusedMessageException;", sig := { parameters := [(.object "java/lang/String")], returnType := some (.object "com/example/idpd/idpd/RefusedMessageException") }, accessFlags := 8, code := some k5c1 }
def k5c2 : Code := { maxStack := 1, maxLocals := 1, code := prog_18_method_9_code, exceptionTable := #[], attributes := #[] }
def k5m2 : Method := { name := "kind", desc := "()Lcom/example/idpd/idpd/RefusedMessageException$Kind;", sig := { parameters := [], returnType := some (.object "com/example/idpd/idpd/RefusedMessageException$Kind") }, accessFlags := 0, code := some k5c2 }
/-- com/example/idpd/idpd/RefusedMessageException -/
def k5 : Class := { plain "com/example/idpd/idpd/RefusedMessageException" (some 4) with
  accessFlags := 32
  interfaces := #[]
  cf := some (fileOf pool5 8 #[.nestMembers #[17]] #[{ accessFlags := 2, nameIndex := 5, descriptorIndex := 23, attributes := #[] }, { accessFlags := 8, nameIndex := 48, descriptorIndex := 44, attributes := #[] }, { accessFlags := 0, nameIndex := 11, descriptorIndex := 49, attributes := #[] }] 32 2 #[] #[{ accessFlags := 26, nameIndex := 36, descriptorIndex := 37, attributes := #[] }, { accessFlags := 18, nameIndex := 11, descriptorIndex := 12, attributes := #[] }])
  fields := #[{ name := "serialVersionUID", type := .long, accessFlags := 26, slot := 0, constantValue := 0 }, { name := "kind", type := (.object "com/example/idpd/idpd/RefusedMessageException$Kind"), accessFlags := 18, slot := 6, constantValue := 0 }]
  methods := #[k5m0, k5m1, k5m2]
  instanceTypes := #[(.object "java/lang/Object"), (.object "java/lang/String"), (.object "java/lang/Throwable"), (.array (.object "java/lang/StackTraceElement")), .int, (.object "java/util/List"), (.object "com/example/idpd/idpd/RefusedMessageException$Kind")]
  staticTypes := #[.long]
  resolved := Array.replicate 55 none
  statics := none }

def pool6 : Array CpInfo := pool [(1, .class_ 2), (0, u "java/lang/constant/Constable"), (0, .class_ 4), (0, u "java/lang/Object")] 6

/-- java/lang/constant/Constable -/
def k6 : Class := { plain "java/lang/constant/Constable" (some 0) with
  accessFlags := 1537
  interfaces := #[]
  cf := some (fileOf pool6 1 #[] #[] 1537 3 #[] #[])
  fields := #[]
  methods := #[]
  instanceTypes := #[]
  staticTypes := #[]
  resolved := Array.replicate 11 none
  statics := none }

def pool7 : Array CpInfo := pool [(1, .class_ 2), (0, u "java/lang/Comparable"), (0, .class_ 4), (0, u "java/lang/Object")] 7

/-- java/lang/Comparable -/
def k7 : Class := { plain "java/lang/Comparable" (some 0) with
  accessFlags := 1537
  interfaces := #[]
  cf := some (fileOf pool7 1 #[] #[] 1537 3 #[] #[])
  fields := #[]
  methods := #[]
  instanceTypes := #[]
  staticTypes := #[]
  resolved := Array.replicate 12 none
  statics := none }

def pool8 : Array CpInfo := pool [(2, .class_ 4), (1, u "java/lang/Enum"), (0, u "name"), (0, u "Ljava/lang/String;"), (2, u "ordinal"), (0, u "I"), (1, .class_ 14), (1, u "java/lang/Object"), (4, u "hash"), (86, .class_ 108), (1, u "java/lang/Enum$EnumDesc"), (2, .class_ 112), (0, u "java/lang/constant/Constable"), (0, .class_ 114), (0, u "java/lang/Comparable"), (0, .class_ 116), (0, u "java/io/Serializable")] 87

/-- java/lang/Enum -/
def k8 : Class := { plain "java/lang/Enum" (some 0) with
  accessFlags := 1057
  interfaces := #[6, 7, 2]
  cf := some (fileOf pool8 2 #[.nestMembers #[106]] #[] 1057 12 #[111, 113, 115] #[{ accessFlags := 18, nameIndex := 5, descriptorIndex := 6, attributes := #[] }, { accessFlags := 18, nameIndex := 9, descriptorIndex := 10, attributes := #[] }, { accessFlags := 2, nameIndex := 19, descriptorIndex := 10, attributes := #[] }])
  fields := #[{ name := "name", type := (.object "java/lang/String"), accessFlags := 18, slot := 0, constantValue := 0 }, { name := "ordinal", type := .int, accessFlags := 18, slot := 1, constantValue := 0 }, { name := "hash", type := .int, accessFlags := 2, slot := 2, constantValue := 0 }]
  methods := #[]
  instanceTypes := #[(.object "java/lang/String"), .int, .int]
  staticTypes := #[]
  resolved := Array.replicate 204 none
  statics := none }

def pool9 : Array CpInfo := pool [(1, .class_ 2), (0, u "com/example/idpd/idpd/RefusedMessageException$Kind"), (2, u "MALFORMED"), (0, u "Lcom/example/idpd/idpd/RefusedMessageException$Kind;"), (2, u "UNTRUSTED"), (2, u "UNKNOWN_PRINCIPAL"), (2, u "EXPIRED"), (2, u "$VALUES"), (0, u "[Lcom/example/idpd/idpd/RefusedMessageException$Kind;"), (6, .class_ 28), (1, u "java/lang/Enum"), (27, .class_ 57), (0, u "com/example/idpd/idpd/RefusedMessageException")] 2

/-- com/example/idpd/idpd/RefusedMessageException$Kind -/
def k9 : Class := { plain "com/example/idpd/idpd/RefusedMessageException$Kind" (some 8) with
  accessFlags := 16432
  interfaces := #[]
  cf := some (fileOf pool9 1 #[.nestHost 56] #[] 16432 26 #[] #[{ accessFlags := 16409, nameIndex := 5, descriptorIndex := 6, attributes := #[] }, { accessFlags := 16409, nameIndex := 9, descriptorIndex := 6, attributes := #[] }, { accessFlags := 16409, nameIndex := 12, descriptorIndex := 6, attributes := #[] }, { accessFlags := 16409, nameIndex := 15, descriptorIndex := 6, attributes := #[] }, { accessFlags := 4122, nameIndex := 18, descriptorIndex := 19, attributes := #[] }])
  fields := #[{ name := "MALFORMED", type := (.object "com/example/idpd/idpd/RefusedMessageException$Kind"), accessFlags := 16409, slot := 0, constantValue := 0 }, { name := "UNTRUSTED", type := (.object "com/example/idpd/idpd/RefusedMessageException$Kind"), accessFlags := 16409, slot := 1, constantValue := 0 }, { name := "UNKNOWN_PRINCIPAL", type := (.object "com/example/idpd/idpd/RefusedMessageException$Kind"), accessFlags := 16409, slot := 2, constantValue := 0 }, { name := "EXPIRED", type := (.object "com/example/idpd/idpd/RefusedMessageException$Kind"), accessFlags := 16409, slot := 3, constantValue := 0 }, { name := "$VALUES", type := (.array (.object "com/example/idpd/idpd/RefusedMessageException$Kind")), accessFlags := 4122, slot := 4, constantValue := 0 }]
  methods := #[]
  instanceTypes := #[(.object "java/lang/String"), .int, .int]
  staticTypes := #[(.object "com/example/idpd/idpd/RefusedMessageException$Kind"), (.object "com/example/idpd/idpd/RefusedMessageException$Kind"), (.object "com/example/idpd/idpd/RefusedMessageException$Kind"), (.object "com/example/idpd/idpd/RefusedMessageException$Kind"), (.array (.object "com/example/idpd/idpd/RefusedMessageException$Kind"))]
  resolved := Array.replicate 60 none
  statics := some 1 }

def pool10 : Array CpInfo := pool [(2, .class_ 4), (1, u "java/lang/CharSequence"), (42, .class_ 48), (0, u "java/lang/CharSequence$1CodePointIterator"), (10, .class_ 60), (0, u "java/lang/CharSequence$1CharIterator"), (5, .class_ 67), (0, u "java/lang/Object")] 63

/-- java/lang/CharSequence -/
def k10 : Class := { plain "java/lang/CharSequence" (some 0) with
  accessFlags := 1537
  interfaces := #[]
  cf := some (fileOf pool10 2 #[.nestMembers #[47, 59]] #[] 1537 66 #[] #[])
  fields := #[]
  methods := #[]
  instanceTypes := #[]
  staticTypes := #[]
  resolved := Array.replicate 131 none
  statics := none }

def pool11 : Array CpInfo := pool [(1, .class_ 2), (0, u "java/lang/constant/ConstantDesc"), (0, .class_ 4), (0, u "java/lang/Object")] 32

/-- java/lang/constant/ConstantDesc -/
def k11 : Class := { plain "java/lang/constant/ConstantDesc" (some 0) with
  accessFlags := 1537
  interfaces := #[]
  cf := some (fileOf pool11 1 #[] #[] 1537 3 #[] #[])
  fields := #[]
  methods := #[]
  instanceTypes := #[]
  staticTypes := #[]
  resolved := Array.replicate 37 none
  statics := none }

def pool12 : Array CpInfo := pool [(1, .methodref 2 3), (0, .class_ 4), (0, .nameAndType 5 6), (0, u "java/lang/Object"), (0, u "<init>"), (0, u "()V"), (2, .fieldref 10 11), (0, .class_ 12), (0, .nameAndType 13 14), (0, u "java/lang/String"), (0, u "value"), (0, u "[B"), (0, .fieldref 10 16), (0, .nameAndType 17 18), (0, u "coder"), (0, u "B"), (2, u "hash"), (0, u "I"), (2, u "hashIsZero"), (0, u "Z"), (0, .methodref 10 28), (0, .nameAndType 5 29), (0, u "([CIILjava/lang/Void;)V"), (8, .fieldref 10 39), (0, .nameAndType 40 26), (0, u "COMPACT_STRINGS"), (1, .class_ 44), (1, u "java/lang/StringUTF16"), (0, u "compress"), (1, .methodref 42 48), (0, .nameAndType 49 50), (0, u "coderFromArrayLen"), (0, u "([BI)B"), (2, u "toBytes"), (53, .class_ 109), (1, u "java/lang/StringLatin1"), (67, .methodref 42 178), (0, .nameAndType 45 179), (0, u "([CII)[B"), (29, .methodref 10 210), (0, .nameAndType 5 211), (0, u "([BB)V"), (157, u "(C)Z"), (205, .class_ 576), (0, u "java/lang/CharSequence"), (22, u "CASE_INSENSITIVE_ORDER"), (0, u "Ljava/util/Comparator;"), (181, u "valueOf"), (0, u "(C)Ljava/lang/String;"), (226, u "([C)V"), (4, .methodref 107 1016), (0, .nameAndType 1017 369), (0, u "canEncode"), (0, .methodref 107 1019), (0, .nameAndType 53 1020), (0, u "(C)[B"), (80, u "serialPersistentFields"), (0, u "[Ljava/io/ObjectStreamField;"), (0, .class_ 1104), (0, u "java/lang/String$CaseInsensitiveComparator"), (1, .class_ 1107), (0, u "java/io/Serializable"), (0, .class_ 1109), (0, u "java/lang/Comparable"), (0, .class_ 1111), (0, u "java/lang/constant/Constable"), (0, .class_ 1113), (0, u "java/lang/constant/ConstantDesc"), (2, u "serialVersionUID"), (0, u "J"), (3, u "REPL"), (0, u "C"), (2, u "LATIN1"), (1, u "UTF16")] 323

def k12m0 : Method := { name := "<init>", desc := "()V", sig := { parameters := [], returnType := none }, accessFlags := 1, code := none }
def k12c1 : Code := { maxStack := 5, maxLocals := 2, code := jdk_42_method_3_code, exceptionTable := #[], attributes := #[] }
def k12m1 : Method := { name := "<init>", desc := "([C)V", sig := { parameters := [(.array .char)], returnType := none }, accessFlags := 1, code := some k12c1 }
def k12c2 : Code := { maxStack := 4, maxLocals := 1, code := jdk_42_method_139_code, exceptionTable := #[], attributes := #[] }
def k12m2 : Method := { name := "valueOf", desc := "(C)Ljava/lang/String;", sig := { parameters := [.char], returnType := some (.object "java/lang/String") }, accessFlags := 9, code := some k12c2 }
def k12c3 : Code := { maxStack := 4, maxLocals := 6, code := jdk_42_method_149_code, exceptionTable := #[], attributes := #[] }
def k12m3 : Method := { name := "<init>", desc := "([CIILjava/lang/Void;)V", sig := { parameters := [(.array .char), .int, .int, (.object "java/lang/Void")], returnType := none }, accessFlags := 2, code := some k12c3 }
def k12c4 : Code := { maxStack := 2, maxLocals := 3, code := jdk_42_method_151_code, exceptionTable := #[], attributes := #[] }
def k12m4 : Method := { name := "<init>", desc := "([BB)V", sig := { parameters := [(.array .byte), .byte], returnType := none }, accessFlags := 0, code := some k12c4 }
/-- java/lang/String -/
def k12 : Class := { plain "java/lang/String" (some 0) with
  accessFlags := 49
  interfaces := #[2, 7, 10, 6, 11]
  cf := some (fileOf pool12 10 #[.nestMembers #[1103]] #[{ accessFlags := 1, nameIndex := 5, descriptorIndex := 6, attributes := #[] }, { accessFlags := 1, nameIndex := 5, descriptorIndex := 1010, attributes := #[] }, { accessFlags := 9, nameIndex := 782, descriptorIndex := 783, attributes := #[] }, { accessFlags := 2, nameIndex := 5, descriptorIndex := 29, attributes := #[] }, { accessFlags := 0, nameIndex := 5, descriptorIndex := 211, attributes := #[] }] 49 2 #[1106, 1108, 575, 1110, 1112] #[{ accessFlags := 18, nameIndex := 13, descriptorIndex := 14, attributes := #[] }, { accessFlags := 18, nameIndex := 17, descriptorIndex := 18, attributes := #[] }, { accessFlags := 2, nameIndex := 21, descriptorIndex := 22, attributes := #[] }, { accessFlags := 2, nameIndex := 25, descriptorIndex := 26, attributes := #[] }, { accessFlags := 26, nameIndex := 1116, descriptorIndex := 1117, attributes := #[] }, { accessFlags := 24, nameIndex := 40, descriptorIndex := 26, attributes := #[] }, { accessFlags := 26, nameIndex := 1101, descriptorIndex := 1102, attributes := #[] }, { accessFlags := 26, nameIndex := 1121, descriptorIndex := 1122, attributes := #[] }, { accessFlags := 25, nameIndex := 599, descriptorIndex := 600, attributes := #[] }, { accessFlags := 24, nameIndex := 1125, descriptorIndex := 18, attributes := #[] }, { accessFlags := 24, nameIndex := 1127, descriptorIndex := 18, attributes := #[] }])
  fields := #[{ name := "value", type := (.array .byte), accessFlags := 18, slot := 0, constantValue := 0 }, { name := "coder", type := .byte, accessFlags := 18, slot := 1, constantValue := 0 }, { name := "hash", type := .int, accessFlags := 2, slot := 2, constantValue := 0 }, { name := "hashIsZero", type := .boolean, accessFlags := 2, slot := 3, constantValue := 0 }, { name := "serialVersionUID", type := .long, accessFlags := 26, slot := 0, constantValue := 0 }, { name := "COMPACT_STRINGS", type := .boolean, accessFlags := 24, slot := 1, constantValue := 0 }, { name := "serialPersistentFields", type := (.array (.object "java/io/ObjectStreamField")), accessFlags := 26, slot := 2, constantValue := 0 }, { name := "REPL", type := .char, accessFlags := 26, slot := 3, constantValue := 0 }, { name := "CASE_INSENSITIVE_ORDER", type := (.object "java/util/Comparator"), accessFlags := 25, slot := 4, constantValue := 0 }, { name := "LATIN1", type := .byte, accessFlags := 24, slot := 5, constantValue := 0 }, { name := "UTF16", type := .byte, accessFlags := 24, slot := 6, constantValue := 0 }]
  methods := #[k12m0, k12m1, k12m2, k12m3, k12m4]
  instanceTypes := #[(.array .byte), .byte, .int, .boolean]
  staticTypes := #[.long, .boolean, (.array (.object "java/io/ObjectStreamField")), .char, (.object "java/util/Comparator"), .byte, .byte]
  resolved := Array.replicate 1451 none
  statics := some 2 }

def pool13 : Array CpInfo := pool [(6, .class_ 8), (1, u "java/lang/Object"), (0, u "<init>"), (0, u "()V"), (1, .class_ 14), (1, u "java/lang/StringUTF16"), (31, u "$assertionsDisabled"), (0, u "Z"), (13, u "HI_BYTE_SHIFT"), (0, u "I"), (2, u "LO_BYTE_SHIFT"), (49, .methodref 12 116), (0, .nameAndType 117 118), (0, u "compress"), (0, u "([CI[BII)I"), (3, u "([CII)[B"), (138, u "coderFromArrayLen"), (0, u "([BI)B"), (106, .class_ 371), (1, u "java/lang/StringUTF16$LinesSpliterator"), (58, u "MAX_LENGTH"), (196, .class_ 628), (0, u "java/lang/StringUTF16$CodePointsSpliterator"), (0, .class_ 630), (0, u "java/lang/StringUTF16$CharsSpliterator")] 4

def k13m0 : Method := { name := "<init>", desc := "()V", sig := { parameters := [], returnType := none }, accessFlags := 0, code := none }
def k13c1 : Code := { maxStack := 2, maxLocals := 2, code := jdk_52_method_15_code, exceptionTable := #[], attributes := #[] }
def k13m1 : Method := { name := "coderFromArrayLen", desc := "([BI)B", sig := { parameters := [(.array .byte), .int], returnType := some .byte }, accessFlags := 8, code := some k13c1 }
def k13c2 : Code := { maxStack := 5, maxLocals := 6, code := jdk_52_method_16_code, exceptionTable := #[], attributes := #[] }
def k13m2 : Method := { name := "compress", desc := "([CII)[B", sig := { parameters := [(.array .char), .int, .int], returnType := some (.array .byte) }, accessFlags := 9, code := some k13c2 }
def k13c3 : Code := { maxStack := 3, maxLocals := 7, code := jdk_52_method_21_code, exceptionTable := #[], attributes := #[] }
def k13m3 : Method := { name := "compress", desc := "([CI[BII)I", sig := { parameters := [(.array .char), .int, (.array .byte), .int, .int], returnType := some .int }, accessFlags := 9, code := some k13c3 }
/-- java/lang/StringUTF16 -/
def k13 : Class := { plain "java/lang/StringUTF16" (some 0) with
  accessFlags := 48
  interfaces := #[]
  cf := some (fileOf pool13 12 #[.nestMembers #[627, 629, 369]] #[{ accessFlags := 0, nameIndex := 9, descriptorIndex := 10, attributes := #[] }, { accessFlags := 8, nameIndex := 261, descriptorIndex := 262, attributes := #[] }, { accessFlags := 9, nameIndex := 117, descriptorIndex := 122, attributes := #[] }, { accessFlags := 9, nameIndex := 117, descriptorIndex := 118, attributes := #[] }] 48 6 #[] #[{ accessFlags := 26, nameIndex := 61, descriptorIndex := 62, attributes := #[] }, { accessFlags := 26, nameIndex := 65, descriptorIndex := 62, attributes := #[] }, { accessFlags := 24, nameIndex := 430, descriptorIndex := 62, attributes := #[] }, { accessFlags := 4120, nameIndex := 46, descriptorIndex := 47, attributes := #[] }])
  fields := #[{ name := "HI_BYTE_SHIFT", type := .int, accessFlags := 26, slot := 0, constantValue := 0 }, { name := "LO_BYTE_SHIFT", type := .int, accessFlags := 26, slot := 1, constantValue := 0 }, { name := "MAX_LENGTH", type := .int, accessFlags := 24, slot := 2, constantValue := 0 }, { name := "$assertionsDisabled", type := .boolean, accessFlags := 4120, slot := 3, constantValue := 0 }]
  methods := #[k13m0, k13m1, k13m2, k13m3]
  instanceTypes := #[]
  staticTypes := #[.int, .int, .int, .boolean]
  resolved := Array.replicate 635 none
  statics := none }

def pool14 : Array CpInfo := pool [(4, .class_ 6), (1, u "java/lang/Object"), (0, u "<init>"), (0, u "()V"), (5, .class_ 16), (1, u "java/lang/StringLatin1"), (73, u "canEncode"), (14, u "(C)Z"), (15, u "$assertionsDisabled"), (0, u "Z"), (98, .class_ 223), (1, u "java/lang/StringLatin1$LinesSpliterator"), (156, u "toBytes"), (1, u "(C)[B"), (7, .class_ 391), (0, u "java/lang/StringLatin1$CharsSpliterator")] 3

def k14m0 : Method := { name := "<init>", desc := "()V", sig := { parameters := [], returnType := none }, accessFlags := 0, code := none }
def k14c1 : Code := { maxStack := 2, maxLocals := 1, code := jdk_43_method_3_code, exceptionTable := #[], attributes := #[] }
def k14m1 : Method := { name := "canEncode", desc := "(C)Z", sig := { parameters := [.char], returnType := some .boolean }, accessFlags := 9, code := some k14c1 }
def k14c2 : Code := { maxStack := 4, maxLocals := 1, code := jdk_43_method_46_code, exceptionTable := #[], attributes := #[] }
def k14m2 : Method := { name := "toBytes", desc := "(C)[B", sig := { parameters := [.char], returnType := some (.array .byte) }, accessFlags := 9, code := some k14c2 }
/-- java/lang/StringLatin1 -/
def k14 : Class := { plain "java/lang/StringLatin1" (some 0) with
  accessFlags := 48
  interfaces := #[]
  cf := some (fileOf pool14 14 #[.nestMembers #[390, 221]] #[{ accessFlags := 0, nameIndex := 7, descriptorIndex := 8, attributes := #[] }, { accessFlags := 9, nameIndex := 90, descriptorIndex := 105, attributes := #[] }, { accessFlags := 9, nameIndex := 380, descriptorIndex := 382, attributes := #[] }] 48 4 #[] #[{ accessFlags := 4120, nameIndex := 121, descriptorIndex := 122, attributes := #[] }])
  fields := #[{ name := "$assertionsDisabled", type := .boolean, accessFlags := 4120, slot := 0, constantValue := 0 }]
  methods := #[k14m0, k14m1, k14m2]
  instanceTypes := #[]
  staticTypes := #[.boolean]
  resolved := Array.replicate 395 none
  statics := none }

def pool15 : Array CpInfo := pool [(2, .class_ 4), (1, u "java/lang/Object"), (0, u "<init>"), (0, u "()V"), (12, .class_ 20), (0, u "java/util/Collections"), (63, u "r"), (0, u "Ljava/util/Random;"), (80, .class_ 167), (0, u "java/util/Collections$UnmodifiableCollection"), (6, .class_ 175), (0, u "java/util/Collections$UnmodifiableSequencedCollection"), (6, .class_ 183), (0, u "java/util/Collections$UnmodifiableSet"), (6, .class_ 191), (0, u "java/util/Collections$UnmodifiableSequencedSet"), (6, .class_ 199), (0, u "java/util/Collections$UnmodifiableSortedSet"), (6, .class_ 207), (0, u "java/util/Collections$UnmodifiableNavigableSet"), (4, .class_ 213), (0, u "java/util/Collections$UnmodifiableList"), (1, .class_ 216), (0, u "java/util/Collections$UnmodifiableRandomAccessList"), (6, .class_ 224), (0, u "java/util/Collections$UnmodifiableMap"), (6, .class_ 232), (0, u "java/util/Collections$UnmodifiableSequencedMap"), (4, .class_ 238), (0, u "java/util/Collections$UnmodifiableSortedMap"), (6, .class_ 246), (0, u "java/util/Collections$UnmodifiableNavigableMap"), (3, .class_ 251), (0, u "java/util/Collections$SynchronizedCollection"), (4, .class_ 257), (0, u "java/util/Collections$SynchronizedSet"), (4, .class_ 263), (0, u "java/util/Collections$SynchronizedSortedSet"), (1, .class_ 266), (0, u "java/util/Collections$SynchronizedNavigableSet"), (1, .class_ 269), (0, u "java/util/Collections$SynchronizedRandomAccessList"), (1, .class_ 272), (0, u "java/util/Collections$SynchronizedList"), (5, .class_ 279), (0, u "java/util/Collections$SynchronizedMap"), (1, .class_ 282), (0, u "java/util/Collections$SynchronizedSortedMap"), (1, .class_ 285), (0, u "java/util/Collections$SynchronizedNavigableMap"), (1, .class_ 288), (0, u "java/util/Collections$CheckedCollection"), (11, .class_ 301), (0, u "java/util/Collections$CheckedQueue"), (3, .class_ 306), (0, u "java/util/Collections$CheckedSet"), (3, .class_ 311), (0, u "java/util/Collections$CheckedSortedSet"), (3, .class_ 316), (0, u "java/util/Collections$CheckedNavigableSet"), (3, .class_ 321), (0, u "java/util/Collections$CheckedRandomAccessList"), (3, .class_ 326), (0, u "java/util/Collections$CheckedList"), (1, .class_ 329), (0, u "java/util/Collections$CheckedMap"), (3, .class_ 334), (0, u "java/util/Collections$CheckedSortedMap"), (3, .class_ 339), (0, u "java/util/Collections$CheckedNavigableMap"), (4, .class_ 346), (1, u "java/util/Collections$EmptyIterator"), (3, .class_ 352), (1, u "java/util/Collections$EmptyListIterator"), (2, .class_ 357), (1, u "java/util/Collections$EmptyEnumeration"), (4, u "EMPTY_SET"), (0, u "Ljava/util/Set;"), (6, u "EMPTY_LIST"), (0, u "Ljava/util/List;"), (2, u "EMPTY_MAP"), (0, u "Ljava/util/Map;"), (4, .class_ 381), (0, u "java/util/Collections$SingletonSet"), (2, .class_ 385), (0, u "java/util/Collections$1"), (1, .class_ 388), (0, u "java/util/Collections$2"), (1, .class_ 391), (0, u "java/util/Collections$SingletonList"), (1, .class_ 394), (0, u "java/util/Collections$SingletonMap"), (22, .class_ 418), (0, u "java/util/Collections$CopiesList"), (4, .class_ 425), (1, u "java/util/Collections$ReverseComparator"), (8, .class_ 435), (0, u "java/util/Collections$ReverseComparator2"), (6, .class_ 443), (0, u "java/util/Collections$3"), (25, .class_ 470), (0, u "java/util/Collections$SetFromMap"), (2, .class_ 474), (0, u "java/util/Collections$SequencedSetFromMap"), (3, .class_ 479), (0, u "java/util/Collections$AsLIFOQueue"), (11, .class_ 492), (0, u "java/util/Collections$EmptySet"), (1, .class_ 495), (0, u "java/util/Collections$EmptyList"), (1, .class_ 498), (0, u "java/util/Collections$EmptyMap"), (1, u "BINARYSEARCH_THRESHOLD"), (0, u "I"), (2, u "REVERSE_THRESHOLD"), (1, u "SHUFFLE_THRESHOLD"), (1, u "FILL_THRESHOLD"), (1, u "ROTATE_THRESHOLD"), (1, u "COPY_THRESHOLD"), (1, u "REPLACEALL_THRESHOLD"), (1, u "INDEXOFSUBLIST_THRESHOLD"), (333, .class_ 851), (0, u "java/util/Collections$CheckedMap$CheckedEntrySet"), (0, .class_ 853), (0, u "java/util/Collections$CheckedMap$CheckedEntrySet$CheckedEntry"), (0, .class_ 855), (0, u "java/util/Collections$CheckedMap$CheckedEntrySet$1"), (0, .class_ 857), (0, u "java/util/Collections$CheckedList$1"), (0, .class_ 859), (0, u "java/util/Collections$CheckedCollection$1"), (0, .class_ 861), (0, u "java/util/Collections$UnmodifiableNavigableMap$EmptyNavigableMap"), (0, .class_ 863), (0, u "java/util/Collections$UnmodifiableMap$UnmodifiableEntrySet"), (0, .class_ 865), (0, u "java/util/Collections$UnmodifiableMap$UnmodifiableEntrySet$UnmodifiableEntry"), (0, .class_ 867), (0, u "java/util/Collections$UnmodifiableMap$UnmodifiableEntrySet$UnmodifiableEntrySetSpliterator"), (0, .class_ 869), (0, u "java/util/Collections$UnmodifiableMap$UnmodifiableEntrySet$1"), (0, .class_ 871), (0, u "java/util/Collections$UnmodifiableList$1"), (0, .class_ 873), (0, u "java/util/Collections$UnmodifiableNavigableSet$EmptyNavigableSet"), (0, .class_ 875), (0, u "java/util/Collections$UnmodifiableCollection$1")] 57

def k15m0 : Method := { name := "<init>", desc := "()V", sig := { parameters := [], returnType := none }, accessFlags := 2, code := none }
/-- java/util/Collections -/
def k15 : Class := { plain "java/util/Collections" (some 0) with
  accessFlags := 33
  interfaces := #[]
  cf := some (fileOf pool15 19 #[.nestMembers #[478, 473, 469, 434, 423, 417, 393, 390, 380, 497, 494, 491, 355, 350, 344, 338, 333, 328, 850, 852, 854, 320, 325, 856, 315, 310, 305, 300, 287, 858, 284, 281, 278, 268, 271, 265, 262, 256, 250, 245, 860, 237, 231, 223, 862, 864, 866, 868, 215, 212, 870, 206, 872, 198, 190, 182, 174, 166, 874, 442, 387, 384]] #[{ accessFlags := 2, nameIndex := 5, descriptorIndex := 6, attributes := #[] }] 33 2 #[] #[{ accessFlags := 26, nameIndex := 500, descriptorIndex := 501, attributes := #[] }, { accessFlags := 26, nameIndex := 504, descriptorIndex := 501, attributes := #[] }, { accessFlags := 26, nameIndex := 506, descriptorIndex := 501, attributes := #[] }, { accessFlags := 26, nameIndex := 508, descriptorIndex := 501, attributes := #[] }, { accessFlags := 26, nameIndex := 510, descriptorIndex := 501, attributes := #[] }, { accessFlags := 26, nameIndex := 512, descriptorIndex := 501, attributes := #[] }, { accessFlags := 26, nameIndex := 514, descriptorIndex := 501, attributes := #[] }, { accessFlags := 26, nameIndex := 516, descriptorIndex := 501, attributes := #[] }, { accessFlags := 10, nameIndex := 84, descriptorIndex := 85, attributes := #[] }, { accessFlags := 25, nameIndex := 362, descriptorIndex := 363, attributes := #[] }, { accessFlags := 25, nameIndex := 370, descriptorIndex := 371, attributes := #[] }, { accessFlags := 25, nameIndex := 374, descriptorIndex := 375, attributes := #[] }])
  fields := #[{ name := "BINARYSEARCH_THRESHOLD", type := .int, accessFlags := 26, slot := 0, constantValue := 0 }, { name := "REVERSE_THRESHOLD", type := .int, accessFlags := 26, slot := 1, constantValue := 0 }, { name := "SHUFFLE_THRESHOLD", type := .int, accessFlags := 26, slot := 2, constantValue := 0 }, { name := "FILL_THRESHOLD", type := .int, accessFlags := 26, slot := 3, constantValue := 0 }, { name := "ROTATE_THRESHOLD", type := .int, accessFlags := 26, slot := 4, constantValue := 0 }, { name := "COPY_THRESHOLD", type := .int, accessFlags := 26, slot := 5, constantValue := 0 }, { name := "REPLACEALL_THRESHOLD", type := .int, accessFlags := 26, slot := 6, constantValue := 0 }, { name := "INDEXOFSUBLIST_THRESHOLD", type := .int, accessFlags := 26, slot := 7, constantValue := 0 }, { name := "r", type := (.object "java/util/Random"), accessFlags := 10, slot := 8, constantValue := 0 }, { name := "EMPTY_SET", type := (.object "java/util/Set"), accessFlags := 25, slot := 9, constantValue := 0 }, { name := "EMPTY_LIST", type := (.object "java/util/List"), accessFlags := 25, slot := 10, constantValue := 0 }, { name := "EMPTY_MAP", type := (.object "java/util/Map"), accessFlags := 25, slot := 11, constantValue := 0 }]
  methods := #[k15m0]
  instanceTypes := #[]
  staticTypes := #[.int, .int, .int, .int, .int, .int, .int, .int, (.object "java/util/Random"), (.object "java/util/Set"), (.object "java/util/List"), (.object "java/util/Map")]
  resolved := Array.replicate 933 none
  statics := some 3 }

def pool16 : Array CpInfo := pool [(2, .class_ 4), (1, u "java/lang/Object"), (0, u "<init>"), (0, u "()V"), (17, .class_ 26), (1, u "jdk/internal/util/Preconditions"), (28, .class_ 56), (0, u "jdk/internal/util/Preconditions$4"), (57, .class_ 115), (0, u "jdk/internal/util/Preconditions$1"), (7, u "SIOOBE_FORMATTER"), (0, u "Ljava/util/function/BiFunction;"), (0, .class_ 126), (0, u "jdk/internal/util/Preconditions$2"), (3, u "AIOOBE_FORMATTER"), (0, .class_ 132), (0, u "jdk/internal/util/Preconditions$3"), (3, u "IOOBE_FORMATTER")] 57

def k16m0 : Method := { name := "<init>", desc := "()V", sig := { parameters := [], returnType := none }, accessFlags := 1, code := none }
/-- jdk/internal/util/Preconditions -/
def k16 : Class := { plain "jdk/internal/util/Preconditions" (some 0) with
  accessFlags := 33
  interfaces := #[]
  cf := some (fileOf pool16 24 #[.nestMembers #[55, 131, 125, 114]] #[{ accessFlags := 1, nameIndex := 5, descriptorIndex := 6, attributes := #[] }] 33 2 #[] #[{ accessFlags := 25, nameIndex := 123, descriptorIndex := 124, attributes := #[] }, { accessFlags := 25, nameIndex := 130, descriptorIndex := 124, attributes := #[] }, { accessFlags := 25, nameIndex := 136, descriptorIndex := 124, attributes := #[] }])
  fields := #[{ name := "SIOOBE_FORMATTER", type := (.object "java/util/function/BiFunction"), accessFlags := 25, slot := 0, constantValue := 0 }, { name := "AIOOBE_FORMATTER", type := (.object "java/util/function/BiFunction"), accessFlags := 25, slot := 1, constantValue := 0 }, { name := "IOOBE_FORMATTER", type := (.object "java/util/function/BiFunction"), accessFlags := 25, slot := 2, constantValue := 0 }]
  methods := #[k16m0]
  instanceTypes := #[]
  staticTypes := #[(.object "java/util/function/BiFunction"), (.object "java/util/function/BiFunction"), (.object "java/util/function/BiFunction")]
  resolved := Array.replicate 194 none
  statics := some 4 }

def pool17 : Array CpInfo := pool [(9, u "<init>"), (6, .class_ 18), (1, u "java/lang/Object"), (0, u "()V"), (1, .class_ 23), (1, u "jdk/internal/util/ArraysSupport"), (0, u "LOG2_ARRAY_LONG_INDEX_SCALE"), (0, u "I"), (2, u "U"), (0, u "Ljdk/internal/misc/Unsafe;"), (8, u "BIG_ENDIAN"), (0, u "Z"), (8, u "LOG2_BYTE_BIT_SIZE"), (4, u "LOG2_ARRAY_INT_INDEX_SCALE"), (54, u "JLA"), (0, u "Ljdk/internal/access/JavaLangAccess;"), (11, u "LOG2_ARRAY_BOOLEAN_INDEX_SCALE"), (9, u "LOG2_ARRAY_BYTE_INDEX_SCALE"), (5, u "LOG2_ARRAY_CHAR_INDEX_SCALE"), (5, u "LOG2_ARRAY_SHORT_INDEX_SCALE"), (18, u "LOG2_ARRAY_FLOAT_INDEX_SCALE"), (24, u "LOG2_ARRAY_DOUBLE_INDEX_SCALE"), (89, u "T_BOOLEAN"), (2, u "T_CHAR"), (1, u "T_FLOAT"), (1, u "T_DOUBLE"), (1, u "T_BYTE"), (1, u "T_SHORT"), (1, u "T_INT"), (1, u "T_LONG"), (1, u "SOFT_MAX_ARRAY_LENGTH")] 83

def k17m0 : Method := { name := "<init>", desc := "()V", sig := { parameters := [], returnType := none }, accessFlags := 2, code := none }
/-- jdk/internal/util/ArraysSupport -/
def k17 : Class := { plain "jdk/internal/util/ArraysSupport" (some 0) with
  accessFlags := 33
  interfaces := #[]
  cf := some (fileOf pool17 21 #[] #[{ accessFlags := 2, nameIndex := 9, descriptorIndex := 19, attributes := #[] }] 33 16 #[] #[{ accessFlags := 24, nameIndex := 28, descriptorIndex := 29, attributes := #[] }, { accessFlags := 26, nameIndex := 38, descriptorIndex := 39, attributes := #[] }, { accessFlags := 25, nameIndex := 121, descriptorIndex := 25, attributes := #[] }, { accessFlags := 25, nameIndex := 131, descriptorIndex := 25, attributes := #[] }, { accessFlags := 25, nameIndex := 137, descriptorIndex := 25, attributes := #[] }, { accessFlags := 25, nameIndex := 143, descriptorIndex := 25, attributes := #[] }, { accessFlags := 25, nameIndex := 53, descriptorIndex := 25, attributes := #[] }, { accessFlags := 25, nameIndex := 24, descriptorIndex := 25, attributes := #[] }, { accessFlags := 25, nameIndex := 162, descriptorIndex := 25, attributes := #[] }, { accessFlags := 25, nameIndex := 187, descriptorIndex := 25, attributes := #[] }, { accessFlags := 26, nameIndex := 48, descriptorIndex := 25, attributes := #[] }, { accessFlags := 25, nameIndex := 277, descriptorIndex := 25, attributes := #[] }, { accessFlags := 25, nameIndex := 280, descriptorIndex := 25, attributes := #[] }, { accessFlags := 25, nameIndex := 282, descriptorIndex := 25, attributes := #[] }, { accessFlags := 25, nameIndex := 284, descriptorIndex := 25, attributes := #[] }, { accessFlags := 25, nameIndex := 286, descriptorIndex := 25, attributes := #[] }, { accessFlags := 25, nameIndex := 288, descriptorIndex := 25, attributes := #[] }, { accessFlags := 25, nameIndex := 290, descriptorIndex := 25, attributes := #[] }, { accessFlags := 25, nameIndex := 292, descriptorIndex := 25, attributes := #[] }, { accessFlags := 26, nameIndex := 108, descriptorIndex := 109, attributes := #[] }, { accessFlags := 25, nameIndex := 294, descriptorIndex := 25, attributes := #[] }])
  fields := #[{ name := "U", type := (.object "jdk/internal/misc/Unsafe"), accessFlags := 24, slot := 0, constantValue := 0 }, { name := "BIG_ENDIAN", type := .boolean, accessFlags := 26, slot := 1, constantValue := 0 }, { name := "LOG2_ARRAY_BOOLEAN_INDEX_SCALE", type := .int, accessFlags := 25, slot := 2, constantValue := 0 }, { name := "LOG2_ARRAY_BYTE_INDEX_SCALE", type := .int, accessFlags := 25, slot := 3, constantValue := 0 }, { name := "LOG2_ARRAY_CHAR_INDEX_SCALE", type := .int, accessFlags := 25, slot := 4, constantValue := 0 }, { name := "LOG2_ARRAY_SHORT_INDEX_SCALE", type := .int, accessFlags := 25, slot := 5, constantValue := 0 }, { name := "LOG2_ARRAY_INT_INDEX_SCALE", type := .int, accessFlags := 25, slot := 6, constantValue := 0 }, { name := "LOG2_ARRAY_LONG_INDEX_SCALE", type := .int, accessFlags := 25, slot := 7, constantValue := 0 }, { name := "LOG2_ARRAY_FLOAT_INDEX_SCALE", type := .int, accessFlags := 25, slot := 8, constantValue := 0 }, { name := "LOG2_ARRAY_DOUBLE_INDEX_SCALE", type := .int, accessFlags := 25, slot := 9, constantValue := 0 }, { name := "LOG2_BYTE_BIT_SIZE", type := .int, accessFlags := 26, slot := 10, constantValue := 0 }, { name := "T_BOOLEAN", type := .int, accessFlags := 25, slot := 11, constantValue := 0 }, { name := "T_CHAR", type := .int, accessFlags := 25, slot := 12, constantValue := 0 }, { name := "T_FLOAT", type := .int, accessFlags := 25, slot := 13, constantValue := 0 }, { name := "T_DOUBLE", type := .int, accessFlags := 25, slot := 14, constantValue := 0 }, { name := "T_BYTE", type := .int, accessFlags := 25, slot := 15, constantValue := 0 }, { name := "T_SHORT", type := .int, accessFlags := 25, slot := 16, constantValue := 0 }, { name := "T_INT", type := .int, accessFlags := 25, slot := 17, constantValue := 0 }, { name := "T_LONG", type := .int, accessFlags := 25, slot := 18, constantValue := 0 }, { name := "JLA", type := (.object "jdk/internal/access/JavaLangAccess"), accessFlags := 26, slot := 19, constantValue := 0 }, { name := "SOFT_MAX_ARRAY_LENGTH", type := .int, accessFlags := 25, slot := 20, constantValue := 0 }]
  methods := #[k17m0]
  instanceTypes := #[]
  staticTypes := #[(.object "jdk/internal/misc/Unsafe"), .boolean, .int, .int, .int, .int, .int, .int, .int, .int, .int, .int, .int, .int, .int, .int, .int, .int, .int, (.object "jdk/internal/access/JavaLangAccess"), .int]
  resolved := Array.replicate 378 none
  statics := none }

def pool18 : Array CpInfo := pool [(8, .class_ 10), (1, u "java/lang/Iterable"), (24, .class_ 36), (0, u "java/lang/Object")] 25

/-- java/lang/Iterable -/
def k18 : Class := { plain "java/lang/Iterable" (some 0) with
  accessFlags := 1537
  interfaces := #[]
  cf := some (fileOf pool18 8 #[] #[] 1537 35 #[] #[])
  fields := #[]
  methods := #[]
  instanceTypes := #[]
  staticTypes := #[]
  resolved := Array.replicate 62 none
  statics := none }

def pool19 : Array CpInfo := pool [(10, .class_ 12), (1, u "java/util/Collection"), (47, .class_ 61), (0, u "java/lang/Object"), (0, .class_ 63), (0, u "java/lang/Iterable")] 51

/-- java/util/Collection -/
def k19 : Class := { plain "java/util/Collection" (some 0) with
  accessFlags := 1537
  interfaces := #[18]
  cf := some (fileOf pool19 10 #[] #[] 1537 60 #[62] #[])
  fields := #[]
  methods := #[]
  instanceTypes := #[]
  staticTypes := #[]
  resolved := Array.replicate 115 none
  statics := none }

def pool20 : Array CpInfo := pool [(2, .class_ 4), (1, u "java/lang/Object"), (0, u "<init>"), (0, u "()V"), (1, .class_ 10), (1, u "java/util/AbstractCollection"), (66, .class_ 78), (0, u "java/util/Collection")] 81

def k20m0 : Method := { name := "<init>", desc := "()V", sig := { parameters := [], returnType := none }, accessFlags := 4, code := none }
/-- java/util/AbstractCollection -/
def k20 : Class := { plain "java/util/AbstractCollection" (some 0) with
  accessFlags := 1057
  interfaces := #[19]
  cf := some (fileOf pool20 8 #[] #[{ accessFlags := 4, nameIndex := 5, descriptorIndex := 6, attributes := #[] }] 1057 2 #[77] #[])
  fields := #[]
  methods := #[k20m0]
  instanceTypes := #[]
  staticTypes := #[]
  resolved := Array.replicate 160 none
  statics := none }

def pool21 : Array CpInfo := pool [(8, .class_ 10), (1, u "java/util/SequencedCollection"), (15, .class_ 27), (0, u "java/lang/Object"), (0, .class_ 29), (0, u "java/util/Collection")] 27

/-- java/util/SequencedCollection -/
def k21 : Class := { plain "java/util/SequencedCollection" (some 0) with
  accessFlags := 1537
  interfaces := #[19]
  cf := some (fileOf pool21 8 #[] #[] 1537 26 #[28] #[])
  fields := #[]
  methods := #[]
  instanceTypes := #[]
  staticTypes := #[]
  resolved := Array.replicate 57 none
  statics := none }

def pool22 : Array CpInfo := pool [(8, .class_ 10), (1, u "java/util/List"), (92, .class_ 104), (0, u "java/lang/Object"), (15, .class_ 121), (0, u "java/util/SequencedCollection")] 129

/-- java/util/List -/
def k22 : Class := { plain "java/util/List" (some 0) with
  accessFlags := 1537
  interfaces := #[21]
  cf := some (fileOf pool22 8 #[] #[] 1537 103 #[120] #[])
  fields := #[]
  methods := #[]
  instanceTypes := #[]
  staticTypes := #[]
  resolved := Array.replicate 251 none
  statics := none }

def pool23 : Array CpInfo := pool [(2, .class_ 4), (1, u "java/util/AbstractCollection"), (0, u "<init>"), (0, u "()V"), (1, .class_ 10), (1, u "java/util/AbstractList"), (0, u "modCount"), (0, u "I"), (64, .class_ 78), (0, u "java/util/AbstractList$Itr"), (3, .class_ 83), (0, u "java/util/AbstractList$ListItr"), (9, .class_ 94), (0, u "java/util/AbstractList$RandomAccessSubList"), (3, .class_ 99), (0, u "java/util/AbstractList$SubList"), (33, .class_ 134), (0, u "java/util/List"), (73, .class_ 209), (0, u "java/util/AbstractList$SubList$1"), (0, .class_ 211), (0, u "java/util/AbstractList$RandomAccessSpliterator")] 6

def k23m0 : Method := { name := "<init>", desc := "()V", sig := { parameters := [], returnType := none }, accessFlags := 4, code := none }
/-- java/util/AbstractList -/
def k23 : Class := { plain "java/util/AbstractList" (some 20) with
  accessFlags := 1057
  interfaces := #[22]
  cf := some (fileOf pool23 8 #[.nestMembers #[93, 98, 208, 210, 82, 77]] #[{ accessFlags := 4, nameIndex := 5, descriptorIndex := 6, attributes := #[] }] 1057 2 #[133] #[{ accessFlags := 132, nameIndex := 11, descriptorIndex := 12, attributes := #[] }])
  fields := #[{ name := "modCount", type := .int, accessFlags := 132, slot := 0, constantValue := 0 }]
  methods := #[k23m0]
  instanceTypes := #[.int]
  staticTypes := #[]
  resolved := Array.replicate 218 none
  statics := none }

def pool24 : Array CpInfo := pool [(1, .class_ 2), (0, u "java/util/RandomAccess"), (0, .class_ 4), (0, u "java/lang/Object")] 2

/-- java/util/RandomAccess -/
def k24 : Class := { plain "java/util/RandomAccess" (some 0) with
  accessFlags := 1537
  interfaces := #[]
  cf := some (fileOf pool24 1 #[] #[] 1537 3 #[] #[])
  fields := #[]
  methods := #[]
  instanceTypes := #[]
  staticTypes := #[]
  resolved := Array.replicate 7 none
  statics := none }

def pool25 : Array CpInfo := pool [(2, .class_ 4), (1, u "java/util/AbstractList"), (0, u "<init>"), (0, u "()V"), (1, .class_ 10), (1, u "java/util/Collections"), (54, .class_ 66), (0, u "java/util/Collections$EmptyList"), (0, .class_ 68), (0, u "java/util/RandomAccess"), (0, .class_ 70), (0, u "java/io/Serializable"), (0, u "serialVersionUID"), (0, u "J")] 77

def k25m0 : Method := { name := "<init>", desc := "()V", sig := { parameters := [], returnType := none }, accessFlags := 2, code := none }
/-- java/util/Collections$EmptyList -/
def k25 : Class := { plain "java/util/Collections$EmptyList" (some 23) with
  accessFlags := 32
  interfaces := #[24, 2]
  cf := some (fileOf pool25 65 #[.nestHost 8] #[{ accessFlags := 2, nameIndex := 5, descriptorIndex := 6, attributes := #[] }] 32 2 #[67, 69] #[{ accessFlags := 26, nameIndex := 71, descriptorIndex := 72, attributes := #[] }])
  fields := #[{ name := "serialVersionUID", type := .long, accessFlags := 26, slot := 0, constantValue := 0 }]
  methods := #[k25m0]
  instanceTypes := #[.int]
  staticTypes := #[.long]
  resolved := Array.replicate 150 none
  statics := none }

def pool26 : Array CpInfo := pool [(2, .class_ 4), (1, u "java/lang/StackTraceElement"), (0, u "<init>"), (2, .class_ 10), (1, u "java/lang/Object"), (0, u "()V"), (2, u "format"), (0, u "B"), (2, u "classLoaderName"), (0, u "Ljava/lang/String;"), (2, u "moduleName"), (2, u "moduleVersion"), (12, u "declaringClass"), (4, u "methodName"), (2, u "fileName"), (2, u "lineNumber"), (0, u "I"), (65, u "declaringClassObject"), (0, u "Ljava/lang/Class;"), (33, .class_ 153), (1, u "java/lang/StackTraceElement$HashedModules"), (17, .class_ 172), (0, u "java/io/Serializable"), (0, u "NATIVE_METHOD"), (1, u "UNKNOWN_SOURCE"), (2, u "BUILTIN_CLASS_LOADER"), (1, u "JDK_NON_UPGRADEABLE_MODULE"), (1, u "serialVersionUID"), (0, u "J")] 51

def k26m0 : Method := { name := "<init>", desc := "()V", sig := { parameters := [], returnType := none }, accessFlags := 2, code := none }
/-- java/lang/StackTraceElement -/
def k26 : Class := { plain "java/lang/StackTraceElement" (some 0) with
  accessFlags := 49
  interfaces := #[2]
  cf := some (fileOf pool26 2 #[.nestMembers #[151]] #[{ accessFlags := 2, nameIndex := 5, descriptorIndex := 11, attributes := #[] }] 49 8 #[171] #[{ accessFlags := 26, nameIndex := 173, descriptorIndex := 19, attributes := #[] }, { accessFlags := 26, nameIndex := 175, descriptorIndex := 19, attributes := #[] }, { accessFlags := 130, nameIndex := 116, descriptorIndex := 117, attributes := #[] }, { accessFlags := 2, nameIndex := 18, descriptorIndex := 19, attributes := #[] }, { accessFlags := 2, nameIndex := 22, descriptorIndex := 19, attributes := #[] }, { accessFlags := 2, nameIndex := 25, descriptorIndex := 19, attributes := #[] }, { accessFlags := 2, nameIndex := 38, descriptorIndex := 19, attributes := #[] }, { accessFlags := 2, nameIndex := 43, descriptorIndex := 19, attributes := #[] }, { accessFlags := 2, nameIndex := 46, descriptorIndex := 19, attributes := #[] }, { accessFlags := 2, nameIndex := 49, descriptorIndex := 50, attributes := #[] }, { accessFlags := 2, nameIndex := 14, descriptorIndex := 15, attributes := #[] }, { accessFlags := 26, nameIndex := 178, descriptorIndex := 15, attributes := #[] }, { accessFlags := 26, nameIndex := 180, descriptorIndex := 15, attributes := #[] }, { accessFlags := 26, nameIndex := 182, descriptorIndex := 183, attributes := #[] }])
  fields := #[{ name := "NATIVE_METHOD", type := (.object "java/lang/String"), accessFlags := 26, slot := 0, constantValue := 0 }, { name := "UNKNOWN_SOURCE", type := (.object "java/lang/String"), accessFlags := 26, slot := 1, constantValue := 0 }, { name := "declaringClassObject", type := (.object "java/lang/Class"), accessFlags := 130, slot := 0, constantValue := 0 }, { name := "classLoaderName", type := (.object "java/lang/String"), accessFlags := 2, slot := 1, constantValue := 0 }, { name := "moduleName", type := (.object "java/lang/String"), accessFlags := 2, slot := 2, constantValue := 0 }, { name := "moduleVersion", type := (.object "java/lang/String"), accessFlags := 2, slot := 3, constantValue := 0 }, { name := "declaringClass", type := (.object "java/lang/String"), accessFlags := 2, slot := 4, constantValue := 0 }, { name := "methodName", type := (.object "java/lang/String"), accessFlags := 2, slot := 5, constantValue := 0 }, { name := "fileName", type := (.object "java/lang/String"), accessFlags := 2, slot := 6, constantValue := 0 }, { name := "lineNumber", type := .int, accessFlags := 2, slot := 7, constantValue := 0 }, { name := "format", type := .byte, accessFlags := 2, slot := 8, constantValue := 0 }, { name := "BUILTIN_CLASS_LOADER", type := .byte, accessFlags := 26, slot := 2, constantValue := 0 }, { name := "JDK_NON_UPGRADEABLE_MODULE", type := .byte, accessFlags := 26, slot := 3, constantValue := 0 }, { name := "serialVersionUID", type := .long, accessFlags := 26, slot := 4, constantValue := 0 }]
  methods := #[k26m0]
  instanceTypes := #[(.object "java/lang/Class"), (.object "java/lang/String"), (.object "java/lang/String"), (.object "java/lang/String"), (.object "java/lang/String"), (.object "java/lang/String"), (.object "java/lang/String"), .int, .byte]
  staticTypes := #[(.object "java/lang/String"), (.object "java/lang/String"), .byte, .byte, .long]
  resolved := Array.replicate 235 none
  statics := none }

def pool27 : Array CpInfo := pool [(1, u "java/lang/Cloneable"), (0, .class_ 1), (0, u "java/lang/Object"), (0, .class_ 3)] 3

/-- java/lang/Cloneable -/
def k27 : Class := { plain "java/lang/Cloneable" (some 0) with
  accessFlags := 1537
  interfaces := #[]
  cf := some (fileOf pool27 2 #[] #[] 1537 4 #[] #[])
  fields := #[]
  methods := #[]
  instanceTypes := #[]
  staticTypes := #[]
  resolved := Array.replicate 8 none
  statics := none }

/-- the primitive byte -/
def k28 : Class := { plain "byte" none with kind := .primitive 'B', accessFlags := 0x411 }
/-- [B -/
def k29 : Class := { plain "[B" (some 0) with kind := .array 28 .byte, interfaces := #[27, 2], accessFlags := 1041 }

/-- the primitive char -/
def k30 : Class := { plain "char" none with kind := .primitive 'C', accessFlags := 0x411 }
/-- [C -/
def k31 : Class := { plain "[C" (some 0) with kind := .array 30 .char, interfaces := #[27, 2], accessFlags := 1041 }

/-- the primitive int -/
def k32 : Class := { plain "int" none with kind := .primitive 'I', accessFlags := 0x411 }
/-- [I -/
def k33 : Class := { plain "[I" (some 0) with kind := .array 32 .int, interfaces := #[27, 2], accessFlags := 1041 }

/-- [Ljava/lang/Object; -/
def k34 : Class := { plain "[Ljava/lang/Object;" (some 0) with kind := .array 0 (.object "java/lang/Object"), interfaces := #[27, 2], accessFlags := 1041 }

/-- [Ljava/lang/StackTraceElement; -/
def k35 : Class := { plain "[Ljava/lang/StackTraceElement;" (some 0) with kind := .array 26 (.object "java/lang/StackTraceElement"), interfaces := #[27, 2], accessFlags := 1041 }

/-- [Ljava/lang/Throwable; -/
def k36 : Class := { plain "[Ljava/lang/Throwable;" (some 0) with kind := .array 3 (.object "java/lang/Throwable"), interfaces := #[27, 2], accessFlags := 1041 }

def heap : Heap := #[{ cls := 3, slots := #[.long 0, .ref 6, .ref 7, .null, .null, .null, .null, .ref 8, .int 1], vm := .statics 3 },
  { cls := 9, slots := #[.null, .null, .null, .ref 5, .null], vm := .statics 9 },
  { cls := 12, slots := #[.long 0, .int 1, .null, .int 0, .null, .int 0, .int 0], vm := .statics 12 },
  { cls := 15, slots := #[.int 0, .int 0, .int 0, .int 0, .int 0, .int 0, .int 0, .int 0, .null, .null, .ref 7, .null], vm := .statics 15 },
  { cls := 16, slots := #[.null, .null, .null], vm := .statics 16 },
  { cls := 9, slots := #[.null, .int 0, .int 0], vm := .none },
  { cls := 35, slots := #[], vm := .none },
  { cls := 25, slots := #[.int 0], vm := .none },
  { cls := 36, slots := #[], vm := .none }]
def classes : Array Class := #[k0, k1, k2, k3, k4, k5, k6, k7, k8, k9, k10, k11, k12, k13, k14, k15, k16, k17, k18, k19, k20, k21, k22, k23, k24, k25, k26, k27, k28, k29, k30, k31, k32, k33, k34, k35, k36]
def interned : List (Array UInt16 × Addr) := []
def slotsUsed : Nat := 40
def theMethod : MethodId := ⟨1, 1⟩
def args0 : Array Value := #[.int 3, .int 65, .int 66, .int 67]
def aboutOver (below : List Frame) : State where
  vm := { classes := classes, interned := interned.toArray }
  heap := heap
  slotsUsed := slotsUsed
  threads := #[{ frames := .invoking theMethod args0 :: below }]
def below0 : List Frame := [.native { method := ⟨0, 0⟩, args := #[] }]
def about1 : State := aboutOver below0
def p0 : Program := .bare "" "" ""
def e0 : Env := launch0.env 0 0 0
theorem w_frames : about1.frames = Frame.invoking theMethod args0 :: below0 := rfl
set_option maxRecDepth 65536 in
theorem w_args : argsFit about1.vm theMethod args0 = true := by decide +kernel
set_option maxRecDepth 65536 in
theorem w_heap : heapFits about1 = true := by decide +kernel
set_option maxRecDepth 65536 in
theorem w_runnable : about1.curStatus? = some .runnable := by decide +kernel
set_option maxRecDepth 65536 in
theorem w_alone : about1.alone = true := by decide +kernel
set_option maxRecDepth 65536 in
theorem w_named : about1.methodNamed? x = some theMethod := by decide +kernel
set_option maxRecDepth 65536 in
theorem w_hears : about1.hears theMethod below0 = true := by decide +kernel
set_option maxRecDepth 65536 in
theorem w_ripe : about1.ripe theMethod args0 below0 = true := by decide +kernel
theorem w_running : about1.status = .running := rfl
set_option maxRecDepth 65536 in
theorem w_room : about1.hasRoom e0.platform room_1 = true :=
  launch0.hasRoom_least _ room_1 (by decide +kernel) (by decide +kernel) (by decide +kernel) (by decide +kernel) (by decide +kernel) (by decide +kernel)
theorem allAtoms_all (ts : List Jvm.Cond) (a : Array Jvm.Value) (st : Jvm.State) : (allAtoms ts).before a st = ts.all (fun c => c.before a st) := by
  induction ts with
  | nil => rfl
  | cons c t ih =>
    show (Jvm.Cond.and c (allAtoms t)).before a st = _
    rw [Jvm.Cond.before_and, ih, List.all_cons]
def words1 : List Jvm.Cond := Jvm.Cond.code x code maxLocals ret :: tables_1
/-- a 'code' word, met by the world's own term for the bytes: nothing is compared byte by byte -/
theorem code_word {y : MethodName} {bytes : ByteArray} {mx : Nat} {rt : Option FieldType} {a : Array Value} {s : State} {m : MethodId} {meth : Method} {c : Code} (h1 : s.methodNamed? y = some m) (h2 : s.vm.method? m = some meth) (h3 : meth.code = some c) (h4 : c.code = bytes)
    (h5 : (c.maxLocals == mx && c.exceptionTable.isEmpty && decide (c.maxStack ≤ mostOperands) && decide (meth.sig.returnType = rt) && !meth.locks && decide (parseMethodDescriptor y.desc = some meth.sig)) = true) : (Jvm.Cond.code y bytes mx rt).before a s = true := by
  simp only [Bool.and_eq_true, beq_iff_eq, Bool.not_eq_true', decide_eq_true_eq] at h5
  obtain ⟨⟨⟨⟨⟨g1, g2⟩, g3⟩, g4⟩, g5⟩, g6⟩ := h5
  simp [Cond.before, Cond.holds, Cond.value, h1, h2, h3, h4, g1, g2, g3, g4, g5, g6]
def isCode : Jvm.Cond → Bool
  | .code _ _ _ _ => true
  | _ => false
theorem all_split {L : List Jvm.Cond} {P : Jvm.Cond → Bool} (h1 : L.all (fun c => isCode c || P c) = true) (h2 : ∀ c ∈ L.filter isCode, P c = true) : L.all P = true := by
  refine List.all_eq_true.mpr fun c hc => ?_
  have h := List.all_eq_true.mp h1 c hc
  rcases Bool.eq_false_or_eq_true (isCode c) with hi | hi
  · exact h2 c (List.mem_filter.mpr ⟨hc, hi⟩)
  · simpa [hi] using h
set_option maxRecDepth 65536 in
theorem w_c0 : (Jvm.Cond.code x code maxLocals ret).before args0 about1 = true := code_word (m := ⟨1, 1⟩) (meth := k1m1) (c := k1c1) (by decide +kernel) rfl rfl rfl (by decide +kernel)
set_option maxRecDepth 65536 in
theorem w_c1 : (Jvm.Cond.code ({ cls := "com/example/idpd/idpd/RefusedMessageException", name := "expired", desc := "(Ljava/lang/String;)Lcom/example/idpd/idpd/RefusedMessageException;" } : Jvm.MethodName) prog_18_method_8_code (1 : Nat) (Option.some (Jvm.ClassFile.FieldType.object "com/example/idpd/idpd/RefusedMessageException"))).before args0 about1 = true := code_word (m := ⟨5, 1⟩) (meth := k5m1) (c := k5c1) (by decide +kernel) rfl rfl rfl (by decide +kernel)
set_option maxRecDepth 65536 in
theorem w_c2 : (Jvm.Cond.code ({ cls := "com/example/idpd/idpd/RefusedMessageException", name := "<init>", desc := "(Lcom/example/idpd/idpd/RefusedMessageException$Kind;Ljava/lang/String;)V" } : Jvm.MethodName) prog_18_method_1_code (3 : Nat) (Option.none : Option Jvm.ClassFile.FieldType)).before args0 about1 = true := code_word (m := ⟨5, 0⟩) (meth := k5m0) (c := k5c0) (by decide +kernel) rfl rfl rfl (by decide +kernel)
set_option maxRecDepth 65536 in
theorem w_c3 : (Jvm.Cond.code ({ cls := "java/lang/Exception", name := "<init>", desc := "(Ljava/lang/String;)V" } : Jvm.MethodName) jdk_59_method_2_code (2 : Nat) (Option.none : Option Jvm.ClassFile.FieldType)).before args0 about1 = true := code_word (m := ⟨4, 1⟩) (meth := k4m1) (c := k4c1) (by decide +kernel) rfl rfl rfl (by decide +kernel)
set_option maxRecDepth 65536 in
theorem w_c4 : (Jvm.Cond.code ({ cls := "java/lang/Throwable", name := "<init>", desc := "(Ljava/lang/String;)V" } : Jvm.MethodName) jdk_78_method_2_code (2 : Nat) (Option.none : Option Jvm.ClassFile.FieldType)).before args0 about1 = true := code_word (m := ⟨3, 1⟩) (meth := k3m1) (c := k3c1) (by decide +kernel) rfl rfl rfl (by decide +kernel)
set_option maxRecDepth 65536 in
theorem w_c5 : (Jvm.Cond.code ({ cls := "java/lang/Object", name := "<init>", desc := "()V" } : Jvm.MethodName) object_method_1_code (1 : Nat) (Option.none : Option Jvm.ClassFile.FieldType)).before args0 about1 = true := code_word (m := ⟨0, 0⟩) (meth := k0m0) (c := k0c0) (by decide +kernel) rfl rfl rfl (by decide +kernel)
set_option maxRecDepth 65536 in
theorem w_c6 : (Jvm.Cond.code ({ cls := "java/lang/Throwable", name := "<init>", desc := "()V" } : Jvm.MethodName) jdk_78_method_1_code (1 : Nat) (Option.none : Option Jvm.ClassFile.FieldType)).before args0 about1 = true := code_word (m := ⟨3, 0⟩) (meth := k3m0) (c := k3c0) (by decide +kernel) rfl rfl rfl (by decide +kernel)
set_option maxRecDepth 65536 in
theorem w_c7 : (Jvm.Cond.code ({ cls := "com/example/idpd/idpd/RefusedMessageException", name := "kind", desc := "()Lcom/example/idpd/idpd/RefusedMessageException$Kind;" } : Jvm.MethodName) prog_18_method_9_code (1 : Nat) (Option.some (Jvm.ClassFile.FieldType.object "com/example/idpd/idpd/RefusedMessageException$Kind"))).before args0 about1 = true := code_word (m := ⟨5, 2⟩) (meth := k5m2) (c := k5c2) (by decide +kernel) rfl rfl rfl (by decide +kernel)
set_option maxRecDepth 65536 in
theorem w_c8 : (Jvm.Cond.code ({ cls := "java/lang/String", name := "<init>", desc := "([C)V" } : Jvm.MethodName) jdk_42_method_3_code (2 : Nat) (Option.none : Option Jvm.ClassFile.FieldType)).before args0 about1 = true := code_word (m := ⟨12, 1⟩) (meth := k12m1) (c := k12c1) (by decide +kernel) rfl rfl rfl (by decide +kernel)
set_option maxRecDepth 65536 in
theorem w_c9 : (Jvm.Cond.code ({ cls := "java/lang/String", name := "<init>", desc := "([CIILjava/lang/Void;)V" } : Jvm.MethodName) jdk_42_method_149_code (6 : Nat) (Option.none : Option Jvm.ClassFile.FieldType)).before args0 about1 = true := code_word (m := ⟨12, 3⟩) (meth := k12m3) (c := k12c3) (by decide +kernel) rfl rfl rfl (by decide +kernel)
set_option maxRecDepth 65536 in
theorem w_c10 : (Jvm.Cond.code ({ cls := "java/lang/StringUTF16", name := "compress", desc := "([CII)[B" } : Jvm.MethodName) jdk_52_method_16_code (6 : Nat) (Option.some (Jvm.ClassFile.FieldType.array Jvm.ClassFile.FieldType.byte))).before args0 about1 = true := code_word (m := ⟨13, 2⟩) (meth := k13m2) (c := k13c2) (by decide +kernel) rfl rfl rfl (by decide +kernel)
set_option maxRecDepth 65536 in
theorem w_c11 : (Jvm.Cond.code ({ cls := "java/lang/StringUTF16", name := "compress", desc := "([CI[BII)I" } : Jvm.MethodName) jdk_52_method_21_code (7 : Nat) (Option.some Jvm.ClassFile.FieldType.int)).before args0 about1 = true := code_word (m := ⟨13, 3⟩) (meth := k13m3) (c := k13c3) (by decide +kernel) rfl rfl rfl (by decide +kernel)
set_option maxRecDepth 65536 in
theorem w_c12 : (Jvm.Cond.code ({ cls := "java/lang/StringUTF16", name := "coderFromArrayLen", desc := "([BI)B" } : Jvm.MethodName) jdk_52_method_15_code (2 : Nat) (Option.some Jvm.ClassFile.FieldType.byte)).before args0 about1 = true := code_word (m := ⟨13, 1⟩) (meth := k13m1) (c := k13c1) (by decide +kernel) rfl rfl rfl (by decide +kernel)
set_option maxRecDepth 65536 in
theorem w_c13 : (Jvm.Cond.code ({ cls := "java/lang/String", name := "valueOf", desc := "(C)Ljava/lang/String;" } : Jvm.MethodName) jdk_42_method_139_code (1 : Nat) (Option.some (Jvm.ClassFile.FieldType.object "java/lang/String"))).before args0 about1 = true := code_word (m := ⟨12, 2⟩) (meth := k12m2) (c := k12c2) (by decide +kernel) rfl rfl rfl (by decide +kernel)
set_option maxRecDepth 65536 in
theorem w_c14 : (Jvm.Cond.code ({ cls := "java/lang/StringLatin1", name := "canEncode", desc := "(C)Z" } : Jvm.MethodName) jdk_43_method_3_code (1 : Nat) (Option.some Jvm.ClassFile.FieldType.boolean)).before args0 about1 = true := code_word (m := ⟨14, 1⟩) (meth := k14m1) (c := k14c1) (by decide +kernel) rfl rfl rfl (by decide +kernel)
set_option maxRecDepth 65536 in
theorem w_c15 : (Jvm.Cond.code ({ cls := "java/lang/StringLatin1", name := "toBytes", desc := "(C)[B" } : Jvm.MethodName) jdk_43_method_46_code (1 : Nat) (Option.some (Jvm.ClassFile.FieldType.array Jvm.ClassFile.FieldType.byte))).before args0 about1 = true := code_word (m := ⟨14, 2⟩) (meth := k14m2) (c := k14c2) (by decide +kernel) rfl rfl rfl (by decide +kernel)
set_option maxRecDepth 65536 in
theorem w_c16 : (Jvm.Cond.code ({ cls := "java/lang/String", name := "<init>", desc := "([BB)V" } : Jvm.MethodName) jdk_42_method_151_code (3 : Nat) (Option.none : Option Jvm.ClassFile.FieldType)).before args0 about1 = true := code_word (m := ⟨12, 4⟩) (meth := k12m4) (c := k12c4) (by decide +kernel) rfl rfl rfl (by decide +kernel)
def codes1 : List Jvm.Cond := [Jvm.Cond.code x code maxLocals ret, Jvm.Cond.code ({ cls := "com/example/idpd/idpd/RefusedMessageException", name := "expired", desc := "(Ljava/lang/String;)Lcom/example/idpd/idpd/RefusedMessageException;" } : Jvm.MethodName) prog_18_method_8_code (1 : Nat) (Option.some (Jvm.ClassFile.FieldType.object "com/example/idpd/idpd/RefusedMessageException")), Jvm.Cond.code ({ cls := "com/example/idpd/idpd/RefusedMessageException", name := "<init>", desc := "(Lcom/example/idpd/idpd/RefusedMessageException$Kind;Ljava/lang/String;)V" } : Jvm.MethodName) prog_18_method_1_code (3 : Nat) (Option.none : Option Jvm.ClassFile.FieldType), Jvm.Cond.code ({ cls := "java/lang/Exception", name := "<init>", desc := "(Ljava/lang/String;)V" } : Jvm.MethodName) jdk_59_method_2_code (2 : Nat) (Option.none : Option Jvm.ClassFile.FieldType), Jvm.Cond.code ({ cls := "java/lang/Throwable", name := "<init>", desc := "(Ljava/lang/String;)V" } : Jvm.MethodName) jdk_78_method_2_code (2 : Nat) (Option.none : Option Jvm.ClassFile.FieldType), Jvm.Cond.code ({ cls := "java/lang/Object", name := "<init>", desc := "()V" } : Jvm.MethodName) object_method_1_code (1 : Nat) (Option.none : Option Jvm.ClassFile.FieldType), Jvm.Cond.code ({ cls := "java/lang/Throwable", name := "<init>", desc := "()V" } : Jvm.MethodName) jdk_78_method_1_code (1 : Nat) (Option.none : Option Jvm.ClassFile.FieldType), Jvm.Cond.code ({ cls := "com/example/idpd/idpd/RefusedMessageException", name := "kind", desc := "()Lcom/example/idpd/idpd/RefusedMessageException$Kind;" } : Jvm.MethodName) prog_18_method_9_code (1 : Nat) (Option.some (Jvm.ClassFile.FieldType.object "com/example/idpd/idpd/RefusedMessageException$Kind")), Jvm.Cond.code ({ cls := "java/lang/String", name := "<init>", desc := "([C)V" } : Jvm.MethodName) jdk_42_method_3_code (2 : Nat) (Option.none : Option Jvm.ClassFile.FieldType), Jvm.Cond.code ({ cls := "java/lang/String", name := "<init>", desc := "([CIILjava/lang/Void;)V" } : Jvm.MethodName) jdk_42_method_149_code (6 : Nat) (Option.none : Option Jvm.ClassFile.FieldType), Jvm.Cond.code ({ cls := "java/lang/StringUTF16", name := "compress", desc := "([CII)[B" } : Jvm.MethodName) jdk_52_method_16_code (6 : Nat) (Option.some (Jvm.ClassFile.FieldType.array Jvm.ClassFile.FieldType.byte)), Jvm.Cond.code ({ cls := "java/lang/StringUTF16", name := "compress", desc := "([CI[BII)I" } : Jvm.MethodName) jdk_52_method_21_code (7 : Nat) (Option.some Jvm.ClassFile.FieldType.int), Jvm.Cond.code ({ cls := "java/lang/StringUTF16", name := "coderFromArrayLen", desc := "([BI)B" } : Jvm.MethodName) jdk_52_method_15_code (2 : Nat) (Option.some Jvm.ClassFile.FieldType.byte), Jvm.Cond.code ({ cls := "java/lang/String", name := "valueOf", desc := "(C)Ljava/lang/String;" } : Jvm.MethodName) jdk_42_method_139_code (1 : Nat) (Option.some (Jvm.ClassFile.FieldType.object "java/lang/String")), Jvm.Cond.code ({ cls := "java/lang/StringLatin1", name := "canEncode", desc := "(C)Z" } : Jvm.MethodName) jdk_43_method_3_code (1 : Nat) (Option.some Jvm.ClassFile.FieldType.boolean), Jvm.Cond.code ({ cls := "java/lang/StringLatin1", name := "toBytes", desc := "(C)[B" } : Jvm.MethodName) jdk_43_method_46_code (1 : Nat) (Option.some (Jvm.ClassFile.FieldType.array Jvm.ClassFile.FieldType.byte)), Jvm.Cond.code ({ cls := "java/lang/String", name := "<init>", desc := "([BB)V" } : Jvm.MethodName) jdk_42_method_151_code (3 : Nat) (Option.none : Option Jvm.ClassFile.FieldType)]
set_option maxRecDepth 65536 in
theorem codes_eq : words1.filter isCode = codes1 := rfl
theorem w_codes : ∀ c ∈ words1.filter isCode, c.before args0 about1 = true := by
  rw [codes_eq]
  intro c hc
  simp only [codes1, List.mem_cons, List.not_mem_nil, or_false] at hc
  rcases hc with rfl | rfl | rfl | rfl | rfl | rfl | rfl | rfl | rfl | rfl | rfl | rfl | rfl | rfl | rfl | rfl | rfl
  · exact w_c0
  · exact w_c1
  · exact w_c2
  · exact w_c3
  · exact w_c4
  · exact w_c5
  · exact w_c6
  · exact w_c7
  · exact w_c8
  · exact w_c9
  · exact w_c10
  · exact w_c11
  · exact w_c12
  · exact w_c13
  · exact w_c14
  · exact w_c15
  · exact w_c16
set_option maxRecDepth 65536 in
theorem w_t1 : (words1.take 24).all (fun c => isCode c || c.before args0 about1) = true := by decide +kernel
set_option maxRecDepth 65536 in
theorem w_t2 : ((words1.drop 24).take 24).all (fun c => isCode c || c.before args0 about1) = true := by decide +kernel
set_option maxRecDepth 65536 in
theorem w_t3 : (((words1.drop 24).drop 24).take 24).all (fun c => isCode c || c.before args0 about1) = true := by decide +kernel
set_option maxRecDepth 65536 in
theorem w_t4 : ((((words1.drop 24).drop 24).drop 24).take 24).all (fun c => isCode c || c.before args0 about1) = true := by decide +kernel
set_option maxRecDepth 65536 in
theorem w_t5 : ((((words1.drop 24).drop 24).drop 24).drop 24).all (fun c => isCode c || c.before args0 about1) = true := by decide +kernel
theorem w_tables : (allAtoms (Jvm.Cond.code x code maxLocals ret :: tables_1)).before args0 about1 = true := by
  rw [allAtoms_all]
  show words1.all (fun c => c.before args0 about1) = true
  refine all_split ?_ w_codes
  rw [← List.take_append_drop 24 words1, List.all_append, w_t1, ← List.take_append_drop 24 (words1.drop 24), List.all_append, w_t2, ← List.take_append_drop 24 ((words1.drop 24).drop 24), List.all_append, w_t3, ← List.take_append_drop 24 (((words1.drop 24).drop 24).drop 24), List.all_append, w_t4, w_t5]
  rfl
set_option maxRecDepth 65536 in
theorem w_rest : rest_1_c.before args0 about1 = true := by decide +kernel
set_option maxRecDepth 65536 in
theorem w_case : (Jvm.Cond.and given_1 narrow_1).before args0 about1 = true := by decide +kernel
theorem w_applies : (headSpec (Jvm.Cond.code x code maxLocals ret :: tables_1) room_1).applies x e0.platform about1 = true :=
  (Spec.applies_iff w_frames).mpr ⟨w_running, w_runnable, w_alone, w_named, w_hears, w_ripe, w_room, w_tables⟩
theorem atStart : AtStart classFile x code maxLocals ret World_1 tables_1 room_1 Calls_1 rest_1 Pre_1 launch0 p0 e0 about1 theMethod args0 below0 :=
  ⟨lists_1, trivial, launch0.admits_env _ _ _, launch0.least_env, fairChoices_fair.cas, fairChoices_fair.clock, w_frames, w_args, w_heap, w_applies, ⟨(by decide +kernel : framesKnown about1 = true), ⟨(by decide +kernel : tablesKnown about1 = true), trivial⟩⟩, w_rest, w_case⟩
end start1
theorem witness_1 : WitnessClaimed_1 := ⟨start1.p0, start1.e0, start1.about1, start1.theMethod, start1.args0, start1.below0, start1.atStart⟩
end Jvm.Pilot.@@N@@
