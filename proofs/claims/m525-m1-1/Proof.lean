import JvmDerived
import JvmDerived.Pilot.@@N@@Statement
import JvmDerived.Pilot.@@N@@Code
set_option linter.unusedVariables false
set_option linter.unusedSimpArgs false
namespace Jvm.Pilot.@@N@@
open Jvm Jvm.ClassFile Sem Op Lib Jvm.Free Jvm.Stand Jvm.LawKit Jvm.RoadKit Bundle Jvm.Pilot.@@N@@.Jvm.D
section Own
variable {p : Program} {l : Launch} {e : Env} {R : Room} {s : State} {m : MethodId} {args : Array Value} {below : List Frame} {meth : Method} {c : Code} {T : State} {locs : List Loc} {cells slots : Nat}
/-- from S the run comes to an end that E tells -/
def OwnG (p : Program) (e : Env) (below : List Frame) (E : Outcome → State → Prop) (S : State) : Prop :=
  ∃ s₂ o, Steps p.tables e below S s₂ ∧ s₂.status = .running ∧ Ended s₂ below o ∧ E o s₂
/-- it returned, Q holds of the value and the heap, and the frame is k new cells of n slots -/
def OwnE (s : State) (Q : Option Value → Heap → List Loc → Prop) (k n : Nat) (o : Outcome) (U : State) : Prop :=
  ∃ v L, o = .returned v ∧ Q v U.heap L ∧ FrameEnd s o U L k n
theorem own_by {E : Outcome → State → Prop} {S S' : State} (h : ∀ t, Steps p.tables e below S' t → Steps p.tables e below S t) (g : OwnG p e below E S') : OwnG p e below E S := by
  obtain ⟨s2, o, h1, r⟩ := g
  exact ⟨s2, o, h _ h1, r⟩
theorem own_ret (X : Stand p l e R s m args below meth c T locs cells slots) (hx : p.tables.exec = Jvm.exec) {pc : Nat} {Ls : Array Slot} {w : Value} {t : FieldType} {i : Instr} {rest : List Value} (hret : meth.sig.returnType = some t) (hn : narrow t w = w)
    (hi : (i = .ireturn ∧ (t = .int ∨ t = .boolean ∨ t = .byte ∨ t = .char ∨ t = .short) ∧ ∃ z, w = .int z) ∨ (i = .lreturn ∧ t = .long ∧ ∃ z, w = .long z) ∨ (i = .dreturn ∧ t = .double ∧ ∃ z, w = .double z) ∨ (i = .freturn ∧ t = .float ∧ ∃ z, w = .float z) ∨ (i = .areturn ∧ t.isReference = true ∧ w.isRef = true))
    (hd : decode c.code pc = .ok (i, 1)) (hlk : meth.locks = false) {Q : Option Value → Heap → List Loc → Prop} {k n : Nat} (hk : cells ≤ k) (hs : slots ≤ n) (hQ : Q (some w) T.heap locs) : OwnG p e below (OwnE s Q k n) (T.setTop (mkF m pc Ls (w :: rest))) := by
  obtain ⟨fs, hr, hrun, hended, hW, hsame⟩ := X.leave (v := some w) (fun h => by rw [hret] at h; cases h) hlk
  exact ⟨_, _, retOut X hx hret hn hi hd hr, hrun, hended, _, _, rfl, hQ, ⟨_, rfl⟩, hW, hsame.mono hk hs⟩
theorem own_retI (X : Stand p l e R s m args below meth c T locs cells slots) (hx : p.tables.exec = Jvm.exec) {pc : Nat} {Ls : Array Slot} {z : Int32} {t : FieldType} {rest : List Value} (hret : meth.sig.returnType = some t) (ht : t = .int ∨ t = .boolean ∨ t = .byte ∨ t = .char ∨ t = .short) (hn : narrow t (.int z) = .int z)
    (hd : decode c.code pc = .ok (.ireturn, 1)) (hlk : meth.locks = false) {Q : Option Value → Heap → List Loc → Prop} {k n : Nat} (hk : cells ≤ k) (hs : slots ≤ n) (hQ : Q (some (.int z)) T.heap locs) : OwnG p e below (OwnE s Q k n) (T.setTop (mkF m pc Ls (.int z :: rest))) :=
  own_ret X hx hret hn (Or.inl ⟨rfl, ht, _, rfl⟩) hd hlk hk hs hQ
theorem own_retL (X : Stand p l e R s m args below meth c T locs cells slots) (hx : p.tables.exec = Jvm.exec) {pc : Nat} {Ls : Array Slot} {z : Int64} {rest : List Value} (hret : meth.sig.returnType = some .long)
    (hd : decode c.code pc = .ok (.lreturn, 1)) (hlk : meth.locks = false) {Q : Option Value → Heap → List Loc → Prop} {k n : Nat} (hk : cells ≤ k) (hs : slots ≤ n) (hQ : Q (some (.long z)) T.heap locs) : OwnG p e below (OwnE s Q k n) (T.setTop (mkF m pc Ls (.long z :: rest))) :=
  own_ret X hx hret rfl (Or.inr (Or.inl ⟨rfl, rfl, _, rfl⟩)) hd hlk hk hs hQ
theorem own_retD (X : Stand p l e R s m args below meth c T locs cells slots) (hx : p.tables.exec = Jvm.exec) {pc : Nat} {Ls : Array Slot} {z : UInt64} {rest : List Value} (hret : meth.sig.returnType = some .double)
    (hd : decode c.code pc = .ok (.dreturn, 1)) (hlk : meth.locks = false) {Q : Option Value → Heap → List Loc → Prop} {k n : Nat} (hk : cells ≤ k) (hs : slots ≤ n) (hQ : Q (some (.double z)) T.heap locs) : OwnG p e below (OwnE s Q k n) (T.setTop (mkF m pc Ls (.double z :: rest))) :=
  own_ret X hx hret rfl (Or.inr (Or.inr (Or.inl ⟨rfl, rfl, _, rfl⟩))) hd hlk hk hs hQ
theorem own_narR {t : FieldType} (ht : t.isReference = true) {w : Value} (hw : w.isRef = true) : narrow t w = w := by
  cases t <;> cases w <;> first | rfl | (simp [FieldType.isReference] at ht; done) | (simp [Value.isRef] at hw; done)
theorem own_retA (X : Stand p l e R s m args below meth c T locs cells slots) (hx : p.tables.exec = Jvm.exec) {pc : Nat} {Ls : Array Slot} {w : Value} {t : FieldType} {rest : List Value} (hret : meth.sig.returnType = some t) (ht : t.isReference = true) (hw : w.isRef = true)
    (hd : decode c.code pc = .ok (.areturn, 1)) (hlk : meth.locks = false) {Q : Option Value → Heap → List Loc → Prop} {k n : Nat} (hk : cells ≤ k) (hs : slots ≤ n) (hQ : Q (some w) T.heap locs) : OwnG p e below (OwnE s Q k n) (T.setTop (mkF m pc Ls (w :: rest))) :=
  own_ret X hx hret (own_narR ht hw) (Or.inr (Or.inr (Or.inr (Or.inr ⟨rfl, ht, hw⟩)))) hd hlk hk hs hQ
theorem own_ret0 (X : Stand p l e R s m args below meth c T locs cells slots) (hx : p.tables.exec = Jvm.exec) {pc : Nat} {Ls : Array Slot} (hret : meth.sig.returnType = none)
    (hd : decode c.code pc = .ok (.return_, 1)) (hlk : meth.locks = false) {Q : Option Value → Heap → List Loc → Prop} {k n : Nat} (hk : cells ≤ k) (hs : slots ≤ n) (hQ : Q none T.heap locs) : OwnG p e below (OwnE s Q k n) (T.setTop (mkF m pc Ls [])) := by
  obtain ⟨fs, hr, hrun, hended, hW, hsame⟩ := X.leave (v := none) (fun _ => rfl) hlk
  exact ⟨_, _, X.returnOut hx hret hd hr, hrun, hended, _, _, rfl, hQ, ⟨_, rfl⟩, hW, hsame.mono hk hs⟩
/-- the same, where the walk may have interned -/
def OwnEW (s : State) (Q : Option Value → Heap → List Loc → Prop) (k n : Nat) (o : Outcome) (U : State) : Prop :=
  ∃ v L, o = .returned v ∧ Q v U.heap L ∧ ReturnedEndW s o U L k n
theorem own_endW {s U : State} {o : Outcome} {L : List Loc} {k n k' n' : Nat} (h : ReturnedEndW s o U L k n) (hk : k ≤ k') (hn : n ≤ n') : ReturnedEndW s o U L k' n' := ⟨h.1, h.2.1, h.2.2.1, h.2.2.2.mono hk hn⟩
theorem own_retW {vm₁ : Vm} (X : Stand p l e R (s.setVm vm₁) m args below meth c T locs cells slots) {n1 : Nat} (hS : s.Since vm₁ n1) (hn1 : n1 ≤ T.heap.size) (hx : p.tables.exec = Jvm.exec) {pc : Nat} {Ls : Array Slot} {w : Value} {t : FieldType} {i : Instr} {rest : List Value} (hret : meth.sig.returnType = some t) (hn : narrow t w = w)
    (hi : (i = .ireturn ∧ (t = .int ∨ t = .boolean ∨ t = .byte ∨ t = .char ∨ t = .short) ∧ ∃ z, w = .int z) ∨ (i = .lreturn ∧ t = .long ∧ ∃ z, w = .long z) ∨ (i = .dreturn ∧ t = .double ∧ ∃ z, w = .double z) ∨ (i = .freturn ∧ t = .float ∧ ∃ z, w = .float z) ∨ (i = .areturn ∧ t.isReference = true ∧ w.isRef = true))
    (hd : decode c.code pc = .ok (i, 1)) (hlk : meth.locks = false) {Q : Option Value → Heap → List Loc → Prop} {k n : Nat} (hk : cells ≤ k) (hs : slots ≤ n) (hQ : Q (some w) T.heap locs) : OwnG p e below (OwnEW s Q k n) (T.setTop (mkF m pc Ls (w :: rest))) := by
  obtain ⟨fs, hr, hrun, hended, hE⟩ := X.leaveW hS hn1 (v := some w) (fun h => by rw [hret] at h; cases h) hlk
  exact ⟨_, _, retOut X hx hret hn hi hd hr, hrun, hended, _, _, rfl, hQ, own_endW hE hk hs⟩
theorem own_retWI {vm₁ : Vm} (X : Stand p l e R (s.setVm vm₁) m args below meth c T locs cells slots) {n1 : Nat} (hS : s.Since vm₁ n1) (hn1 : n1 ≤ T.heap.size) (hx : p.tables.exec = Jvm.exec) {pc : Nat} {Ls : Array Slot} {z : Int32} {t : FieldType} {rest : List Value} (hret : meth.sig.returnType = some t) (ht : t = .int ∨ t = .boolean ∨ t = .byte ∨ t = .char ∨ t = .short) (hn : narrow t (.int z) = .int z)
    (hd : decode c.code pc = .ok (.ireturn, 1)) (hlk : meth.locks = false) {Q : Option Value → Heap → List Loc → Prop} {k n : Nat} (hk : cells ≤ k) (hs : slots ≤ n) (hQ : Q (some (.int z)) T.heap locs) : OwnG p e below (OwnEW s Q k n) (T.setTop (mkF m pc Ls (.int z :: rest))) :=
  own_retW X hS hn1 hx hret hn (Or.inl ⟨rfl, ht, _, rfl⟩) hd hlk hk hs hQ
theorem own_retWA {vm₁ : Vm} (X : Stand p l e R (s.setVm vm₁) m args below meth c T locs cells slots) {n1 : Nat} (hS : s.Since vm₁ n1) (hn1 : n1 ≤ T.heap.size) (hx : p.tables.exec = Jvm.exec) {pc : Nat} {Ls : Array Slot} {w : Value} {t : FieldType} {rest : List Value} (hret : meth.sig.returnType = some t) (ht : t.isReference = true) (hw : w.isRef = true)
    (hd : decode c.code pc = .ok (.areturn, 1)) (hlk : meth.locks = false) {Q : Option Value → Heap → List Loc → Prop} {k n : Nat} (hk : cells ≤ k) (hs : slots ≤ n) (hQ : Q (some w) T.heap locs) : OwnG p e below (OwnEW s Q k n) (T.setTop (mkF m pc Ls (w :: rest))) :=
  own_retW X hS hn1 hx hret (own_narR ht hw) (Or.inr (Or.inr (Or.inr (Or.inr ⟨rfl, ht, hw⟩)))) hd hlk hk hs hQ
theorem own_retW0 {vm₁ : Vm} (X : Stand p l e R (s.setVm vm₁) m args below meth c T locs cells slots) {n1 : Nat} (hS : s.Since vm₁ n1) (hn1 : n1 ≤ T.heap.size) (hx : p.tables.exec = Jvm.exec) {pc : Nat} {Ls : Array Slot} (hret : meth.sig.returnType = none)
    (hd : decode c.code pc = .ok (.return_, 1)) (hlk : meth.locks = false) {Q : Option Value → Heap → List Loc → Prop} {k n : Nat} (hk : cells ≤ k) (hs : slots ≤ n) (hQ : Q none T.heap locs) : OwnG p e below (OwnEW s Q k n) (T.setTop (mkF m pc Ls [])) := by
  obtain ⟨fs, hr, hrun, hended, hE⟩ := X.leaveW hS hn1 (v := none) (fun _ => rfl) hlk
  exact ⟨_, _, X.returnOut hx hret hd hr, hrun, hended, _, _, rfl, hQ, own_endW hE hk hs⟩
theorem own_ext0 {h h' : Heap} (K : Keep h h' []) : Ext h h' := ⟨K.1, fun a c q => K.2.1 a c q (by simp)⟩
theorem own_staK {Z : State} {h h' : Heap} {C n d : String} {v : Value} {ws : List Addr} (S : Sta Z h C n d v) (K : Keep h h' ws) (q : ∀ x ∈ ws, ∃ c : Cell, h[x]? = some c ∧ c.vm.isStatics = false) : Sta Z h' C n d v := by
  obtain ⟨cf, i, k, f, st, cell, h1, h2, h3, h4, h5, h6, h7⟩ := S
  refine ⟨cf, i, k, f, st, cell, h1, h2, h3, h4, K.2.1 st cell h5 (fun hm => ?_), h6, h7⟩
  obtain ⟨c, c1, c2⟩ := q st hm
  rw [h5] at c1
  cases c1
  rw [h6] at c2
  cases c2
theorem own_plain {Z : State} {h : Heap} {a : Addr} {C : String} (E : Exa Z h a C) : ∃ c : Cell, h[a]? = some c ∧ c.vm.isStatics = false := by
  obtain ⟨c, k, h1, h2, h3, h4, h5⟩ := E
  exact ⟨c, h1, h4⟩
theorem own_arrK {Z : State} {h h' : Heap} {a : Addr} {c : Cell} {ty : FieldType} {ws : List Addr} (A : Arr Z h a c ty) (K : Keep h h' ws) (q : a ∉ ws) : Arr Z h' a c ty := ⟨K.2.1 a c A.1 q, A.2⟩
/-- the array at a, of the class k, holds just vs -/
def OwnA (Z : State) (h : Heap) (a : Addr) (k : ClassId) (ty : FieldType) (vs : List Value) : Prop := ∃ c : Cell, Arr Z h a c ty ∧ c.cls = k ∧ c.slots.toList = vs
theorem OwnA.lt {Z : State} {h : Heap} {a : Addr} {k : ClassId} {ty : FieldType} {vs : List Value} (F : OwnA Z h a k ty vs) : a < h.size := by obtain ⟨c, A, -⟩ := F; exact A.lt
theorem OwnA.ext {Z : State} {h h' : Heap} {a : Addr} {k : ClassId} {ty : FieldType} {vs : List Value} (F : OwnA Z h a k ty vs) (E : Ext h h') : OwnA Z h' a k ty vs := by obtain ⟨c, A, r⟩ := F; exact ⟨c, A.ext E, r⟩
theorem OwnA.other {Z : State} {h h' : Heap} {a b : Addr} {k : ClassId} {ty : FieldType} {vs : List Value} {sl : Nat} {v : Value} (F : OwnA Z h a k ty vs) (W : Wr h h' b sl v) (q : a ≠ b) : OwnA Z h' a k ty vs := by obtain ⟨c, A, r⟩ := F; exact ⟨c, A.other W q, r⟩
theorem OwnA.keep {Z : State} {h h' : Heap} {a : Addr} {k : ClassId} {ty : FieldType} {vs : List Value} {ws : List Addr} (F : OwnA Z h a k ty vs) (K : Keep h h' ws) (q : a ∉ ws) : OwnA Z h' a k ty vs := by obtain ⟨c, A, r⟩ := F; exact ⟨c, own_arrK A K q, r⟩
theorem OwnA.new {Z : State} {h : Heap} {a : Addr} {k : ClassId} {ty : FieldType} {z : Int32} (A : Arr Z h a (newA k ty z) ty) : OwnA Z h a k ty (List.replicate z.toNatClampNeg (defaultValue ty)) := ⟨_, A, rfl, by simp [newA]⟩
theorem OwnA.set {Z : State} {h h' : Heap} {a : Addr} {k : ClassId} {ty : FieldType} {vs : List Value} {j : Nat} {v : Value} (F : OwnA Z h a k ty vs) (W : Wr h h' a j v) : OwnA Z h' a k ty (vs.set j v) := by
  obtain ⟨c, A, r1, r2⟩ := F
  refine ⟨_, A.same W, r1, ?_⟩
  rw [← r2]
  simp [Cell.setSlot]
theorem OwnA.inb {c : Cell} {vs : List Value} {j : Int32} (H : c.slots.toList = vs) (h1 : ¬ j < 0) (h2 : j.toNatClampNeg < vs.length) : ¬ (j < 0 ∨ c.slots.size ≤ j.toNatClampNeg) := by
  rintro (q | q)
  · exact h1 q
  · rw [← H, Array.length_toList] at h2; omega
theorem OwnA.at {c : Cell} {vs : List Value} {j : Int32} {v : Value} (H : c.slots.toList = vs) (h : vs[j.toNatClampNeg]? = some v) : c.slots[j.toNatClampNeg]? = some v := by
  rw [← H] at h; simpa using h
theorem OwnA.size {c : Cell} {vs : List Value} {z : Int32} (H : c.slots.toList = vs) (h : vs.length = z.toNatClampNeg) : c.slots.size = z.toNatClampNeg := by
  rw [← h, ← H, Array.length_toList]
theorem OwnA.ofArv {Z : State} {h : Heap} {a : Addr} {k : ClassId} {ty : FieldType} {z : Int32} {vs : List Value} {d : Value} (F : Arv Z h a k ty z vs d) (hl : z.toNatClampNeg = vs.length) : OwnA Z h a k ty vs := by
  obtain ⟨c, A, r1, r2, r3, r4, r5⟩ := F
  refine ⟨c, A, r1, ?_⟩
  apply List.ext_getElem?
  intro i
  by_cases hi : i < c.slots.size
  · have q := r4 i hi
    rw [Array.getElem?_toList, q, List.getD_eq_getElem?_getD]
    rw [r2, hl] at hi
    rw [List.getElem?_eq_getElem hi]; rfl
  · rw [Array.getElem?_toList, Array.getElem?_eq_none (by omega), List.getElem?_eq_none (by omega)]
theorem OwnA.one {Z : State} {h : Heap} {a : Addr} {k k' : ClassId} {ty ty' : FieldType} {vs vs' : List Value} (F : OwnA Z h a k ty vs) (G : OwnA Z h a k' ty' vs') : vs = vs' := by
  obtain ⟨c, A, -, r⟩ := F
  obtain ⟨c', A', -, r'⟩ := G
  have q := A.1.symm.trans A'.1
  cases q
  rw [← r, ← r']
theorem own_fldOne {Z : State} {h : Heap} {a : Addr} {C n d : String} {v w : Value} (F : Fld Z h a C n d v) (G : Fld Z h a C n d w) : v = w := by
  obtain ⟨c, cf, k, i, f, h1, h2, h3, h4, h5, h6, h7⟩ := F
  obtain ⟨c', cf', k', i', f', g1, g2, g3, g4, g5, g6, g7⟩ := G
  have q := h1.symm.trans g1
  cases q
  have q := h2.symm.trans g2
  cases q
  have q := h7.symm.trans g7
  cases q
  rfl
theorem own_eqI {args : Array Value} {s : State} {u : Term} {k : Int32} (h : (Jvm.Cond.eq u (.int k)).value args s none s [] = some true) : u.eval args s none [] s = some (.int k) := by
  cases hv : u.eval args s none [] s with
  | none => simp [Cond.value, hv] at h
  | some v => cases v <;> simp [Cond.value, Term.eval, hv] at h ⊢ <;> exact h
theorem own_eqL {args : Array Value} {s : State} {u : Term} {k : Int64} (h : (Jvm.Cond.eq u (.long k)).value args s none s [] = some true) : u.eval args s none [] s = some (.long k) := by
  cases hv : u.eval args s none [] s with
  | none => simp [Cond.value, hv] at h
  | some v => cases v <;> simp [Cond.value, Term.eval, hv] at h ⊢ <;> exact h
theorem own_size {args : Array Value} {s : State} {u : Term} {a : Addr} {cl : Cell} {ty : FieldType} {k : Int32} (ev : u.eval args s none [] s = some (.ref a)) (A : Arr s s.heap a cl ty) (h : (Jvm.Cond.eq (.length u) (.int k)).value args s none s [] = some true) : cl.slots.size = k.toNatClampNeg := by
  have h1 := own_eqI h
  have h2 : s.arrayAt? a = some cl := A.fin (Vm.Alike.refl _)
  simp only [Term.eval, ev, h2, Option.bind_eq_bind, Option.bind_some] at h1
  split at h1
  · rename_i hl
    have h3 : cl.slots.size.toInt32 = k := by simpa using h1
    rw [← h3]
    have := len_toInt hl
    rw [Int32.toNatClampNeg, this]; rfl
  · simp at h1
theorem own_elL {args : Array Value} {s : State} {u : Term} {a : Addr} {cl : Cell} {ty : FieldType} {j : Int32} {k : Int64} (ev : u.eval args s none [] s = some (.ref a)) (A : Arr s s.heap a cl ty) (h : (Jvm.Cond.eq (.elem u (.int j)) (.long k)).value args s none s [] = some true) : cl.slots[j.toNatClampNeg]? = some (.long k) :=
  (elem_in (own_eqL h) ev (Term.int_eval _) A.1).2
theorem own_elI {args : Array Value} {s : State} {u : Term} {a : Addr} {cl : Cell} {ty : FieldType} {j k : Int32} (ev : u.eval args s none [] s = some (.ref a)) (A : Arr s s.heap a cl ty) (h : (Jvm.Cond.eq (.elem u (.int j)) (.int k)).value args s none s [] = some true) : cl.slots[j.toNatClampNeg]? = some (.int k) :=
  (elem_in (own_eqI h) ev (Term.int_eval _) A.1).2
theorem own_ne {args : Array Value} {s : State} {u : Term} {z k : Int32} (ev : u.eval args s none [] s = some (.int z)) (h : (Jvm.Cond.not (Jvm.Cond.eq u (.int k))).value args s none s [] = some true) : ¬ z = k := by
  have h2 := not_v h
  intro q
  subst q
  simp [Cond.value, Term.eval, ev] at h2
theorem own_in {i z : Int32} {cl : Cell} (S : cl.slots.size = z.toNatClampNeg) (h1 : ¬ i < 0) (h2 : i < z) : ¬ (i < 0 ∨ cl.slots.size ≤ i.toNatClampNeg) := by
  rintro (q | q)
  · exact h1 q
  · rw [S] at q
    rw [Int32.lt_iff_toInt_lt] at h1 h2
    have e0 : (0 : Int32).toInt = 0 := rfl
    have e1 : ((i.toNatClampNeg : Nat) : Int) = i.toInt := by rw [Int32.toNatClampNeg]; exact Int.toNat_of_nonneg (by omega)
    have e2 : ((z.toNatClampNeg : Nat) : Int) = z.toInt := by rw [Int32.toNatClampNeg]; exact Int.toNat_of_nonneg (by omega)
    omega
end Own

theorem pd_0 : parseMethodDescriptor "(I)J" = some ⟨[.int], some .long⟩ := by decide +kernel
def gapT (r : Int32) : Int64 := if r = 0 then 0 else if r = 1 then 30 else if r = 2 then 100 else if r = 3 then 0 else if r = 4 then 300 else if r = 5 then 50 else if r = 6 then 1000 else if r = 7 then 20 else if r = 8 then 0 else 150
def tenthv (r : Int32) : Int64 := if r = 0 then 0 else if r = 1 then 30000 else if r = 2 then 100000 else if r = 3 then 0 else if r = 4 then 300000 else if r = 5 then 50000 else if r = 6 then 1000000 else if r = 7 then 20000 else if r = 8 then 0 else 150000
def gapv (p : Int32) : Int64 := if p % 50 = 49 then 7000 * 1000 else gapT (p % 10) * 1000
theorem own_key (r : Int32) : gapT r * 1000 = tenthv r := by
  unfold gapT tenthv
  by_cases h0 : r = 0
  · rw [if_pos h0, if_pos h0]; decide
  rw [if_neg h0, if_neg h0]
  by_cases h1 : r = 1
  · rw [if_pos h1, if_pos h1]; decide
  rw [if_neg h1, if_neg h1]
  by_cases h2 : r = 2
  · rw [if_pos h2, if_pos h2]; decide
  rw [if_neg h2, if_neg h2]
  by_cases h3 : r = 3
  · rw [if_pos h3, if_pos h3]; decide
  rw [if_neg h3, if_neg h3]
  by_cases h4 : r = 4
  · rw [if_pos h4, if_pos h4]; decide
  rw [if_neg h4, if_neg h4]
  by_cases h5 : r = 5
  · rw [if_pos h5, if_pos h5]; decide
  rw [if_neg h5, if_neg h5]
  by_cases h6 : r = 6
  · rw [if_pos h6, if_pos h6]; decide
  rw [if_neg h6, if_neg h6]
  by_cases h7 : r = 7
  · rw [if_pos h7, if_pos h7]; decide
  rw [if_neg h7, if_neg h7]
  by_cases h8 : r = 8
  · rw [if_pos h8, if_pos h8]; decide
  rw [if_neg h8, if_neg h8]
  decide
theorem own_ten (r : Int32) (h1 : ¬ r < 0) (h2 : r < 10) : r = 0 ∨ r = 1 ∨ r = 2 ∨ r = 3 ∨ r = 4 ∨ r = 5 ∨ r = 6 ∨ r = 7 ∨ r = 8 ∨ r = 9 := by
  rw [Int32.lt_iff_toInt_lt] at h1 h2
  have e0 : (0 : Int32).toInt = 0 := rfl
  have e1 : (10 : Int32).toInt = 10 := rfl
  have a : r.toInt = 0 ∨ r.toInt = 1 ∨ r.toInt = 2 ∨ r.toInt = 3 ∨ r.toInt = 4 ∨ r.toInt = 5 ∨ r.toInt = 6 ∨ r.toInt = 7 ∨ r.toInt = 8 ∨ r.toInt = 9 := by omega
  rcases a with a | a | a | a | a | a | a | a | a | a
  · exact (Or.inl (Int32.toInt_inj.mp a))
  · exact Or.inr ((Or.inl (Int32.toInt_inj.mp a)))
  · exact Or.inr (Or.inr ((Or.inl (Int32.toInt_inj.mp a))))
  · exact Or.inr (Or.inr (Or.inr ((Or.inl (Int32.toInt_inj.mp a)))))
  · exact Or.inr (Or.inr (Or.inr (Or.inr ((Or.inl (Int32.toInt_inj.mp a))))))
  · exact Or.inr (Or.inr (Or.inr (Or.inr (Or.inr ((Or.inl (Int32.toInt_inj.mp a)))))))
  · exact Or.inr (Or.inr (Or.inr (Or.inr (Or.inr (Or.inr ((Or.inl (Int32.toInt_inj.mp a))))))))
  · exact Or.inr (Or.inr (Or.inr (Or.inr (Or.inr (Or.inr (Or.inr ((Or.inl (Int32.toInt_inj.mp a)))))))))
  · exact Or.inr (Or.inr (Or.inr (Or.inr (Or.inr (Or.inr (Or.inr (Or.inr ((Or.inl (Int32.toInt_inj.mp a))))))))))
  · exact Or.inr (Or.inr (Or.inr (Or.inr (Or.inr (Or.inr (Or.inr (Or.inr (Or.inr (((Int32.toInt_inj.mp a)))))))))))
theorem own_mod10 (q : Int32) (h : ¬ q < 0) : ¬ (q % 10) < 0 ∧ (q % 10) < 10 := by
  rw [Int32.lt_iff_toInt_lt] at h
  have e0 : (0 : Int32).toInt = 0 := rfl
  have e1 : (10 : Int32).toInt = 10 := rfl
  have hi := c_irem q 10 10 rfl
  rw [Int32.lt_iff_toInt_lt, Int32.lt_iff_toInt_lt]
  omega
theorem own_mod50 (q : Int32) (h : ¬ q < 0) : (q % 50) % 10 = q % 10 := by
  rw [Int32.lt_iff_toInt_lt] at h
  have e0 : (0 : Int32).toInt = 0 := rfl
  have h1 := c_irem q 10 10 rfl
  have h2 := c_irem q 50 50 rfl
  have h3 := c_irem (q % 50) 10 10 rfl
  apply Int32.toInt_inj.mp
  omega
theorem own_pos (x : Int32) : ¬ (x &&& 2147483647) < 0 := by
  have h1 := c_mask x 2147483647 31 (by decide) (by decide)
  rw [Int32.lt_iff_toInt_lt, h1]
  have e0 : (0 : Int32).toInt = 0 := rfl
  omega
def QSame (r : Option Value) (h0 : Heap) (n0 : Nat) (v : Option Value) (h : Heap) (L : List Loc) : Prop := v = r ∧ Fr n0 L ∧ h = h0
theorem d1_0 : decode method_3_code 0 = .ok (.iload_n 0, 1) := by decide +kernel
theorem d1_1 : decode method_3_code 1 = .ok (.ifCond .ne 5, 3) := by decide +kernel
theorem d1_4 : decode method_3_code 4 = .ok (.lconst 0, 1) := by decide +kernel
theorem d1_5 : decode method_3_code 5 = .ok (.lreturn, 1) := by decide +kernel
theorem d1_6 : decode method_3_code 6 = .ok (.iload_n 0, 1) := by decide +kernel
theorem d1_7 : decode method_3_code 7 = .ok (.iconst 1, 1) := by decide +kernel
theorem d1_8 : decode method_3_code 8 = .ok (.if_icmp .ne 7, 3) := by decide +kernel
theorem d1_11 : decode method_3_code 11 = .ok (.ldc2_w 21, 3) := by decide +kernel
theorem d1_14 : decode method_3_code 14 = .ok (.lreturn, 1) := by decide +kernel
theorem d1_15 : decode method_3_code 15 = .ok (.iload_n 0, 1) := by decide +kernel
theorem d1_16 : decode method_3_code 16 = .ok (.iconst 2, 1) := by decide +kernel
theorem d1_17 : decode method_3_code 17 = .ok (.if_icmp .ne 7, 3) := by decide +kernel
theorem d1_20 : decode method_3_code 20 = .ok (.ldc2_w 23, 3) := by decide +kernel
theorem d1_23 : decode method_3_code 23 = .ok (.lreturn, 1) := by decide +kernel
theorem d1_24 : decode method_3_code 24 = .ok (.iload_n 0, 1) := by decide +kernel
theorem d1_25 : decode method_3_code 25 = .ok (.iconst 3, 1) := by decide +kernel
theorem d1_26 : decode method_3_code 26 = .ok (.if_icmp .ne 5, 3) := by decide +kernel
theorem d1_29 : decode method_3_code 29 = .ok (.lconst 0, 1) := by decide +kernel
theorem d1_30 : decode method_3_code 30 = .ok (.lreturn, 1) := by decide +kernel
theorem d1_31 : decode method_3_code 31 = .ok (.iload_n 0, 1) := by decide +kernel
theorem d1_32 : decode method_3_code 32 = .ok (.iconst 4, 1) := by decide +kernel
theorem d1_33 : decode method_3_code 33 = .ok (.if_icmp .ne 7, 3) := by decide +kernel
theorem d1_36 : decode method_3_code 36 = .ok (.ldc2_w 25, 3) := by decide +kernel
theorem d1_39 : decode method_3_code 39 = .ok (.lreturn, 1) := by decide +kernel
theorem d1_40 : decode method_3_code 40 = .ok (.iload_n 0, 1) := by decide +kernel
theorem d1_41 : decode method_3_code 41 = .ok (.iconst 5, 1) := by decide +kernel
theorem d1_42 : decode method_3_code 42 = .ok (.if_icmp .ne 7, 3) := by decide +kernel
theorem d1_45 : decode method_3_code 45 = .ok (.ldc2_w 27, 3) := by decide +kernel
theorem d1_48 : decode method_3_code 48 = .ok (.lreturn, 1) := by decide +kernel
theorem d1_49 : decode method_3_code 49 = .ok (.iload_n 0, 1) := by decide +kernel
theorem d1_50 : decode method_3_code 50 = .ok (.bipush 6, 2) := by decide +kernel
theorem d1_52 : decode method_3_code 52 = .ok (.if_icmp .ne 7, 3) := by decide +kernel
theorem d1_55 : decode method_3_code 55 = .ok (.ldc2_w 29, 3) := by decide +kernel
theorem d1_58 : decode method_3_code 58 = .ok (.lreturn, 1) := by decide +kernel
theorem d1_59 : decode method_3_code 59 = .ok (.iload_n 0, 1) := by decide +kernel
theorem d1_60 : decode method_3_code 60 = .ok (.bipush 7, 2) := by decide +kernel
theorem d1_62 : decode method_3_code 62 = .ok (.if_icmp .ne 7, 3) := by decide +kernel
theorem d1_65 : decode method_3_code 65 = .ok (.ldc2_w 31, 3) := by decide +kernel
theorem d1_68 : decode method_3_code 68 = .ok (.lreturn, 1) := by decide +kernel
theorem d1_69 : decode method_3_code 69 = .ok (.iload_n 0, 1) := by decide +kernel
theorem d1_70 : decode method_3_code 70 = .ok (.bipush 8, 2) := by decide +kernel
theorem d1_72 : decode method_3_code 72 = .ok (.if_icmp .ne 5, 3) := by decide +kernel
theorem d1_75 : decode method_3_code 75 = .ok (.lconst 0, 1) := by decide +kernel
theorem d1_76 : decode method_3_code 76 = .ok (.lreturn, 1) := by decide +kernel
theorem d1_77 : decode method_3_code 77 = .ok (.ldc2_w 33, 3) := by decide +kernel
theorem d1_80 : decode method_3_code 80 = .ok (.lreturn, 1) := by decide +kernel
theorem pn_0 : plainName "com/example/fairgate/fairgate/JitWarmUpGapPinLaw" = true := by first | (simp [plainName, overriddenIn]; done) | decide +kernel
theorem ef_rmT (m : MethodId) (d : Int32) : entryFrame m #[(.int d)] 1 = mkF m 0 #[.val (.int d)] [] := by first | (simp [entryFrame, mkF, argsToLocals, Value.category, maxLocals]; done) | rfl
set_option maxRecDepth 65536 in
set_option maxHeartbeats 40000000 in
theorem rmT (l : Launch) (Z : State) (a0 : Array Value) (hw : ∀ d ∈ tables_1, d.before a0 Z = true) (ws : List Jvm.Cond) (d : Int32) (h0 : Heap) (n0 : Nat) (Z0 : n0 ≤ h0.size) :
    MetFree l (⟨"com/example/fairgate/fairgate/JitWarmUpGapPinLaw", "tenth", "(I)J"⟩ : MethodName) (head1 (Jvm.Cond.code (⟨"com/example/fairgate/fairgate/JitWarmUpGapPinLaw", "tenth", "(I)J"⟩ : MethodName) method_3_code (1 : Nat) (Option.some Jvm.ClassFile.FieldType.long) :: ws) ({ frames := 0, cells := 0, slots := 0, locals := 0 } : Room)) (fun aZ UZ => aZ = #[(.int d)] ∧ Z.Warmed39 UZ.vm ∧ UZ.heap = h0) (fun _ _ _ _ _ => True) (fun _ UZ oZ VZ => ∃ vZ LZ, oZ = .returned vZ ∧ (QSame (some (.long (tenthv d))) h0 n0) vZ VZ.heap LZ ∧ FrameEnd UZ oZ VZ LZ ({ frames := 0, cells := 0, slots := 0, locals := 0 } : Room).cells ({ frames := 0, cells := 0, slots := 0, locals := 0 } : Room).slots) := by
  refine MetFree.of_bodySF (plainFor_of_name pn_0) hisR ?_
  intro p e s m args below meth c s₁ Bd hml0 hP hK
  obtain ⟨rfl, hZ, hh⟩ := hP
  have hx := Bd.exec
  have hby := Bd.bytes
  have hml : c.maxLocals = 1 := hml0
  have hown : s.vm.findClass "com/example/fairgate/fairgate/JitWarmUpGapPinLaw" = some m.cls := findClass_of_methodNamed Bd.named
  have hnm := (name_of_methodNamed Bd.named Bd.method).1
  have X0 : Stand p l e ({ frames := 0, cells := 0, slots := 0, locals := 0 } : Room) s m #[(.int d)] below meth c s₁ [] 0 0 := Stand.of_body Bd
  have e0 : s₁.heap = h0 := by rw [← hh, Bd.state]; rfl
  have N0 := Fr.nil n0
  show OwnG p e below (OwnE s (QSame (some (.long (tenthv d))) h0 n0) ({ frames := 0, cells := 0, slots := 0, locals := 0 } : Room).cells ({ frames := 0, cells := 0, slots := 0, locals := 0 } : Room).slots) _
  refine own_by (S' := s₁.setTop (mkF m 0 #[.val (.int d)] [])) (fun tZ kZ => castTop (ef_rmT m d) kZ) ?_
  refine own_by (S' := s₁.setTop (mkF m 1 #[.val (.int d)] [(.int d)])) (fun tZ kZ => XS.iloadN X0.here hx rfl (hb hby d1_0) rfl kZ) ?_
  by_cases hc0 : d = (0 : Int32)
  · refine own_by (S' := s₁.setTop (mkF m 4 #[.val (.int d)] [])) (fun tZ kZ => XS.ifNo X0.here hx rfl (hb hby d1_1) rfl ((if0 _ _).trans (teq hc0).2) kZ) ?_
    refine own_by (S' := s₁.setTop (mkF m 5 #[.val (.int d)] [(.long (0 : Int64))])) (fun tZ kZ => XS.lconst X0.here hx rfl (hb hby d1_4) kZ) ?_
    exact own_retL X0 hx Bd.returns  (hb hby d1_5) Bd.notSynchronized (by decide) (by decide) ⟨by rw [show tenthv d = 0 from by unfold tenthv; rw [if_pos hc0]], N0, e0⟩
  · refine own_by (S' := s₁.setTop (mkF m 6 #[.val (.int d)] [])) (fun tZ kZ => XS.ifYes X0.here hx rfl (pc0 := 1) (pc' := 6) rfl (hb hby d1_1) rfl ((if0 _ _).trans (feq hc0).2) (by decide) (by decide) kZ) ?_
    refine own_by (S' := s₁.setTop (mkF m 7 #[.val (.int d)] [(.int d)])) (fun tZ kZ => XS.iloadN X0.here hx rfl (hb hby d1_6) rfl kZ) ?_
    refine own_by (S' := s₁.setTop (mkF m 8 #[.val (.int d)] [(.int (1 : Int32)), (.int d)])) (fun tZ kZ => XS.iconst X0.here hx rfl (hb hby d1_7) kZ) ?_
    by_cases hc1 : d = (1 : Int32)
    · refine own_by (S' := s₁.setTop (mkF m 11 #[.val (.int d)] [])) (fun tZ kZ => XS.icmpNo X0.here hx rfl (hb hby d1_8) rfl (teq hc1).2 kZ) ?_
      refine own_by (S' := s₁.setTop (mkF m 14 #[.val (.int d)] [(.long (30000 : Int64))])) (fun tZ kZ => X0.ldc2Long hx hown (mvT hZ (hw _ (List.mem_of_getElem? (i := 12) rfl))) (g := (mkF m 11 #[.val (.int d)] [])) rfl (hb hby d1_11) _ kZ) ?_
      exact own_retL X0 hx Bd.returns  (hb hby d1_14) Bd.notSynchronized (by decide) (by decide) ⟨by rw [show tenthv d = 30000 from by unfold tenthv; rw [if_neg hc0, if_pos hc1]], N0, e0⟩
    · refine own_by (S' := s₁.setTop (mkF m 15 #[.val (.int d)] [])) (fun tZ kZ => XS.icmpYes X0.here hx rfl (pc0 := 8) (pc' := 15) rfl (hb hby d1_8) rfl (feq hc1).2 (by decide) (by decide) kZ) ?_
      refine own_by (S' := s₁.setTop (mkF m 16 #[.val (.int d)] [(.int d)])) (fun tZ kZ => XS.iloadN X0.here hx rfl (hb hby d1_15) rfl kZ) ?_
      refine own_by (S' := s₁.setTop (mkF m 17 #[.val (.int d)] [(.int (2 : Int32)), (.int d)])) (fun tZ kZ => XS.iconst X0.here hx rfl (hb hby d1_16) kZ) ?_
      by_cases hc2 : d = (2 : Int32)
      · refine own_by (S' := s₁.setTop (mkF m 20 #[.val (.int d)] [])) (fun tZ kZ => XS.icmpNo X0.here hx rfl (hb hby d1_17) rfl (teq hc2).2 kZ) ?_
        refine own_by (S' := s₁.setTop (mkF m 23 #[.val (.int d)] [(.long (100000 : Int64))])) (fun tZ kZ => X0.ldc2Long hx hown (mvT hZ (hw _ (List.mem_of_getElem? (i := 15) rfl))) (g := (mkF m 20 #[.val (.int d)] [])) rfl (hb hby d1_20) _ kZ) ?_
        exact own_retL X0 hx Bd.returns  (hb hby d1_23) Bd.notSynchronized (by decide) (by decide) ⟨by rw [show tenthv d = 100000 from by unfold tenthv; rw [if_neg hc0, if_neg hc1, if_pos hc2]], N0, e0⟩
      · refine own_by (S' := s₁.setTop (mkF m 24 #[.val (.int d)] [])) (fun tZ kZ => XS.icmpYes X0.here hx rfl (pc0 := 17) (pc' := 24) rfl (hb hby d1_17) rfl (feq hc2).2 (by decide) (by decide) kZ) ?_
        refine own_by (S' := s₁.setTop (mkF m 25 #[.val (.int d)] [(.int d)])) (fun tZ kZ => XS.iloadN X0.here hx rfl (hb hby d1_24) rfl kZ) ?_
        refine own_by (S' := s₁.setTop (mkF m 26 #[.val (.int d)] [(.int (3 : Int32)), (.int d)])) (fun tZ kZ => XS.iconst X0.here hx rfl (hb hby d1_25) kZ) ?_
        by_cases hc3 : d = (3 : Int32)
        · refine own_by (S' := s₁.setTop (mkF m 29 #[.val (.int d)] [])) (fun tZ kZ => XS.icmpNo X0.here hx rfl (hb hby d1_26) rfl (teq hc3).2 kZ) ?_
          refine own_by (S' := s₁.setTop (mkF m 30 #[.val (.int d)] [(.long (0 : Int64))])) (fun tZ kZ => XS.lconst X0.here hx rfl (hb hby d1_29) kZ) ?_
          exact own_retL X0 hx Bd.returns  (hb hby d1_30) Bd.notSynchronized (by decide) (by decide) ⟨by rw [show tenthv d = 0 from by unfold tenthv; rw [if_neg hc0, if_neg hc1, if_neg hc2, if_pos hc3]], N0, e0⟩
        · refine own_by (S' := s₁.setTop (mkF m 31 #[.val (.int d)] [])) (fun tZ kZ => XS.icmpYes X0.here hx rfl (pc0 := 26) (pc' := 31) rfl (hb hby d1_26) rfl (feq hc3).2 (by decide) (by decide) kZ) ?_
          refine own_by (S' := s₁.setTop (mkF m 32 #[.val (.int d)] [(.int d)])) (fun tZ kZ => XS.iloadN X0.here hx rfl (hb hby d1_31) rfl kZ) ?_
          refine own_by (S' := s₁.setTop (mkF m 33 #[.val (.int d)] [(.int (4 : Int32)), (.int d)])) (fun tZ kZ => XS.iconst X0.here hx rfl (hb hby d1_32) kZ) ?_
          by_cases hc4 : d = (4 : Int32)
          · refine own_by (S' := s₁.setTop (mkF m 36 #[.val (.int d)] [])) (fun tZ kZ => XS.icmpNo X0.here hx rfl (hb hby d1_33) rfl (teq hc4).2 kZ) ?_
            refine own_by (S' := s₁.setTop (mkF m 39 #[.val (.int d)] [(.long (300000 : Int64))])) (fun tZ kZ => X0.ldc2Long hx hown (mvT hZ (hw _ (List.mem_of_getElem? (i := 13) rfl))) (g := (mkF m 36 #[.val (.int d)] [])) rfl (hb hby d1_36) _ kZ) ?_
            exact own_retL X0 hx Bd.returns  (hb hby d1_39) Bd.notSynchronized (by decide) (by decide) ⟨by rw [show tenthv d = 300000 from by unfold tenthv; rw [if_neg hc0, if_neg hc1, if_neg hc2, if_neg hc3, if_pos hc4]], N0, e0⟩
          · refine own_by (S' := s₁.setTop (mkF m 40 #[.val (.int d)] [])) (fun tZ kZ => XS.icmpYes X0.here hx rfl (pc0 := 33) (pc' := 40) rfl (hb hby d1_33) rfl (feq hc4).2 (by decide) (by decide) kZ) ?_
            refine own_by (S' := s₁.setTop (mkF m 41 #[.val (.int d)] [(.int d)])) (fun tZ kZ => XS.iloadN X0.here hx rfl (hb hby d1_40) rfl kZ) ?_
            refine own_by (S' := s₁.setTop (mkF m 42 #[.val (.int d)] [(.int (5 : Int32)), (.int d)])) (fun tZ kZ => XS.iconst X0.here hx rfl (hb hby d1_41) kZ) ?_
            by_cases hc5 : d = (5 : Int32)
            · refine own_by (S' := s₁.setTop (mkF m 45 #[.val (.int d)] [])) (fun tZ kZ => XS.icmpNo X0.here hx rfl (hb hby d1_42) rfl (teq hc5).2 kZ) ?_
              refine own_by (S' := s₁.setTop (mkF m 48 #[.val (.int d)] [(.long (50000 : Int64))])) (fun tZ kZ => X0.ldc2Long hx hown (mvT hZ (hw _ (List.mem_of_getElem? (i := 17) rfl))) (g := (mkF m 45 #[.val (.int d)] [])) rfl (hb hby d1_45) _ kZ) ?_
              exact own_retL X0 hx Bd.returns  (hb hby d1_48) Bd.notSynchronized (by decide) (by decide) ⟨by rw [show tenthv d = 50000 from by unfold tenthv; rw [if_neg hc0, if_neg hc1, if_neg hc2, if_neg hc3, if_neg hc4, if_pos hc5]], N0, e0⟩
            · refine own_by (S' := s₁.setTop (mkF m 49 #[.val (.int d)] [])) (fun tZ kZ => XS.icmpYes X0.here hx rfl (pc0 := 42) (pc' := 49) rfl (hb hby d1_42) rfl (feq hc5).2 (by decide) (by decide) kZ) ?_
              refine own_by (S' := s₁.setTop (mkF m 50 #[.val (.int d)] [(.int d)])) (fun tZ kZ => XS.iloadN X0.here hx rfl (hb hby d1_49) rfl kZ) ?_
              refine own_by (S' := s₁.setTop (mkF m 52 #[.val (.int d)] [(.int (6 : Int32)), (.int d)])) (fun tZ kZ => XS.bipush X0.here hx rfl (hb hby d1_50) kZ) ?_
              by_cases hc6 : d = (6 : Int32)
              · refine own_by (S' := s₁.setTop (mkF m 55 #[.val (.int d)] [])) (fun tZ kZ => XS.icmpNo X0.here hx rfl (hb hby d1_52) rfl (teq hc6).2 kZ) ?_
                refine own_by (S' := s₁.setTop (mkF m 58 #[.val (.int d)] [(.long (1000000 : Int64))])) (fun tZ kZ => X0.ldc2Long hx hown (mvT hZ (hw _ (List.mem_of_getElem? (i := 18) rfl))) (g := (mkF m 55 #[.val (.int d)] [])) rfl (hb hby d1_55) _ kZ) ?_
                exact own_retL X0 hx Bd.returns  (hb hby d1_58) Bd.notSynchronized (by decide) (by decide) ⟨by rw [show tenthv d = 1000000 from by unfold tenthv; rw [if_neg hc0, if_neg hc1, if_neg hc2, if_neg hc3, if_neg hc4, if_neg hc5, if_pos hc6]], N0, e0⟩
              · refine own_by (S' := s₁.setTop (mkF m 59 #[.val (.int d)] [])) (fun tZ kZ => XS.icmpYes X0.here hx rfl (pc0 := 52) (pc' := 59) rfl (hb hby d1_52) rfl (feq hc6).2 (by decide) (by decide) kZ) ?_
                refine own_by (S' := s₁.setTop (mkF m 60 #[.val (.int d)] [(.int d)])) (fun tZ kZ => XS.iloadN X0.here hx rfl (hb hby d1_59) rfl kZ) ?_
                refine own_by (S' := s₁.setTop (mkF m 62 #[.val (.int d)] [(.int (7 : Int32)), (.int d)])) (fun tZ kZ => XS.bipush X0.here hx rfl (hb hby d1_60) kZ) ?_
                by_cases hc7 : d = (7 : Int32)
                · refine own_by (S' := s₁.setTop (mkF m 65 #[.val (.int d)] [])) (fun tZ kZ => XS.icmpNo X0.here hx rfl (hb hby d1_62) rfl (teq hc7).2 kZ) ?_
                  refine own_by (S' := s₁.setTop (mkF m 68 #[.val (.int d)] [(.long (20000 : Int64))])) (fun tZ kZ => X0.ldc2Long hx hown (mvT hZ (hw _ (List.mem_of_getElem? (i := 14) rfl))) (g := (mkF m 65 #[.val (.int d)] [])) rfl (hb hby d1_65) _ kZ) ?_
                  exact own_retL X0 hx Bd.returns  (hb hby d1_68) Bd.notSynchronized (by decide) (by decide) ⟨by rw [show tenthv d = 20000 from by unfold tenthv; rw [if_neg hc0, if_neg hc1, if_neg hc2, if_neg hc3, if_neg hc4, if_neg hc5, if_neg hc6, if_pos hc7]], N0, e0⟩
                · refine own_by (S' := s₁.setTop (mkF m 69 #[.val (.int d)] [])) (fun tZ kZ => XS.icmpYes X0.here hx rfl (pc0 := 62) (pc' := 69) rfl (hb hby d1_62) rfl (feq hc7).2 (by decide) (by decide) kZ) ?_
                  refine own_by (S' := s₁.setTop (mkF m 70 #[.val (.int d)] [(.int d)])) (fun tZ kZ => XS.iloadN X0.here hx rfl (hb hby d1_69) rfl kZ) ?_
                  refine own_by (S' := s₁.setTop (mkF m 72 #[.val (.int d)] [(.int (8 : Int32)), (.int d)])) (fun tZ kZ => XS.bipush X0.here hx rfl (hb hby d1_70) kZ) ?_
                  by_cases hc8 : d = (8 : Int32)
                  · refine own_by (S' := s₁.setTop (mkF m 75 #[.val (.int d)] [])) (fun tZ kZ => XS.icmpNo X0.here hx rfl (hb hby d1_72) rfl (teq hc8).2 kZ) ?_
                    refine own_by (S' := s₁.setTop (mkF m 76 #[.val (.int d)] [(.long (0 : Int64))])) (fun tZ kZ => XS.lconst X0.here hx rfl (hb hby d1_75) kZ) ?_
                    exact own_retL X0 hx Bd.returns  (hb hby d1_76) Bd.notSynchronized (by decide) (by decide) ⟨by rw [show tenthv d = 0 from by unfold tenthv; rw [if_neg hc0, if_neg hc1, if_neg hc2, if_neg hc3, if_neg hc4, if_neg hc5, if_neg hc6, if_neg hc7, if_pos hc8]], N0, e0⟩
                  · refine own_by (S' := s₁.setTop (mkF m 77 #[.val (.int d)] [])) (fun tZ kZ => XS.icmpYes X0.here hx rfl (pc0 := 72) (pc' := 77) rfl (hb hby d1_72) rfl (feq hc8).2 (by decide) (by decide) kZ) ?_
                    refine own_by (S' := s₁.setTop (mkF m 80 #[.val (.int d)] [(.long (150000 : Int64))])) (fun tZ kZ => X0.ldc2Long hx hown (mvT hZ (hw _ (List.mem_of_getElem? (i := 16) rfl))) (g := (mkF m 77 #[.val (.int d)] [])) rfl (hb hby d1_77) _ kZ) ?_
                    exact own_retL X0 hx Bd.returns  (hb hby d1_80) Bd.notSynchronized (by decide) (by decide) ⟨by rw [show tenthv d = 150000 from by unfold tenthv; rw [if_neg hc0, if_neg hc1, if_neg hc2, if_neg hc3, if_neg hc4, if_neg hc5, if_neg hc6, if_neg hc7, if_neg hc8]], N0, e0⟩
theorem d2_0 : decode prog_10_method_3_code 0 = .ok (.iload_n 0, 1) := by decide +kernel
theorem d2_1 : decode prog_10_method_3_code 1 = .ok (.bipush 50, 2) := by decide +kernel
theorem d2_3 : decode prog_10_method_3_code 3 = .ok (.irem, 1) := by decide +kernel
theorem d2_4 : decode prog_10_method_3_code 4 = .ok (.bipush 49, 2) := by decide +kernel
theorem d2_6 : decode prog_10_method_3_code 6 = .ok (.if_icmp .ne 9, 3) := by decide +kernel
theorem d2_9 : decode prog_10_method_3_code 9 = .ok (.ldc2_w 73, 3) := by decide +kernel
theorem d2_12 : decode prog_10_method_3_code 12 = .ok (.goto 13, 3) := by decide +kernel
theorem d2_15 : decode prog_10_method_3_code 15 = .ok (.getstatic 75, 3) := by decide +kernel
theorem d2_18 : decode prog_10_method_3_code 18 = .ok (.iload_n 0, 1) := by decide +kernel
theorem d2_19 : decode prog_10_method_3_code 19 = .ok (.getstatic 75, 3) := by decide +kernel
theorem d2_22 : decode prog_10_method_3_code 22 = .ok (.arraylength, 1) := by decide +kernel
theorem d2_23 : decode prog_10_method_3_code 23 = .ok (.irem, 1) := by decide +kernel
theorem d2_24 : decode prog_10_method_3_code 24 = .ok (.laload, 1) := by decide +kernel
theorem d2_25 : decode prog_10_method_3_code 25 = .ok (.lstore_n 1, 1) := by decide +kernel
theorem d2_26 : decode prog_10_method_3_code 26 = .ok (.lload_n 1, 1) := by decide +kernel
theorem d2_27 : decode prog_10_method_3_code 27 = .ok (.ldc2_w 79, 3) := by decide +kernel
theorem d2_30 : decode prog_10_method_3_code 30 = .ok (.lmul, 1) := by decide +kernel
theorem d2_31 : decode prog_10_method_3_code 31 = .ok (.lreturn, 1) := by decide +kernel
theorem pn_1 : plainName "com/example/fairgate/fairgate/JitWarmUp" = true := by first | (simp [plainName, overriddenIn]; done) | decide +kernel
theorem ef_rmG (m : MethodId) (q : Int32) : entryFrame m #[(.int q)] 3 = mkF m 0 #[.val (.int q), .unset, .unset] [] := by first | (simp [entryFrame, mkF, argsToLocals, Value.category, maxLocals]; done) | rfl
set_option maxRecDepth 65536 in
set_option maxHeartbeats 40000000 in
theorem rmG (l : Launch) (Z : State) (a0 : Array Value) (hw : ∀ d ∈ tables_1, d.before a0 Z = true) (ws : List Jvm.Cond) (q : Int32) (wg : Addr) (cl : Cell) (h0 : Heap) (n0 : Nat) (Z0 : n0 ≤ h0.size) (Sg : Sta Z h0 "com/example/fairgate/fairgate/JitWarmUp" "GAPS_MICROS" "[J" (.ref wg)) (Ar : Arr Z h0 wg cl .long) (Sz : cl.slots.size = (10 : Int32).toNatClampNeg) (hE : ∀ r : Int32, ¬ r < 0 → r < 10 → cl.slots[r.toNatClampNeg]? = some (.long (gapT r))) (hq : ¬ q < 0) :
    MetFree l (⟨"com/example/fairgate/fairgate/JitWarmUp", "gap", "(I)J"⟩ : MethodName) (head1 (Jvm.Cond.code (⟨"com/example/fairgate/fairgate/JitWarmUp", "gap", "(I)J"⟩ : MethodName) prog_10_method_3_code (3 : Nat) (Option.some Jvm.ClassFile.FieldType.long) :: ws) ({ frames := 0, cells := 0, slots := 0, locals := 0 } : Room)) (fun aZ UZ => aZ = #[(.int q)] ∧ Z.Warmed39 UZ.vm ∧ UZ.heap = h0) (fun _ _ _ _ _ => True) (fun _ UZ oZ VZ => ∃ vZ LZ, oZ = .returned vZ ∧ (QSame (some (.long (gapv q))) h0 n0) vZ VZ.heap LZ ∧ FrameEnd UZ oZ VZ LZ ({ frames := 0, cells := 0, slots := 0, locals := 0 } : Room).cells ({ frames := 0, cells := 0, slots := 0, locals := 0 } : Room).slots) := by
  refine MetFree.of_bodySF (plainFor_of_name pn_1) hisR ?_
  intro p e s m args below meth c s₁ Bd hml0 hP hK
  obtain ⟨rfl, hZ, hh⟩ := hP
  have hx := Bd.exec
  have hby := Bd.bytes
  have hml : c.maxLocals = 3 := hml0
  have hown : s.vm.findClass "com/example/fairgate/fairgate/JitWarmUp" = some m.cls := findClass_of_methodNamed Bd.named
  have hnm := (name_of_methodNamed Bd.named Bd.method).1
  have X0 : Stand p l e ({ frames := 0, cells := 0, slots := 0, locals := 0 } : Room) s m #[(.int q)] below meth c s₁ [] 0 0 := Stand.of_body Bd
  have e0 : s₁.heap = h0 := by rw [← hh, Bd.state]; rfl
  have N0 := Fr.nil n0
  show OwnG p e below (OwnE s (QSame (some (.long (gapv q))) h0 n0) ({ frames := 0, cells := 0, slots := 0, locals := 0 } : Room).cells ({ frames := 0, cells := 0, slots := 0, locals := 0 } : Room).slots) _
  refine own_by (S' := s₁.setTop (mkF m 0 #[.val (.int q), .unset, .unset] [])) (fun tZ kZ => castTop (ef_rmG m q) kZ) ?_
  have hm := own_mod10 q hq
  refine own_by (S' := s₁.setTop (mkF m 1 #[.val (.int q), .unset, .unset] [(.int q)])) (fun tZ kZ => XS.iloadN X0.here hx rfl (hb hby d2_0) rfl kZ) ?_
  refine own_by (S' := s₁.setTop (mkF m 3 #[.val (.int q), .unset, .unset] [(.int (50 : Int32)), (.int q)])) (fun tZ kZ => XS.bipush X0.here hx rfl (hb hby d2_1) kZ) ?_
  refine own_by (S' := s₁.setTop (mkF m 4 #[.val (.int q), .unset, .unset] [(.int (q % (50 : Int32)))])) (fun tZ kZ => Jvm.RoadKit.iremM X0 hx rfl (hb hby d2_3) rfl (by decide) kZ) ?_
  refine own_by (S' := s₁.setTop (mkF m 6 #[.val (.int q), .unset, .unset] [(.int (49 : Int32)), (.int (q % (50 : Int32)))])) (fun tZ kZ => XS.bipush X0.here hx rfl (hb hby d2_4) kZ) ?_
  by_cases hc : (q % (50 : Int32)) = (49 : Int32)
  · refine own_by (S' := s₁.setTop (mkF m 9 #[.val (.int q), .unset, .unset] [])) (fun tZ kZ => XS.icmpNo X0.here hx rfl (hb hby d2_6) rfl (teq hc).2 kZ) ?_
    refine own_by (S' := s₁.setTop (mkF m 12 #[.val (.int q), .unset, .unset] [(.long (7000 : Int64))])) (fun tZ kZ => X0.ldc2Long hx hown (mvT hZ (hw _ (List.mem_of_getElem? (i := 20) rfl))) (g := (mkF m 9 #[.val (.int q), .unset, .unset] [])) rfl (hb hby d2_9) _ kZ) ?_
    refine own_by (S' := s₁.setTop (mkF m 25 #[.val (.int q), .unset, .unset] [(.long (7000 : Int64))])) (fun tZ kZ => XS.goto X0.here hx rfl (pc0 := 12) (pc' := 25) rfl (hb hby d2_12) (by decide) (by decide) kZ) ?_
    refine own_by (S' := s₁.setTop (mkF m 26 #[.val (.int q), .val (.long (7000 : Int64)), .second] [])) (fun tZ kZ => XS.lstoreN X0.here hx rfl (hb hby d2_25) rfl (l' := #[.val (.int q), .val (.long (7000 : Int64)), .second]) rfl kZ) ?_
    refine own_by (S' := s₁.setTop (mkF m 27 #[.val (.int q), .val (.long (7000 : Int64)), .second] [(.long (7000 : Int64))])) (fun tZ kZ => XS.lloadN X0.here hx rfl (hb hby d2_26) rfl kZ) ?_
    refine own_by (S' := s₁.setTop (mkF m 30 #[.val (.int q), .val (.long (7000 : Int64)), .second] [(.long (1000 : Int64)), (.long (7000 : Int64))])) (fun tZ kZ => X0.ldc2Long hx hown (mvT hZ (hw _ (List.mem_of_getElem? (i := 11) rfl))) (g := (mkF m 27 #[.val (.int q), .val (.long (7000 : Int64)), .second] [(.long (7000 : Int64))])) rfl (hb hby d2_27) _ kZ) ?_
    refine own_by (S' := s₁.setTop (mkF m 31 #[.val (.int q), .val (.long (7000 : Int64)), .second] [(.long ((7000 : Int64) * (1000 : Int64)))])) (fun tZ kZ => XS.lmul X0.here hx rfl (hb hby d2_30) rfl kZ) ?_
    exact own_retL X0 hx Bd.returns  (hb hby d2_31) Bd.notSynchronized (by decide) (by decide) ⟨by rw [show gapv q = 7000 * 1000 from by unfold gapv; rw [if_pos hc]], N0, e0⟩
  · refine own_by (S' := s₁.setTop (mkF m 15 #[.val (.int q), .unset, .unset] [])) (fun tZ kZ => XS.icmpYes X0.here hx rfl (pc0 := 6) (pc' := 15) rfl (hb hby d2_6) rfl (feq hc).2 (by decide) (by decide) kZ) ?_
    obtain ⟨T1, X1, e1, st1⟩ := getS2 X0 hx hZ hown (host := "") (Or.inl (hw _ (List.mem_of_getElem? (i := 9) rfl))) Via.refl e0 Sg (g := (mkF m 15 #[.val (.int q), .unset, .unset] [])) rfl (hb hby d2_15)
    refine own_by (S' := T1.setTop (mkF m 18 #[.val (.int q), .unset, .unset] [(.ref wg)])) st1 ?_
    refine own_by (S' := T1.setTop (mkF m 19 #[.val (.int q), .unset, .unset] [(.int q), (.ref wg)])) (fun tZ kZ => XS.iloadN X1.here hx rfl (hb hby d2_18) rfl kZ) ?_
    obtain ⟨T2, X2, e2, st2⟩ := getS2 X1 hx hZ hown (host := "") (Or.inl (hw _ (List.mem_of_getElem? (i := 9) rfl))) Via.refl e1 Sg (g := (mkF m 19 #[.val (.int q), .unset, .unset] [(.int q), (.ref wg)])) rfl (hb hby d2_19)
    refine own_by (S' := T2.setTop (mkF m 22 #[.val (.int q), .unset, .unset] [(.ref wg), (.int q), (.ref wg)])) st2 ?_
    refine own_by (S' := T2.setTop (mkF m 23 #[.val (.int q), .unset, .unset] [(.int (10 : Int32)), (.int q), (.ref wg)])) (fun tZ kZ => X2.arraylength hx (by rw [e2]; exact Ar.1) (State.isArrayOf_alike hZ.alike Ar.2.1) (g := (mkF m 22 #[.val (.int q), .unset, .unset] [(.ref wg), (.int q), (.ref wg)])) rfl rfl (hb hby d2_22) _ (by rw [len_of Sz (by decide)]; exact kZ)) ?_
    refine own_by (S' := T2.setTop (mkF m 24 #[.val (.int q), .unset, .unset] [(.int (q % (10 : Int32))), (.ref wg)])) (fun tZ kZ => Jvm.RoadKit.iremM X2 hx rfl (hb hby d2_23) rfl (by decide) kZ) ?_
    refine own_by (S' := T2.setTop (mkF m 25 #[.val (.int q), .unset, .unset] [(.long (gapT (q % (10 : Int32))))])) (fun tZ kZ => X2.laload hx (j := (q % (10 : Int32))) (v := (.long (gapT (q % (10 : Int32))))) (by rw [e2]; exact Ar.1) (State.isArrayOf_alike hZ.alike Ar.2.1) Ar.2.2 (own_in Sz hm.1 hm.2) (hE _ hm.1 hm.2) (g := (mkF m 24 #[.val (.int q), .unset, .unset] [(.int (q % (10 : Int32))), (.ref wg)])) rfl rfl (hb hby d2_24) _ kZ) ?_
    obtain ⟨v25, hv25⟩ : ∃ z : Int64, z = (gapT (q % (10 : Int32))) := ⟨_, rfl⟩
    rw [← hv25]
    refine own_by (S' := T2.setTop (mkF m 26 #[.val (.int q), .val (.long v25), .second] [])) (fun tZ kZ => XS.lstoreN X2.here hx rfl (hb hby d2_25) rfl (l' := #[.val (.int q), .val (.long v25), .second]) rfl kZ) ?_
    refine own_by (S' := T2.setTop (mkF m 27 #[.val (.int q), .val (.long v25), .second] [(.long v25)])) (fun tZ kZ => XS.lloadN X2.here hx rfl (hb hby d2_26) rfl kZ) ?_
    refine own_by (S' := T2.setTop (mkF m 30 #[.val (.int q), .val (.long v25), .second] [(.long (1000 : Int64)), (.long v25)])) (fun tZ kZ => X2.ldc2Long hx hown (mvT hZ (hw _ (List.mem_of_getElem? (i := 11) rfl))) (g := (mkF m 27 #[.val (.int q), .val (.long v25), .second] [(.long v25)])) rfl (hb hby d2_27) _ kZ) ?_
    refine own_by (S' := T2.setTop (mkF m 31 #[.val (.int q), .val (.long v25), .second] [(.long (v25 * (1000 : Int64)))])) (fun tZ kZ => XS.lmul X2.here hx rfl (hb hby d2_30) rfl kZ) ?_
    exact own_retL X2 hx Bd.returns  (hb hby d2_31) Bd.notSynchronized (by decide) (by decide) ⟨by rw [show gapv q = gapT (q % 10) * 1000 from by unfold gapv; rw [if_neg hc], hv25], N0, e2⟩
def Q0 (h0 : Heap) (n0 : Nat) (v : Option Value) (h : Heap) (L : List Loc) : Prop := v = some (.int 1) ∧ Fr n0 L
theorem ef_rm0 (m : MethodId) (p1 : Int32) : entryFrame m #[(.int p1)] maxLocals = mkF m 0 #[.val (.int p1), .unset, .unset, .unset, .unset] [] := by first | (simp [entryFrame, mkF, argsToLocals, Value.category, maxLocals]; done) | rfl
set_option maxRecDepth 65536 in
set_option maxHeartbeats 40000000 in
theorem rm0 (l : Launch) (Z : State) (a0 : Array Value) (hw : ∀ d ∈ tables_1, d.before a0 Z = true) (ws : List Jvm.Cond) (p1 : Int32) (wg : Addr) (cl : Cell) (h0 : Heap) (n0 : Nat) (Z0 : n0 ≤ h0.size) (Sg : Sta Z h0 "com/example/fairgate/fairgate/JitWarmUp" "GAPS_MICROS" "[J" (.ref wg)) (Ar : Arr Z h0 wg cl .long) (Sz : cl.slots.size = (10 : Int32).toNatClampNeg) (hE : ∀ r : Int32, ¬ r < 0 → r < 10 → cl.slots[r.toNatClampNeg]? = some (.long (gapT r))) :
    MetFree l x (head1 (Jvm.Cond.code x code maxLocals ret :: ws) room_1) (fun aZ UZ => aZ = #[(.int p1)] ∧ Z.Warmed39 UZ.vm ∧ UZ.heap = h0) (fun _ _ _ _ _ => True) (fun _ UZ oZ VZ => ∃ vZ LZ, oZ = .returned vZ ∧ (Q0  h0 n0) vZ VZ.heap LZ ∧ FrameEnd UZ oZ VZ LZ room_1.cells room_1.slots) := by
  refine MetFree.of_bodySF (plainFor_of_name pn_0) hisR ?_
  intro p e s m args below meth c s₁ Bd hml0 hP hK
  obtain ⟨rfl, hZ, hh⟩ := hP
  have hx := Bd.exec
  have hby := Bd.bytes
  have hml : c.maxLocals = 5 := hml0
  have hown : s.vm.findClass "com/example/fairgate/fairgate/JitWarmUpGapPinLaw" = some m.cls := findClass_of_methodNamed Bd.named
  have hnm := (name_of_methodNamed Bd.named Bd.method).1
  have X0 : Stand p l e room_1 s m #[(.int p1)] below meth c s₁ [] 0 0 := Stand.of_body Bd
  have e0 : s₁.heap = h0 := by rw [← hh, Bd.state]; rfl
  have N0 := Fr.nil n0
  show OwnG p e below (OwnE s (Q0  h0 n0) room_1.cells room_1.slots) _
  refine own_by (S' := s₁.setTop (mkF m 0 #[.val (.int p1), .unset, .unset, .unset, .unset] [])) (fun tZ kZ => castTop (ef_rm0 m p1) kZ) ?_
  refine own_by (S' := s₁.setTop (mkF m 1 #[.val (.int p1), .unset, .unset, .unset, .unset] [(.int p1)])) (fun tZ kZ => XS.iloadN X0.here hx rfl (hb hby at_0) rfl kZ) ?_
  refine own_by (S' := s₁.setTop (mkF m 3 #[.val (.int p1), .unset, .unset, .unset, .unset] [(.int (2147483647 : Int32)), (.int p1)])) (fun tZ kZ => X0.ldcInt hx hown (mvT hZ (hw _ (List.mem_of_getElem? (i := 0) rfl))) (g := (mkF m 1 #[.val (.int p1), .unset, .unset, .unset, .unset] [(.int p1)])) rfl (hb hby at_1) _ kZ) ?_
  refine own_by (S' := s₁.setTop (mkF m 4 #[.val (.int p1), .unset, .unset, .unset, .unset] [(.int (p1 &&& (2147483647 : Int32)))])) (fun tZ kZ => XS.iand X0.here hx rfl (hb hby at_3) rfl kZ) ?_
  obtain ⟨vs, hvs⟩ : ∃ z : Int32, z = (p1 &&& (2147483647 : Int32)) := ⟨_, rfl⟩
  rw [← hvs]
  refine own_by (S' := s₁.setTop (mkF m 5 #[.val (.int p1), .val (.int vs), .unset, .unset, .unset] [])) (fun tZ kZ => XS.istoreN X0.here hx rfl (hb hby at_4) rfl (l' := #[.val (.int p1), .val (.int vs), .unset, .unset, .unset]) rfl kZ) ?_
  refine own_by (S' := s₁.setTop (mkF m 6 #[.val (.int p1), .val (.int vs), .unset, .unset, .unset] [(.int vs)])) (fun tZ kZ => XS.iloadN X0.here hx rfl (hb hby at_5) rfl kZ) ?_
  refine own_by (S' := s₁.setTop (mkF m 8 #[.val (.int p1), .val (.int vs), .unset, .unset, .unset] [(.int (50 : Int32)), (.int vs)])) (fun tZ kZ => XS.bipush X0.here hx rfl (hb hby at_6) kZ) ?_
  have hs : ¬ vs < 0 := by rw [hvs]; exact own_pos p1
  refine own_by (S' := s₁.setTop (mkF m 9 #[.val (.int p1), .val (.int vs), .unset, .unset, .unset] [(.int (vs % (50 : Int32)))])) (fun tZ kZ => Jvm.RoadKit.iremM X0 hx rfl (hb hby at_8) rfl (by decide) kZ) ?_
  obtain ⟨vq, hvq⟩ : ∃ z : Int32, z = (vs % (50 : Int32)) := ⟨_, rfl⟩
  rw [← hvq]
  refine own_by (S' := s₁.setTop (mkF m 10 #[.val (.int p1), .val (.int vs), .val (.int vq), .unset, .unset] [])) (fun tZ kZ => XS.istoreN X0.here hx rfl (hb hby at_9) rfl (l' := #[.val (.int p1), .val (.int vs), .val (.int vq), .unset, .unset]) rfl kZ) ?_
  refine own_by (S' := s₁.setTop (mkF m 11 #[.val (.int p1), .val (.int vs), .val (.int vq), .unset, .unset] [(.int vq)])) (fun tZ kZ => XS.iloadN X0.here hx rfl (hb hby at_10) rfl kZ) ?_
  refine own_by (S' := s₁.setTop (mkF m 13 #[.val (.int p1), .val (.int vs), .val (.int vq), .unset, .unset] [(.int (49 : Int32)), (.int vq)])) (fun tZ kZ => XS.bipush X0.here hx rfl (hb hby at_11) kZ) ?_
  by_cases hc : vq = (49 : Int32)
  · refine own_by (S' := s₁.setTop (mkF m 16 #[.val (.int p1), .val (.int vs), .val (.int vq), .unset, .unset] [])) (fun tZ kZ => XS.icmpNo X0.here hx rfl (hb hby at_13) rfl (teq hc).2 kZ) ?_
    refine own_by (S' := s₁.setTop (mkF m 19 #[.val (.int p1), .val (.int vs), .val (.int vq), .unset, .unset] [(.long (7000000 : Int64))])) (fun tZ kZ => X0.ldc2Long hx hown (mvT hZ (hw _ (List.mem_of_getElem? (i := 19) rfl))) (g := (mkF m 16 #[.val (.int p1), .val (.int vs), .val (.int vq), .unset, .unset] [])) rfl (hb hby at_16) _ kZ) ?_
    refine own_by (S' := s₁.setTop (mkF m 29 #[.val (.int p1), .val (.int vs), .val (.int vq), .unset, .unset] [(.long (7000000 : Int64))])) (fun tZ kZ => XS.goto X0.here hx rfl (pc0 := 19) (pc' := 29) rfl (hb hby at_19) (by decide) (by decide) kZ) ?_
    refine own_by (S' := s₁.setTop (mkF m 30 #[.val (.int p1), .val (.int vs), .val (.int vq), .val (.long (7000000 : Int64)), .second] [])) (fun tZ kZ => XS.lstoreN X0.here hx rfl (hb hby at_29) rfl (l' := #[.val (.int p1), .val (.int vs), .val (.int vq), .val (.long (7000000 : Int64)), .second]) rfl kZ) ?_
    refine own_by (S' := s₁.setTop (mkF m 31 #[.val (.int p1), .val (.int vs), .val (.int vq), .val (.long (7000000 : Int64)), .second] [(.int vs)])) (fun tZ kZ => XS.iloadN X0.here hx rfl (hb hby at_30) rfl kZ) ?_
    obtain ⟨_, _, ⟨T1, L1, k1, n1⟩, -, X1, ⟨Lc1, hQ1, l1, y1, z1⟩, st1⟩ := Jvm.LawKit.callS X0 hx (y := (⟨"com/example/fairgate/fairgate/JitWarmUp", "gap", "(I)J"⟩ : MethodName)) hown (mvT hZ (hw _ (List.mem_of_getElem? (i := 5) rfl))) (mvT hZ (hw _ (List.mem_of_getElem? (i := 6) rfl))) (mvT hZ (hw _ (List.mem_of_getElem? (i := 7) rfl))) (mvT hZ (hw _ (List.mem_of_getElem? (i := 8) rfl))) (by decide) (backOf (W := 0) (rmG l Z a0 hw [] vs wg cl h0 n0 Z0 Sg Ar Sz hE hs) hZ (hw _ (List.mem_of_getElem? (i := 8) rfl)) (hw _ (List.mem_of_getElem? (i := 7) rfl)) (by decide) (by decide)) (g := (mkF m 31 #[.val (.int p1), .val (.int vs), .val (.int vq), .val (.long (7000000 : Int64)), .second] [(.int vs)])) rfl (by rw [hml]; rfl) (argsL := [(.int vs)]) (rest := []) (lenOf pd_0 rfl) rfl (by show 2 * 0 + _ ≤ _; exact Nat.le_of_eq rfl) (hb hby at_31) (fun _ _ => ⟨rfl, e0, (by decide : 0 + 0 ≤ _), (by decide : 0 + 0 ≤ _)⟩)
    dsimp only [Pt.U, Pt.locs, Pt.cells, Pt.slots] at X1 l1 y1 z1 st1 hQ1
    subst l1 y1 z1
    obtain ⟨rfl, N1q, heq1⟩ := hQ1
    have N1 := Fr.app N0 N1q
    refine own_by (S' := T1.setTop (mkF m 34 #[.val (.int p1), .val (.int vs), .val (.int vq), .val (.long (7000000 : Int64)), .second] [(.long (gapv vs))])) (fun tZ kZ => st1 _ kZ) ?_
    refine own_by (S' := T1.setTop (mkF m 35 #[.val (.int p1), .val (.int vs), .val (.int vq), .val (.long (7000000 : Int64)), .second] [(.long (7000000 : Int64)), (.long (gapv vs))])) (fun tZ kZ => XS.lloadN X1.here hx rfl (hb hby at_34) rfl kZ) ?_
    refine own_by (S' := T1.setTop (mkF m 36 #[.val (.int p1), .val (.int vs), .val (.int vq), .val (.long (7000000 : Int64)), .second] [(.int (lcmpW (gapv vs) (7000000 : Int64)))])) (fun tZ kZ => XS.lcmp X1.here hx rfl (hb hby at_35) rfl kZ) ?_
    have hk : lcmpW (gapv vs) (7000000 : Int64) = 0 := (lw_eq _ _).mpr (by unfold gapv; rw [← hvq, if_pos hc]; decide)
    refine own_by (S' := T1.setTop (mkF m 39 #[.val (.int p1), .val (.int vs), .val (.int vq), .val (.long (7000000 : Int64)), .second] [])) (fun tZ kZ => XS.ifNo X1.here hx rfl (hb hby at_36) rfl ((if0 _ _).trans (teq hk).2) kZ) ?_
    refine own_by (S' := T1.setTop (mkF m 40 #[.val (.int p1), .val (.int vs), .val (.int vq), .val (.long (7000000 : Int64)), .second] [(.int (1 : Int32))])) (fun tZ kZ => XS.iconst X1.here hx rfl (hb hby at_39) kZ) ?_
    refine own_by (S' := T1.setTop (mkF m 44 #[.val (.int p1), .val (.int vs), .val (.int vq), .val (.long (7000000 : Int64)), .second] [(.int (1 : Int32))])) (fun tZ kZ => XS.goto X1.here hx rfl (pc0 := 40) (pc' := 44) rfl (hb hby at_40) (by decide) (by decide) kZ) ?_
    exact own_retI X1 hx (t := .boolean) Bd.returns (by simp) rfl (hb hby at_44) Bd.notSynchronized (by decide) (by decide) ⟨rfl, N1⟩
  · refine own_by (S' := s₁.setTop (mkF m 22 #[.val (.int p1), .val (.int vs), .val (.int vq), .unset, .unset] [])) (fun tZ kZ => XS.icmpYes X0.here hx rfl (pc0 := 13) (pc' := 22) rfl (hb hby at_13) rfl (feq hc).2 (by decide) (by decide) kZ) ?_
    refine own_by (S' := s₁.setTop (mkF m 23 #[.val (.int p1), .val (.int vs), .val (.int vq), .unset, .unset] [(.int vq)])) (fun tZ kZ => XS.iloadN X0.here hx rfl (hb hby at_22) rfl kZ) ?_
    refine own_by (S' := s₁.setTop (mkF m 25 #[.val (.int p1), .val (.int vs), .val (.int vq), .unset, .unset] [(.int (10 : Int32)), (.int vq)])) (fun tZ kZ => XS.bipush X0.here hx rfl (hb hby at_23) kZ) ?_
    refine own_by (S' := s₁.setTop (mkF m 26 #[.val (.int p1), .val (.int vs), .val (.int vq), .unset, .unset] [(.int (vq % (10 : Int32)))])) (fun tZ kZ => Jvm.RoadKit.iremM X0 hx rfl (hb hby at_25) rfl (by decide) kZ) ?_
    obtain ⟨_, _, ⟨T2, L2, k2, n2⟩, -, X2, ⟨Lc2, hQ2, l2, y2, z2⟩, st2⟩ := Jvm.LawKit.callS X0 hx (y := (⟨"com/example/fairgate/fairgate/JitWarmUpGapPinLaw", "tenth", "(I)J"⟩ : MethodName)) hown (mvT hZ (hw _ (List.mem_of_getElem? (i := 1) rfl))) (mvT hZ (hw _ (List.mem_of_getElem? (i := 2) rfl))) (mvT hZ (hw _ (List.mem_of_getElem? (i := 3) rfl))) (mvT hZ (hw _ (List.mem_of_getElem? (i := 4) rfl))) (by decide) (backOf (W := 0) (rmT l Z a0 hw [] (vq % (10 : Int32)) h0 n0 Z0) hZ (hw _ (List.mem_of_getElem? (i := 4) rfl)) (hw _ (List.mem_of_getElem? (i := 3) rfl)) (by decide) (by decide)) (g := (mkF m 26 #[.val (.int p1), .val (.int vs), .val (.int vq), .unset, .unset] [(.int (vq % (10 : Int32)))])) rfl (by rw [hml]; rfl) (argsL := [(.int (vq % (10 : Int32)))]) (rest := []) (lenOf pd_0 rfl) rfl (by show 2 * 0 + _ ≤ _; exact Nat.le_of_eq rfl) (hb hby at_26) (fun _ _ => ⟨rfl, e0, (by decide : 0 + 0 ≤ _), (by decide : 0 + 0 ≤ _)⟩)
    dsimp only [Pt.U, Pt.locs, Pt.cells, Pt.slots] at X2 l2 y2 z2 st2 hQ2
    subst l2 y2 z2
    obtain ⟨rfl, N2q, heq2⟩ := hQ2
    have N2 := Fr.app N0 N2q
    refine own_by (S' := T2.setTop (mkF m 29 #[.val (.int p1), .val (.int vs), .val (.int vq), .unset, .unset] [(.long (tenthv (vq % (10 : Int32))))])) (fun tZ kZ => st2 _ kZ) ?_
    obtain ⟨vw, hvw⟩ : ∃ z : Int64, z = (tenthv (vq % (10 : Int32))) := ⟨_, rfl⟩
    rw [← hvw]
    refine own_by (S' := T2.setTop (mkF m 30 #[.val (.int p1), .val (.int vs), .val (.int vq), .val (.long vw), .second] [])) (fun tZ kZ => XS.lstoreN X2.here hx rfl (hb hby at_29) rfl (l' := #[.val (.int p1), .val (.int vs), .val (.int vq), .val (.long vw), .second]) rfl kZ) ?_
    refine own_by (S' := T2.setTop (mkF m 31 #[.val (.int p1), .val (.int vs), .val (.int vq), .val (.long vw), .second] [(.int vs)])) (fun tZ kZ => XS.iloadN X2.here hx rfl (hb hby at_30) rfl kZ) ?_
    obtain ⟨_, _, ⟨T3, L3, k3, n3⟩, -, X3, ⟨Lc3, hQ3, l3, y3, z3⟩, st3⟩ := Jvm.LawKit.callS X2 hx (y := (⟨"com/example/fairgate/fairgate/JitWarmUp", "gap", "(I)J"⟩ : MethodName)) hown (mvT hZ (hw _ (List.mem_of_getElem? (i := 5) rfl))) (mvT hZ (hw _ (List.mem_of_getElem? (i := 6) rfl))) (mvT hZ (hw _ (List.mem_of_getElem? (i := 7) rfl))) (mvT hZ (hw _ (List.mem_of_getElem? (i := 8) rfl))) (by decide) (backOf (W := 0) (rmG l Z a0 hw [] vs wg cl h0 n0 Z0 Sg Ar Sz hE hs) hZ (hw _ (List.mem_of_getElem? (i := 8) rfl)) (hw _ (List.mem_of_getElem? (i := 7) rfl)) (by decide) (by decide)) (g := (mkF m 31 #[.val (.int p1), .val (.int vs), .val (.int vq), .val (.long vw), .second] [(.int vs)])) rfl (by rw [hml]; rfl) (argsL := [(.int vs)]) (rest := []) (lenOf pd_0 rfl) rfl (by show 2 * 0 + _ ≤ _; exact Nat.le_of_eq rfl) (hb hby at_31) (fun _ _ => ⟨rfl, heq2, (by decide : 0 + 0 ≤ _), (by decide : 0 + 0 ≤ _)⟩)
    dsimp only [Pt.U, Pt.locs, Pt.cells, Pt.slots] at X3 l3 y3 z3 st3 hQ3
    subst l3 y3 z3
    obtain ⟨rfl, N3q, heq3⟩ := hQ3
    have N3 := Fr.app N2 N3q
    refine own_by (S' := T3.setTop (mkF m 34 #[.val (.int p1), .val (.int vs), .val (.int vq), .val (.long vw), .second] [(.long (gapv vs))])) (fun tZ kZ => st3 _ kZ) ?_
    refine own_by (S' := T3.setTop (mkF m 35 #[.val (.int p1), .val (.int vs), .val (.int vq), .val (.long vw), .second] [(.long vw), (.long (gapv vs))])) (fun tZ kZ => XS.lloadN X3.here hx rfl (hb hby at_34) rfl kZ) ?_
    refine own_by (S' := T3.setTop (mkF m 36 #[.val (.int p1), .val (.int vs), .val (.int vq), .val (.long vw), .second] [(.int (lcmpW (gapv vs) vw))])) (fun tZ kZ => XS.lcmp X3.here hx rfl (hb hby at_35) rfl kZ) ?_
    have hk : lcmpW (gapv vs) vw = 0 := (lw_eq _ _).mpr (by unfold gapv; rw [← hvq, if_neg hc, own_key, hvw, hvq, own_mod50 vs hs])
    refine own_by (S' := T3.setTop (mkF m 39 #[.val (.int p1), .val (.int vs), .val (.int vq), .val (.long vw), .second] [])) (fun tZ kZ => XS.ifNo X3.here hx rfl (hb hby at_36) rfl ((if0 _ _).trans (teq hk).2) kZ) ?_
    refine own_by (S' := T3.setTop (mkF m 40 #[.val (.int p1), .val (.int vs), .val (.int vq), .val (.long vw), .second] [(.int (1 : Int32))])) (fun tZ kZ => XS.iconst X3.here hx rfl (hb hby at_39) kZ) ?_
    refine own_by (S' := T3.setTop (mkF m 44 #[.val (.int p1), .val (.int vs), .val (.int vq), .val (.long vw), .second] [(.int (1 : Int32))])) (fun tZ kZ => XS.goto X3.here hx rfl (pc0 := 40) (pc' := 44) rfl (hb hby at_40) (by decide) (by decide) kZ) ?_
    exact own_retI X3 hx (t := .boolean) Bd.returns (by simp) rfl (hb hby at_44) Bd.notSynchronized (by decide) (by decide) ⟨rfl, N3⟩
set_option maxRecDepth 65536 in
set_option maxHeartbeats 40000000 in
theorem comes_1 {Post : Tables → Env → Array Value → State → Outcome → State → Prop} (hpost : ∀ tb e args s v u, (limb_1_1.after args s (.returned v) u = true ∧ limb_1_2.after args s (.returned v) u = true ∧ True) → FrameEnd s (.returned v) u (Jvm.fieldLocs frame_1_writes args s ++ Jvm.arrayLocs frame_1_arrays args s ++ Jvm.staticLocs frame_1_statics s) 0 0 → Post tb e args s (.returned v) u) :
    ArmFor flags0 classFile x code maxLocals ret World_1 tables_1 room_1 Calls_1 rest_1 Pre_1 Post := by
  intro l hfl _ _ p e ha hc hk s m args below hf hA hF happ hP
  obtain ⟨hcalls, hrest, hpre⟩ := hP
  obtain ⟨-, -, -, hnamed, -, -, -, hat⟩ := (Spec.applies_iff hf).mp happ
  obtain ⟨hg, hn⟩ := and_e (Cond.before_iff.mp (show (Jvm.Cond.and given_1 narrow_1).before args s = true from hpre))
  obtain ⟨gc, gr0⟩ := and_e hg
  obtain ⟨w0, rfl⟩ : ∃ w0 : Value, args = #[w0] := by
    have hs : args.size = 1 := by simpa [Cond.value, given_1] using gc
    obtain ⟨L⟩ := args
    match L, hs with
    | [w0], _ => exact ⟨w0, rfl⟩
  have hw := fun d (hd : d ∈ tables_1) => atoms_spec (ws := Jvm.Cond.code x code maxLocals ret :: tables_1) hat d (List.mem_cons_of_mem _ hd)
  have hfit : Fit s := fun {y c} hc i hi => by
    obtain ⟨ha, rfl⟩ := Array.getElem?_eq_some_iff.mp hc
    have q := List.all_eq_true.mp ((Array.all_eq_true_iff_forall_mem.mp hF) _ (Array.getElem_mem ha)) i (List.mem_range.mpr hi)
    simpa [Array.getElem?_eq_getElem hi] using q
  obtain ⟨i0, ei0⟩ := is_v gr0
  obtain rfl : w0 = (.int i0) := Option.some.inj ei0
  obtain ⟨b0, c0⟩ := and_e hn
  obtain ⟨b1, c1⟩ := and_e c0
  obtain ⟨b2, c2⟩ := and_e c1
  obtain ⟨b3, c3⟩ := and_e c2
  obtain ⟨b4, c4⟩ := and_e c3
  obtain ⟨b5, c5⟩ := and_e c4
  obtain ⟨b6, c6⟩ := and_e c5
  obtain ⟨b7, c7⟩ := and_e c6
  obtain ⟨b8, c8⟩ := and_e c7
  obtain ⟨b9, c9⟩ := and_e c8
  obtain ⟨b10, c10⟩ := and_e c9
  obtain ⟨wg, ew⟩ := arr_v b0
  obtain ⟨clg, Ag⟩ := Arr.start ew b0
  have Sg : Sta s s.heap "com/example/fairgate/fairgate/JitWarmUp" "GAPS_MICROS" "[J" (.ref wg) := Sta.start ew (Or.inr ⟨(hw _ (List.mem_of_getElem? (i := 7) rfl)), (hw _ (List.mem_of_getElem? (i := 10) rfl))⟩)
  have Szg := own_size ew Ag b1
  have x0 := own_elL ew Ag b2
  have x1 := own_elL ew Ag b3
  have x2 := own_elL ew Ag b4
  have x3 := own_elL ew Ag b5
  have x4 := own_elL ew Ag b6
  have x5 := own_elL ew Ag b7
  have x6 := own_elL ew Ag b8
  have x7 := own_elL ew Ag b9
  have x8 := own_elL ew Ag b10
  have x9 := own_elL ew Ag c10
  have hEg : ∀ r : Int32, ¬ r < 0 → r < 10 → clg.slots[r.toNatClampNeg]? = some (.long (gapT r)) := fun r h1 h2 => by
    rcases own_ten r h1 h2 with rfl | rfl | rfl | rfl | rfl | rfl | rfl | rfl | rfl | rfl
    · exact x0
    · exact x1
    · exact x2
    · exact x3
    · exact x4
    · exact x5
    · exact x6
    · exact x7
    · exact x8
    · exact x9
  obtain ⟨n, o, h1, h2, h3, _, L, rfl, ⟨rfl, N⟩, hq⟩ := rm0 l s _ hw tables_1 i0 wg clg s.heap s.heap.size (Nat.le_refl _) Sg Ag Szg hEg p e ha hc hk s m _ below hf ((Spec.applies_iff_loose hf).mp happ).1 ⟨rfl, State.Warmed39.refl s, rfl⟩ trivial
  refine ⟨n, _, h1, h2, h3, hpost _ _ _ _ _ _ ⟨Cond.after_iff.mpr rfl, Cond.after_iff.mpr (eq_i res_at (Term.int_eval (1)) rfl), trivial⟩ ⟨hq.1, hq.2.1, (hq.2.2.sift fun y hy => Or.inr (N y hy)).mono (by decide) (by decide)⟩⟩
theorem main_1_1 : Claimed_1_1 := comes_1 fun _ _ _ _ _ _ h hF => ⟨h.1, hF⟩
theorem main_1_2 : Claimed_1_2 := comes_1 fun _ _ _ _ _ _ h hF => ⟨h.2.1, hF⟩

end Jvm.Pilot.@@N@@
namespace Jvm.Pilot.@@N@@
open Jvm Jvm.ClassFile Sem Op Lib Jvm.Free Jvm.Stand Jvm.Pilot.@@N@@.Jvm.D
/-! MADE BY PROGRAM (witnessworld.py) out of the Statement's table words and the real class files: 11 classes; the members and pool entries that the words name. The judged class is class 1, her method 1. -/
namespace start1
open Jvm.ClassFile
def u (s : String) : CpInfo := .utf8 (stringToUtf16 s)
/-- a pool by its gaps: so many unusable entries, then the entry; so many at the end -/
def gap : Nat → List CpInfo → List CpInfo
  | 0, r => r
  | n + 1, r => .unusable :: gap n r
def poolList (es : List (Nat × CpInfo)) (last : Nat) : List CpInfo := es.foldr (fun e r => gap e.1 (e.2 :: r)) (gap last [])
def pool (es : List (Nat × CpInfo)) (last : Nat) : Array CpInfo := ⟨poolList es last⟩
def fileOf (pool : Array CpInfo) (this : Nat) (attrs : Array Attribute := #[]) (ms : Array MethodInfo := #[]) (fl : Nat := 33) (sup : Nat := 0) (ifs : Array Nat := #[]) (fds : Array FieldInfo := #[]) : ClassFile where
  minorVersion := 0
  majorVersion := 65
  constantPool := pool
  accessFlags := fl
  thisClass := this
  superClass := sup
  interfaces := ifs
  fields := fds
  methods := ms
  attributes := attrs
def plain (name : String) (sup : Option ClassId) : Class where
  name := name
  kind := .ordinary
  loader := none
  accessFlags := 33
  super := sup
  interfaces := #[]
  cf := none
  fields := #[]
  methods := #[]
  instanceTypes := #[]
  staticTypes := #[]
  resolved := #[]
  callSites := []
  init := .initialized
  statics := none
  mirror := none

def pool0 : Array CpInfo := pool [(5, u "<init>"), (0, u "()V"), (1, .class_ 10), (1, u "java/lang/Object")] 113

def k0m0 : Method := { name := "<init>", desc := "()V", sig := { parameters := [], returnType := none }, accessFlags := 1, code := none }
/-- java/lang/Object -/
def k0 : Class := { plain "java/lang/Object" none with
  accessFlags := 33
  interfaces := #[]
  cf := some (fileOf pool0 8 #[] #[{ accessFlags := 1, nameIndex := 5, descriptorIndex := 6, attributes := #[] }] 33 0 #[] #[])
  fields := #[]
  methods := #[k0m0]
  instanceTypes := #[]
  staticTypes := #[]
  resolved := Array.replicate 124 none
  statics := none }

def pool1 : Array CpInfo := pool [(2, .class_ 4), (1, u "java/lang/Object"), (0, u "<init>"), (0, u "()V"), (0, .integer 2147483647), (0, .long 7000000), (1, .methodref 11 12), (0, .class_ 13), (0, .nameAndType 14 15), (0, u "com/example/fairgate/fairgate/JitWarmUpGapPinLaw"), (0, u "tenth"), (0, u "(I)J"), (0, .methodref 17 18), (0, .class_ 19), (0, .nameAndType 20 15), (0, u "com/example/fairgate/fairgate/JitWarmUp"), (0, u "gap"), (0, .long 30000), (1, .long 100000), (1, .long 300000), (1, .long 50000), (1, .long 1000000), (1, .long 20000), (1, .long 150000), (3, u "law"), (0, u "(I)Z")] 3

def k1m0 : Method := { name := "<init>", desc := "()V", sig := { parameters := [], returnType := none }, accessFlags := 2, code := none }
def k1c1 : Code := { maxStack := 4, maxLocals := 5, code := code, exceptionTable := #[], attributes := #[] }
def k1m1 : Method := { name := "law", desc := "(I)Z", sig := { parameters := [.int], returnType := some .boolean }, accessFlags := 9, code := some k1c1 }
def k1c2 : Code := { maxStack := 2, maxLocals := 1, code := method_3_code, exceptionTable := #[], attributes := #[] }
def k1m2 : Method := { name := "tenth", desc := "(I)J", sig := { parameters := [.int], returnType := some .long }, accessFlags := 10, code := some k1c2 }
/-- com/example/fairgate/fairgate/JitWarmUpGapPinLaw -/
def k1 : Class := { plain "com/example/fairgate/fairgate/JitWarmUpGapPinLaw" (some 0) with
  accessFlags := 49
  interfaces := #[]
  cf := some (fileOf pool1 11 #[] #[{ accessFlags := 2, nameIndex := 5, descriptorIndex := 6, attributes := #[] }, { accessFlags := 9, nameIndex := 37, descriptorIndex := 38, attributes := #[] }, { accessFlags := 10, nameIndex := 14, descriptorIndex := 15, attributes := #[] }] 49 2 #[] #[])
  fields := #[]
  methods := #[k1m0, k1m1, k1m2]
  instanceTypes := #[]
  staticTypes := #[]
  resolved := Array.replicate 42 none
  statics := none }

def pool2 : Array CpInfo := pool [(2, .class_ 4), (1, u "java/lang/Object"), (0, u "<init>"), (0, u "()V"), (15, .class_ 23), (0, u "com/example/fairgate/fairgate/JitWarmUp$BatchEnd"), (23, .class_ 48), (0, u "com/example/fairgate/fairgate/JitWarmUp"), (3, .class_ 54), (1, u "com/example/fairgate/fairgate/JitWarmUp$Batch"), (18, .long 7000), (1, .fieldref 47 76), (0, .nameAndType 77 78), (0, u "GAPS_MICROS"), (0, u "[J"), (0, .long 1000), (15, u "kept"), (0, u "[[B"), (45, u "LEAST_BATCHES"), (0, u "I"), (2, u "MOST_MILLIS"), (0, u "J"), (2, u "QUIET_SPAN_MILLIS"), (0, u "QUIET_PERCENT"), (0, u "NANOS_PER_MILLI"), (0, u "IDLE_EVERY"), (1, u "IDLE_MICROS"), (0, u "GARBAGE_CHUNK"), (0, u "MOST_GARBAGE"), (0, u "KEPT_CHUNKS"), (11, u "gap"), (0, u "(I)J")] 10

def k2m0 : Method := { name := "<init>", desc := "()V", sig := { parameters := [], returnType := none }, accessFlags := 2, code := none }
def k2c1 : Code := { maxStack := 4, maxLocals := 3, code := prog_10_method_3_code, exceptionTable := #[], attributes := #[] }
def k2m1 : Method := { name := "gap", desc := "(I)J", sig := { parameters := [.int], returnType := some .long }, accessFlags := 9, code := some k2c1 }
/-- com/example/fairgate/fairgate/JitWarmUp -/
def k2 : Class := { plain "com/example/fairgate/fairgate/JitWarmUp" (some 0) with
  accessFlags := 49
  interfaces := #[]
  cf := some (fileOf pool2 47 #[.nestMembers #[22, 52]] #[{ accessFlags := 2, nameIndex := 5, descriptorIndex := 6, attributes := #[] }, { accessFlags := 9, nameIndex := 170, descriptorIndex := 171, attributes := #[] }] 49 2 #[] #[{ accessFlags := 26, nameIndex := 142, descriptorIndex := 143, attributes := #[] }, { accessFlags := 26, nameIndex := 146, descriptorIndex := 147, attributes := #[] }, { accessFlags := 26, nameIndex := 150, descriptorIndex := 147, attributes := #[] }, { accessFlags := 26, nameIndex := 151, descriptorIndex := 147, attributes := #[] }, { accessFlags := 26, nameIndex := 152, descriptorIndex := 147, attributes := #[] }, { accessFlags := 26, nameIndex := 77, descriptorIndex := 78, attributes := #[] }, { accessFlags := 26, nameIndex := 153, descriptorIndex := 143, attributes := #[] }, { accessFlags := 26, nameIndex := 155, descriptorIndex := 147, attributes := #[] }, { accessFlags := 26, nameIndex := 156, descriptorIndex := 143, attributes := #[] }, { accessFlags := 26, nameIndex := 157, descriptorIndex := 147, attributes := #[] }, { accessFlags := 26, nameIndex := 158, descriptorIndex := 143, attributes := #[] }, { accessFlags := 74, nameIndex := 95, descriptorIndex := 96, attributes := #[] }])
  fields := #[{ name := "LEAST_BATCHES", type := .int, accessFlags := 26, slot := 0, constantValue := 0 }, { name := "MOST_MILLIS", type := .long, accessFlags := 26, slot := 1, constantValue := 0 }, { name := "QUIET_SPAN_MILLIS", type := .long, accessFlags := 26, slot := 2, constantValue := 0 }, { name := "QUIET_PERCENT", type := .long, accessFlags := 26, slot := 3, constantValue := 0 }, { name := "NANOS_PER_MILLI", type := .long, accessFlags := 26, slot := 4, constantValue := 0 }, { name := "GAPS_MICROS", type := (.array .long), accessFlags := 26, slot := 5, constantValue := 0 }, { name := "IDLE_EVERY", type := .int, accessFlags := 26, slot := 6, constantValue := 0 }, { name := "IDLE_MICROS", type := .long, accessFlags := 26, slot := 7, constantValue := 0 }, { name := "GARBAGE_CHUNK", type := .int, accessFlags := 26, slot := 8, constantValue := 0 }, { name := "MOST_GARBAGE", type := .long, accessFlags := 26, slot := 9, constantValue := 0 }, { name := "KEPT_CHUNKS", type := .int, accessFlags := 26, slot := 10, constantValue := 0 }, { name := "kept", type := (.array (.array .byte)), accessFlags := 74, slot := 11, constantValue := 0 }]
  methods := #[k2m0, k2m1]
  instanceTypes := #[]
  staticTypes := #[.int, .long, .long, .long, .long, (.array .long), .int, .long, .int, .long, .int, (.array (.array .byte))]
  resolved := Array.replicate 182 none
  statics := some 0 }

def pool3 : Array CpInfo := pool [(1, u "java/lang/Cloneable"), (0, .class_ 1), (0, u "java/lang/Object"), (0, .class_ 3)] 3

/-- java/lang/Cloneable -/
def k3 : Class := { plain "java/lang/Cloneable" (some 0) with
  accessFlags := 1537
  interfaces := #[]
  cf := some (fileOf pool3 2 #[] #[] 1537 4 #[] #[])
  fields := #[]
  methods := #[]
  instanceTypes := #[]
  staticTypes := #[]
  resolved := Array.replicate 8 none
  statics := none }

def pool4 : Array CpInfo := pool [(1, u "java/io/Serializable"), (0, .class_ 1), (0, u "java/lang/Object"), (0, .class_ 3)] 3

/-- java/io/Serializable -/
def k4 : Class := { plain "java/io/Serializable" (some 0) with
  accessFlags := 1537
  interfaces := #[]
  cf := some (fileOf pool4 2 #[] #[] 1537 4 #[] #[])
  fields := #[]
  methods := #[]
  instanceTypes := #[]
  staticTypes := #[]
  resolved := Array.replicate 8 none
  statics := none }

/-- the primitive byte -/
def k5 : Class := { plain "byte" none with kind := .primitive 'B', accessFlags := 0x411 }
/-- [B -/
def k6 : Class := { plain "[B" (some 0) with kind := .array 5 .byte, interfaces := #[3, 4], accessFlags := 1041 }

/-- the primitive int -/
def k7 : Class := { plain "int" none with kind := .primitive 'I', accessFlags := 0x411 }
/-- [I -/
def k8 : Class := { plain "[I" (some 0) with kind := .array 7 .int, interfaces := #[3, 4], accessFlags := 1041 }

/-- the primitive long -/
def k9 : Class := { plain "long" none with kind := .primitive 'J', accessFlags := 0x411 }
/-- [J -/
def k10 : Class := { plain "[J" (some 0) with kind := .array 9 .long, interfaces := #[3, 4], accessFlags := 1041 }

def heap : Heap := #[{ cls := 2, slots := #[.int 0, .long 0, .long 0, .long 0, .long 0, .ref 1, .int 0, .long 0, .int 0, .long 0, .int 0, .null], vm := .statics 2 },
  { cls := 10, slots := #[.long 0, .long 30, .long 100, .long 0, .long 300, .long 50, .long 1000, .long 20, .long 0, .long 150], vm := .none }]
def classes : Array Class := #[k0, k1, k2, k3, k4, k5, k6, k7, k8, k9, k10]
def interned : List (Array UInt16 × Addr) := []
def slotsUsed : Nat := 22
def theMethod : MethodId := ⟨1, 1⟩
def args0 : Array Value := #[.int 5]
def aboutOver (below : List Frame) : State where
  vm := { classes := classes, interned := interned.toArray }
  heap := heap
  slotsUsed := slotsUsed
  threads := #[{ frames := .invoking theMethod args0 :: below }]
def below0 : List Frame := [.native { method := ⟨0, 0⟩, args := #[] }]
def about1 : State := aboutOver below0
def p0 : Program := .bare "" "" ""
def e0 : Env := launch0.env 0 0 0
theorem w_frames : about1.frames = Frame.invoking theMethod args0 :: below0 := rfl
set_option maxRecDepth 65536 in
theorem w_args : argsFit about1.vm theMethod args0 = true := by decide +kernel
set_option maxRecDepth 65536 in
theorem w_heap : heapFits about1 = true := by decide +kernel
set_option maxRecDepth 65536 in
theorem w_runnable : about1.curStatus? = some .runnable := by decide +kernel
set_option maxRecDepth 65536 in
theorem w_alone : about1.alone = true := by decide +kernel
set_option maxRecDepth 65536 in
theorem w_named : about1.methodNamed? x = some theMethod := by decide +kernel
set_option maxRecDepth 65536 in
theorem w_hears : about1.hears theMethod below0 = true := by decide +kernel
set_option maxRecDepth 65536 in
theorem w_ripe : about1.ripe theMethod args0 below0 = true := by decide +kernel
theorem w_running : about1.status = .running := rfl
set_option maxRecDepth 65536 in
theorem w_room : about1.hasRoom e0.platform room_1 = true :=
  launch0.hasRoom_least _ room_1 (by decide +kernel) (by decide +kernel) (by decide +kernel) (by decide +kernel) (by decide +kernel) (by decide +kernel)
theorem allAtoms_all (ts : List Jvm.Cond) (a : Array Jvm.Value) (st : Jvm.State) : (allAtoms ts).before a st = ts.all (fun c => c.before a st) := by
  induction ts with
  | nil => rfl
  | cons c t ih =>
    show (Jvm.Cond.and c (allAtoms t)).before a st = _
    rw [Jvm.Cond.before_and, ih, List.all_cons]
def words1 : List Jvm.Cond := Jvm.Cond.code x code maxLocals ret :: tables_1
/-- a 'code' word, met by the world's own term for the bytes: nothing is compared byte by byte -/
theorem code_word {y : MethodName} {bytes : ByteArray} {mx : Nat} {rt : Option FieldType} {a : Array Value} {s : State} {m : MethodId} {meth : Method} {c : Code} (h1 : s.methodNamed? y = some m) (h2 : s.vm.method? m = some meth) (h3 : meth.code = some c) (h4 : c.code = bytes)
    (h5 : (c.maxLocals == mx && c.exceptionTable.isEmpty && decide (c.maxStack ≤ mostOperands) && decide (meth.sig.returnType = rt) && !meth.locks && decide (parseMethodDescriptor y.desc = some meth.sig)) = true) : (Jvm.Cond.code y bytes mx rt).before a s = true := by
  simp only [Bool.and_eq_true, beq_iff_eq, Bool.not_eq_true', decide_eq_true_eq] at h5
  obtain ⟨⟨⟨⟨⟨g1, g2⟩, g3⟩, g4⟩, g5⟩, g6⟩ := h5
  simp [Cond.before, Cond.holds, Cond.value, h1, h2, h3, h4, g1, g2, g3, g4, g5, g6]
def isCode : Jvm.Cond → Bool
  | .code _ _ _ _ => true
  | _ => false
theorem all_split {L : List Jvm.Cond} {P : Jvm.Cond → Bool} (h1 : L.all (fun c => isCode c || P c) = true) (h2 : ∀ c ∈ L.filter isCode, P c = true) : L.all P = true := by
  refine List.all_eq_true.mpr fun c hc => ?_
  have h := List.all_eq_true.mp h1 c hc
  rcases Bool.eq_false_or_eq_true (isCode c) with hi | hi
  · exact h2 c (List.mem_filter.mpr ⟨hc, hi⟩)
  · simpa [hi] using h
set_option maxRecDepth 65536 in
theorem w_c0 : (Jvm.Cond.code x code maxLocals ret).before args0 about1 = true := code_word (m := ⟨1, 1⟩) (meth := k1m1) (c := k1c1) (by decide +kernel) rfl rfl rfl (by decide +kernel)
set_option maxRecDepth 65536 in
theorem w_c1 : (Jvm.Cond.code ({ cls := "com/example/fairgate/fairgate/JitWarmUpGapPinLaw", name := "tenth", desc := "(I)J" } : Jvm.MethodName) method_3_code (1 : Nat) (Option.some Jvm.ClassFile.FieldType.long)).before args0 about1 = true := code_word (m := ⟨1, 2⟩) (meth := k1m2) (c := k1c2) (by decide +kernel) rfl rfl rfl (by decide +kernel)
set_option maxRecDepth 65536 in
theorem w_c2 : (Jvm.Cond.code ({ cls := "com/example/fairgate/fairgate/JitWarmUp", name := "gap", desc := "(I)J" } : Jvm.MethodName) prog_10_method_3_code (3 : Nat) (Option.some Jvm.ClassFile.FieldType.long)).before args0 about1 = true := code_word (m := ⟨2, 1⟩) (meth := k2m1) (c := k2c1) (by decide +kernel) rfl rfl rfl (by decide +kernel)
def codes1 : List Jvm.Cond := [Jvm.Cond.code x code maxLocals ret, Jvm.Cond.code ({ cls := "com/example/fairgate/fairgate/JitWarmUpGapPinLaw", name := "tenth", desc := "(I)J" } : Jvm.MethodName) method_3_code (1 : Nat) (Option.some Jvm.ClassFile.FieldType.long), Jvm.Cond.code ({ cls := "com/example/fairgate/fairgate/JitWarmUp", name := "gap", desc := "(I)J" } : Jvm.MethodName) prog_10_method_3_code (3 : Nat) (Option.some Jvm.ClassFile.FieldType.long)]
set_option maxRecDepth 65536 in
theorem codes_eq : words1.filter isCode = codes1 := rfl
theorem w_codes : ∀ c ∈ words1.filter isCode, c.before args0 about1 = true := by
  rw [codes_eq]
  intro c hc
  simp only [codes1, List.mem_cons, List.not_mem_nil, or_false] at hc
  rcases hc with rfl | rfl | rfl
  · exact w_c0
  · exact w_c1
  · exact w_c2
set_option maxRecDepth 65536 in
theorem w_t1 : words1.all (fun c => isCode c || c.before args0 about1) = true := by decide +kernel
theorem w_tables : (allAtoms (Jvm.Cond.code x code maxLocals ret :: tables_1)).before args0 about1 = true := by
  rw [allAtoms_all]
  show words1.all (fun c => c.before args0 about1) = true
  refine all_split ?_ w_codes
  rw [w_t1]
set_option maxRecDepth 65536 in
theorem w_case : (Jvm.Cond.and given_1 narrow_1).before args0 about1 = true := by decide +kernel
theorem w_applies : (headSpec (Jvm.Cond.code x code maxLocals ret :: tables_1) room_1).applies x e0.platform about1 = true :=
  (Spec.applies_iff w_frames).mpr ⟨w_running, w_runnable, w_alone, w_named, w_hears, w_ripe, w_room, w_tables⟩
theorem atStart : AtStart classFile x code maxLocals ret World_1 tables_1 room_1 Calls_1 rest_1 Pre_1 launch0 p0 e0 about1 theMethod args0 below0 :=
  ⟨lists_1, trivial, launch0.admits_env _ _ _, launch0.least_env, fairChoices_fair.cas, fairChoices_fair.clock, w_frames, w_args, w_heap, w_applies, trivial, trivial, w_case⟩
end start1
theorem witness_1 : WitnessClaimed_1 := ⟨start1.p0, start1.e0, start1.about1, start1.theMethod, start1.args0, start1.below0, start1.atStart⟩
end Jvm.Pilot.@@N@@
