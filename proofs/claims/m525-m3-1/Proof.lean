import JvmDerived
import JvmDerived.Pilot.@@N@@Statement
import JvmDerived.Pilot.@@N@@Code
set_option linter.unusedVariables false
set_option linter.unusedSimpArgs false
namespace Jvm.Pilot.@@N@@
open Jvm Jvm.ClassFile Sem Op Lib Jvm.Free Jvm.Stand Jvm.LawKit Jvm.RoadKit Bundle Jvm.Pilot.@@N@@.Jvm.D
section Own
variable {p : Program} {l : Launch} {e : Env} {R : Room} {s : State} {m : MethodId} {args : Array Value} {below : List Frame} {meth : Method} {c : Code} {T : State} {locs : List Loc} {cells slots : Nat}
/-- from S the run comes to an end that E tells -/
def OwnG (p : Program) (e : Env) (below : List Frame) (E : Outcome → State → Prop) (S : State) : Prop :=
  ∃ s₂ o, Steps p.tables e below S s₂ ∧ s₂.status = .running ∧ Ended s₂ below o ∧ E o s₂
/-- it returned, Q holds of the value and the heap, and the frame is k new cells of n slots -/
def OwnE (s : State) (Q : Option Value → Heap → List Loc → Prop) (k n : Nat) (o : Outcome) (U : State) : Prop :=
  ∃ v L, o = .returned v ∧ Q v U.heap L ∧ FrameEnd s o U L k n
theorem own_by {E : Outcome → State → Prop} {S S' : State} (h : ∀ t, Steps p.tables e below S' t → Steps p.tables e below S t) (g : OwnG p e below E S') : OwnG p e below E S := by
  obtain ⟨s2, o, h1, r⟩ := g
  exact ⟨s2, o, h _ h1, r⟩
theorem own_ret (X : Stand p l e R s m args below meth c T locs cells slots) (hx : p.tables.exec = Jvm.exec) {pc : Nat} {Ls : Array Slot} {w : Value} {t : FieldType} {i : Instr} {rest : List Value} (hret : meth.sig.returnType = some t) (hn : narrow t w = w)
    (hi : (i = .ireturn ∧ (t = .int ∨ t = .boolean ∨ t = .byte ∨ t = .char ∨ t = .short) ∧ ∃ z, w = .int z) ∨ (i = .lreturn ∧ t = .long ∧ ∃ z, w = .long z) ∨ (i = .dreturn ∧ t = .double ∧ ∃ z, w = .double z) ∨ (i = .freturn ∧ t = .float ∧ ∃ z, w = .float z) ∨ (i = .areturn ∧ t.isReference = true ∧ w.isRef = true))
    (hd : decode c.code pc = .ok (i, 1)) (hlk : meth.locks = false) {Q : Option Value → Heap → List Loc → Prop} {k n : Nat} (hk : cells ≤ k) (hs : slots ≤ n) (hQ : Q (some w) T.heap locs) : OwnG p e below (OwnE s Q k n) (T.setTop (mkF m pc Ls (w :: rest))) := by
  obtain ⟨fs, hr, hrun, hended, hW, hsame⟩ := X.leave (v := some w) (fun h => by rw [hret] at h; cases h) hlk
  exact ⟨_, _, retOut X hx hret hn hi hd hr, hrun, hended, _, _, rfl, hQ, ⟨_, rfl⟩, hW, hsame.mono hk hs⟩
theorem own_retI (X : Stand p l e R s m args below meth c T locs cells slots) (hx : p.tables.exec = Jvm.exec) {pc : Nat} {Ls : Array Slot} {z : Int32} {t : FieldType} {rest : List Value} (hret : meth.sig.returnType = some t) (ht : t = .int ∨ t = .boolean ∨ t = .byte ∨ t = .char ∨ t = .short) (hn : narrow t (.int z) = .int z)
    (hd : decode c.code pc = .ok (.ireturn, 1)) (hlk : meth.locks = false) {Q : Option Value → Heap → List Loc → Prop} {k n : Nat} (hk : cells ≤ k) (hs : slots ≤ n) (hQ : Q (some (.int z)) T.heap locs) : OwnG p e below (OwnE s Q k n) (T.setTop (mkF m pc Ls (.int z :: rest))) :=
  own_ret X hx hret hn (Or.inl ⟨rfl, ht, _, rfl⟩) hd hlk hk hs hQ
theorem own_retL (X : Stand p l e R s m args below meth c T locs cells slots) (hx : p.tables.exec = Jvm.exec) {pc : Nat} {Ls : Array Slot} {z : Int64} {rest : List Value} (hret : meth.sig.returnType = some .long)
    (hd : decode c.code pc = .ok (.lreturn, 1)) (hlk : meth.locks = false) {Q : Option Value → Heap → List Loc → Prop} {k n : Nat} (hk : cells ≤ k) (hs : slots ≤ n) (hQ : Q (some (.long z)) T.heap locs) : OwnG p e below (OwnE s Q k n) (T.setTop (mkF m pc Ls (.long z :: rest))) :=
  own_ret X hx hret rfl (Or.inr (Or.inl ⟨rfl, rfl, _, rfl⟩)) hd hlk hk hs hQ
theorem own_retD (X : Stand p l e R s m args below meth c T locs cells slots) (hx : p.tables.exec = Jvm.exec) {pc : Nat} {Ls : Array Slot} {z : UInt64} {rest : List Value} (hret : meth.sig.returnType = some .double)
    (hd : decode c.code pc = .ok (.dreturn, 1)) (hlk : meth.locks = false) {Q : Option Value → Heap → List Loc → Prop} {k n : Nat} (hk : cells ≤ k) (hs : slots ≤ n) (hQ : Q (some (.double z)) T.heap locs) : OwnG p e below (OwnE s Q k n) (T.setTop (mkF m pc Ls (.double z :: rest))) :=
  own_ret X hx hret rfl (Or.inr (Or.inr (Or.inl ⟨rfl, rfl, _, rfl⟩))) hd hlk hk hs hQ
theorem own_narR {t : FieldType} (ht : t.isReference = true) {w : Value} (hw : w.isRef = true) : narrow t w = w := by
  cases t <;> cases w <;> first | rfl | (simp [FieldType.isReference] at ht; done) | (simp [Value.isRef] at hw; done)
theorem own_retA (X : Stand p l e R s m args below meth c T locs cells slots) (hx : p.tables.exec = Jvm.exec) {pc : Nat} {Ls : Array Slot} {w : Value} {t : FieldType} {rest : List Value} (hret : meth.sig.returnType = some t) (ht : t.isReference = true) (hw : w.isRef = true)
    (hd : decode c.code pc = .ok (.areturn, 1)) (hlk : meth.locks = false) {Q : Option Value → Heap → List Loc → Prop} {k n : Nat} (hk : cells ≤ k) (hs : slots ≤ n) (hQ : Q (some w) T.heap locs) : OwnG p e below (OwnE s Q k n) (T.setTop (mkF m pc Ls (w :: rest))) :=
  own_ret X hx hret (own_narR ht hw) (Or.inr (Or.inr (Or.inr (Or.inr ⟨rfl, ht, hw⟩)))) hd hlk hk hs hQ
theorem own_ret0 (X : Stand p l e R s m args below meth c T locs cells slots) (hx : p.tables.exec = Jvm.exec) {pc : Nat} {Ls : Array Slot} (hret : meth.sig.returnType = none)
    (hd : decode c.code pc = .ok (.return_, 1)) (hlk : meth.locks = false) {Q : Option Value → Heap → List Loc → Prop} {k n : Nat} (hk : cells ≤ k) (hs : slots ≤ n) (hQ : Q none T.heap locs) : OwnG p e below (OwnE s Q k n) (T.setTop (mkF m pc Ls [])) := by
  obtain ⟨fs, hr, hrun, hended, hW, hsame⟩ := X.leave (v := none) (fun _ => rfl) hlk
  exact ⟨_, _, X.returnOut hx hret hd hr, hrun, hended, _, _, rfl, hQ, ⟨_, rfl⟩, hW, hsame.mono hk hs⟩
/-- the same, where the walk may have interned -/
def OwnEW (s : State) (Q : Option Value → Heap → List Loc → Prop) (k n : Nat) (o : Outcome) (U : State) : Prop :=
  ∃ v L, o = .returned v ∧ Q v U.heap L ∧ ReturnedEndW s o U L k n
theorem own_endW {s U : State} {o : Outcome} {L : List Loc} {k n k' n' : Nat} (h : ReturnedEndW s o U L k n) (hk : k ≤ k') (hn : n ≤ n') : ReturnedEndW s o U L k' n' := ⟨h.1, h.2.1, h.2.2.1, h.2.2.2.mono hk hn⟩
theorem own_retW {vm₁ : Vm} (X : Stand p l e R (s.setVm vm₁) m args below meth c T locs cells slots) {n1 : Nat} (hS : s.Since vm₁ n1) (hn1 : n1 ≤ T.heap.size) (hx : p.tables.exec = Jvm.exec) {pc : Nat} {Ls : Array Slot} {w : Value} {t : FieldType} {i : Instr} {rest : List Value} (hret : meth.sig.returnType = some t) (hn : narrow t w = w)
    (hi : (i = .ireturn ∧ (t = .int ∨ t = .boolean ∨ t = .byte ∨ t = .char ∨ t = .short) ∧ ∃ z, w = .int z) ∨ (i = .lreturn ∧ t = .long ∧ ∃ z, w = .long z) ∨ (i = .dreturn ∧ t = .double ∧ ∃ z, w = .double z) ∨ (i = .freturn ∧ t = .float ∧ ∃ z, w = .float z) ∨ (i = .areturn ∧ t.isReference = true ∧ w.isRef = true))
    (hd : decode c.code pc = .ok (i, 1)) (hlk : meth.locks = false) {Q : Option Value → Heap → List Loc → Prop} {k n : Nat} (hk : cells ≤ k) (hs : slots ≤ n) (hQ : Q (some w) T.heap locs) : OwnG p e below (OwnEW s Q k n) (T.setTop (mkF m pc Ls (w :: rest))) := by
  obtain ⟨fs, hr, hrun, hended, hE⟩ := X.leaveW hS hn1 (v := some w) (fun h => by rw [hret] at h; cases h) hlk
  exact ⟨_, _, retOut X hx hret hn hi hd hr, hrun, hended, _, _, rfl, hQ, own_endW hE hk hs⟩
theorem own_retWI {vm₁ : Vm} (X : Stand p l e R (s.setVm vm₁) m args below meth c T locs cells slots) {n1 : Nat} (hS : s.Since vm₁ n1) (hn1 : n1 ≤ T.heap.size) (hx : p.tables.exec = Jvm.exec) {pc : Nat} {Ls : Array Slot} {z : Int32} {t : FieldType} {rest : List Value} (hret : meth.sig.returnType = some t) (ht : t = .int ∨ t = .boolean ∨ t = .byte ∨ t = .char ∨ t = .short) (hn : narrow t (.int z) = .int z)
    (hd : decode c.code pc = .ok (.ireturn, 1)) (hlk : meth.locks = false) {Q : Option Value → Heap → List Loc → Prop} {k n : Nat} (hk : cells ≤ k) (hs : slots ≤ n) (hQ : Q (some (.int z)) T.heap locs) : OwnG p e below (OwnEW s Q k n) (T.setTop (mkF m pc Ls (.int z :: rest))) :=
  own_retW X hS hn1 hx hret hn (Or.inl ⟨rfl, ht, _, rfl⟩) hd hlk hk hs hQ
theorem own_retWA {vm₁ : Vm} (X : Stand p l e R (s.setVm vm₁) m args below meth c T locs cells slots) {n1 : Nat} (hS : s.Since vm₁ n1) (hn1 : n1 ≤ T.heap.size) (hx : p.tables.exec = Jvm.exec) {pc : Nat} {Ls : Array Slot} {w : Value} {t : FieldType} {rest : List Value} (hret : meth.sig.returnType = some t) (ht : t.isReference = true) (hw : w.isRef = true)
    (hd : decode c.code pc = .ok (.areturn, 1)) (hlk : meth.locks = false) {Q : Option Value → Heap → List Loc → Prop} {k n : Nat} (hk : cells ≤ k) (hs : slots ≤ n) (hQ : Q (some w) T.heap locs) : OwnG p e below (OwnEW s Q k n) (T.setTop (mkF m pc Ls (w :: rest))) :=
  own_retW X hS hn1 hx hret (own_narR ht hw) (Or.inr (Or.inr (Or.inr (Or.inr ⟨rfl, ht, hw⟩)))) hd hlk hk hs hQ
theorem own_retW0 {vm₁ : Vm} (X : Stand p l e R (s.setVm vm₁) m args below meth c T locs cells slots) {n1 : Nat} (hS : s.Since vm₁ n1) (hn1 : n1 ≤ T.heap.size) (hx : p.tables.exec = Jvm.exec) {pc : Nat} {Ls : Array Slot} (hret : meth.sig.returnType = none)
    (hd : decode c.code pc = .ok (.return_, 1)) (hlk : meth.locks = false) {Q : Option Value → Heap → List Loc → Prop} {k n : Nat} (hk : cells ≤ k) (hs : slots ≤ n) (hQ : Q none T.heap locs) : OwnG p e below (OwnEW s Q k n) (T.setTop (mkF m pc Ls [])) := by
  obtain ⟨fs, hr, hrun, hended, hE⟩ := X.leaveW hS hn1 (v := none) (fun _ => rfl) hlk
  exact ⟨_, _, X.returnOut hx hret hd hr, hrun, hended, _, _, rfl, hQ, own_endW hE hk hs⟩
theorem own_ext0 {h h' : Heap} (K : Keep h h' []) : Ext h h' := ⟨K.1, fun a c q => K.2.1 a c q (by simp)⟩
theorem own_staK {Z : State} {h h' : Heap} {C n d : String} {v : Value} {ws : List Addr} (S : Sta Z h C n d v) (K : Keep h h' ws) (q : ∀ x ∈ ws, ∃ c : Cell, h[x]? = some c ∧ c.vm.isStatics = false) : Sta Z h' C n d v := by
  obtain ⟨cf, i, k, f, st, cell, h1, h2, h3, h4, h5, h6, h7⟩ := S
  refine ⟨cf, i, k, f, st, cell, h1, h2, h3, h4, K.2.1 st cell h5 (fun hm => ?_), h6, h7⟩
  obtain ⟨c, c1, c2⟩ := q st hm
  rw [h5] at c1
  cases c1
  rw [h6] at c2
  cases c2
theorem own_plain {Z : State} {h : Heap} {a : Addr} {C : String} (E : Exa Z h a C) : ∃ c : Cell, h[a]? = some c ∧ c.vm.isStatics = false := by
  obtain ⟨c, k, h1, h2, h3, h4, h5⟩ := E
  exact ⟨c, h1, h4⟩
theorem own_arrK {Z : State} {h h' : Heap} {a : Addr} {c : Cell} {ty : FieldType} {ws : List Addr} (A : Arr Z h a c ty) (K : Keep h h' ws) (q : a ∉ ws) : Arr Z h' a c ty := ⟨K.2.1 a c A.1 q, A.2⟩
/-- the array at a, of the class k, holds just vs -/
def OwnA (Z : State) (h : Heap) (a : Addr) (k : ClassId) (ty : FieldType) (vs : List Value) : Prop := ∃ c : Cell, Arr Z h a c ty ∧ c.cls = k ∧ c.slots.toList = vs
theorem OwnA.lt {Z : State} {h : Heap} {a : Addr} {k : ClassId} {ty : FieldType} {vs : List Value} (F : OwnA Z h a k ty vs) : a < h.size := by obtain ⟨c, A, -⟩ := F; exact A.lt
theorem OwnA.ext {Z : State} {h h' : Heap} {a : Addr} {k : ClassId} {ty : FieldType} {vs : List Value} (F : OwnA Z h a k ty vs) (E : Ext h h') : OwnA Z h' a k ty vs := by obtain ⟨c, A, r⟩ := F; exact ⟨c, A.ext E, r⟩
theorem OwnA.other {Z : State} {h h' : Heap} {a b : Addr} {k : ClassId} {ty : FieldType} {vs : List Value} {sl : Nat} {v : Value} (F : OwnA Z h a k ty vs) (W : Wr h h' b sl v) (q : a ≠ b) : OwnA Z h' a k ty vs := by obtain ⟨c, A, r⟩ := F; exact ⟨c, A.other W q, r⟩
theorem OwnA.keep {Z : State} {h h' : Heap} {a : Addr} {k : ClassId} {ty : FieldType} {vs : List Value} {ws : List Addr} (F : OwnA Z h a k ty vs) (K : Keep h h' ws) (q : a ∉ ws) : OwnA Z h' a k ty vs := by obtain ⟨c, A, r⟩ := F; exact ⟨c, own_arrK A K q, r⟩
theorem OwnA.new {Z : State} {h : Heap} {a : Addr} {k : ClassId} {ty : FieldType} {z : Int32} (A : Arr Z h a (newA k ty z) ty) : OwnA Z h a k ty (List.replicate z.toNatClampNeg (defaultValue ty)) := ⟨_, A, rfl, by simp [newA]⟩
theorem OwnA.set {Z : State} {h h' : Heap} {a : Addr} {k : ClassId} {ty : FieldType} {vs : List Value} {j : Nat} {v : Value} (F : OwnA Z h a k ty vs) (W : Wr h h' a j v) : OwnA Z h' a k ty (vs.set j v) := by
  obtain ⟨c, A, r1, r2⟩ := F
  refine ⟨_, A.same W, r1, ?_⟩
  rw [← r2]
  simp [Cell.setSlot]
theorem OwnA.inb {c : Cell} {vs : List Value} {j : Int32} (H : c.slots.toList = vs) (h1 : ¬ j < 0) (h2 : j.toNatClampNeg < vs.length) : ¬ (j < 0 ∨ c.slots.size ≤ j.toNatClampNeg) := by
  rintro (q | q)
  · exact h1 q
  · rw [← H, Array.length_toList] at h2; omega
theorem OwnA.at {c : Cell} {vs : List Value} {j : Int32} {v : Value} (H : c.slots.toList = vs) (h : vs[j.toNatClampNeg]? = some v) : c.slots[j.toNatClampNeg]? = some v := by
  rw [← H] at h; simpa using h
theorem OwnA.size {c : Cell} {vs : List Value} {z : Int32} (H : c.slots.toList = vs) (h : vs.length = z.toNatClampNeg) : c.slots.size = z.toNatClampNeg := by
  rw [← h, ← H, Array.length_toList]
theorem OwnA.ofArv {Z : State} {h : Heap} {a : Addr} {k : ClassId} {ty : FieldType} {z : Int32} {vs : List Value} {d : Value} (F : Arv Z h a k ty z vs d) (hl : z.toNatClampNeg = vs.length) : OwnA Z h a k ty vs := by
  obtain ⟨c, A, r1, r2, r3, r4, r5⟩ := F
  refine ⟨c, A, r1, ?_⟩
  apply List.ext_getElem?
  intro i
  by_cases hi : i < c.slots.size
  · have q := r4 i hi
    rw [Array.getElem?_toList, q, List.getD_eq_getElem?_getD]
    rw [r2, hl] at hi
    rw [List.getElem?_eq_getElem hi]; rfl
  · rw [Array.getElem?_toList, Array.getElem?_eq_none (by omega), List.getElem?_eq_none (by omega)]
theorem OwnA.one {Z : State} {h : Heap} {a : Addr} {k k' : ClassId} {ty ty' : FieldType} {vs vs' : List Value} (F : OwnA Z h a k ty vs) (G : OwnA Z h a k' ty' vs') : vs = vs' := by
  obtain ⟨c, A, -, r⟩ := F
  obtain ⟨c', A', -, r'⟩ := G
  have q := A.1.symm.trans A'.1
  cases q
  rw [← r, ← r']
theorem own_fldOne {Z : State} {h : Heap} {a : Addr} {C n d : String} {v w : Value} (F : Fld Z h a C n d v) (G : Fld Z h a C n d w) : v = w := by
  obtain ⟨c, cf, k, i, f, h1, h2, h3, h4, h5, h6, h7⟩ := F
  obtain ⟨c', cf', k', i', f', g1, g2, g3, g4, g5, g6, g7⟩ := G
  have q := h1.symm.trans g1
  cases q
  have q := h2.symm.trans g2
  cases q
  have q := h7.symm.trans g7
  cases q
  rfl
theorem own_eqI {args : Array Value} {s : State} {u : Term} {k : Int32} (h : (Jvm.Cond.eq u (.int k)).value args s none s [] = some true) : u.eval args s none [] s = some (.int k) := by
  cases hv : u.eval args s none [] s with
  | none => simp [Cond.value, hv] at h
  | some v => cases v <;> simp [Cond.value, Term.eval, hv] at h ⊢ <;> exact h
theorem own_eqL {args : Array Value} {s : State} {u : Term} {k : Int64} (h : (Jvm.Cond.eq u (.long k)).value args s none s [] = some true) : u.eval args s none [] s = some (.long k) := by
  cases hv : u.eval args s none [] s with
  | none => simp [Cond.value, hv] at h
  | some v => cases v <;> simp [Cond.value, Term.eval, hv] at h ⊢ <;> exact h
theorem own_size {args : Array Value} {s : State} {u : Term} {a : Addr} {cl : Cell} {ty : FieldType} {k : Int32} (ev : u.eval args s none [] s = some (.ref a)) (A : Arr s s.heap a cl ty) (h : (Jvm.Cond.eq (.length u) (.int k)).value args s none s [] = some true) : cl.slots.size = k.toNatClampNeg := by
  have h1 := own_eqI h
  have h2 : s.arrayAt? a = some cl := A.fin (Vm.Alike.refl _)
  simp only [Term.eval, ev, h2, Option.bind_eq_bind, Option.bind_some] at h1
  split at h1
  · rename_i hl
    have h3 : cl.slots.size.toInt32 = k := by simpa using h1
    rw [← h3]
    have := len_toInt hl
    rw [Int32.toNatClampNeg, this]; rfl
  · simp at h1
theorem own_elL {args : Array Value} {s : State} {u : Term} {a : Addr} {cl : Cell} {ty : FieldType} {j : Int32} {k : Int64} (ev : u.eval args s none [] s = some (.ref a)) (A : Arr s s.heap a cl ty) (h : (Jvm.Cond.eq (.elem u (.int j)) (.long k)).value args s none s [] = some true) : cl.slots[j.toNatClampNeg]? = some (.long k) :=
  (elem_in (own_eqL h) ev (Term.int_eval _) A.1).2
theorem own_elI {args : Array Value} {s : State} {u : Term} {a : Addr} {cl : Cell} {ty : FieldType} {j k : Int32} (ev : u.eval args s none [] s = some (.ref a)) (A : Arr s s.heap a cl ty) (h : (Jvm.Cond.eq (.elem u (.int j)) (.int k)).value args s none s [] = some true) : cl.slots[j.toNatClampNeg]? = some (.int k) :=
  (elem_in (own_eqI h) ev (Term.int_eval _) A.1).2
theorem own_ne {args : Array Value} {s : State} {u : Term} {z k : Int32} (ev : u.eval args s none [] s = some (.int z)) (h : (Jvm.Cond.not (Jvm.Cond.eq u (.int k))).value args s none s [] = some true) : ¬ z = k := by
  have h2 := not_v h
  intro q
  subst q
  simp [Cond.value, Term.eval, ev] at h2
theorem own_in {i z : Int32} {cl : Cell} (S : cl.slots.size = z.toNatClampNeg) (h1 : ¬ i < 0) (h2 : i < z) : ¬ (i < 0 ∨ cl.slots.size ≤ i.toNatClampNeg) := by
  rintro (q | q)
  · exact h1 q
  · rw [S] at q
    rw [Int32.lt_iff_toInt_lt] at h1 h2
    have e0 : (0 : Int32).toInt = 0 := rfl
    have e1 : ((i.toNatClampNeg : Nat) : Int) = i.toInt := by rw [Int32.toNatClampNeg]; exact Int.toNat_of_nonneg (by omega)
    have e2 : ((z.toNatClampNeg : Nat) : Int) = z.toInt := by rw [Int32.toNatClampNeg]; exact Int.toNat_of_nonneg (by omega)
    omega
end Own

theorem pd_0 : parseMethodDescriptor "(JJJ)Z" = some ⟨[.long, .long, .long], some .boolean⟩ := by decide +kernel
theorem own_late (o a l : Int64) (ho1 : -2305843009213693952 ≤ o.toInt) (ho2 : o.toInt < 2305843009213693952) (hl1 : -2305843009213693952 ≤ l.toInt) (hl2 : l.toInt < 2305843009213693952) (ha1 : -4611686018427387910 ≤ a.toInt) (ha2 : a.toInt ≤ 4611686018427387910) :
    a - o < l ↔ a < o + l := by
  have h1 := c_lsub a o
  have h2 := c_ladd o l
  have h3 := rng64 (a - o)
  have h4 := rng64 (o + l)
  rw [Int64.lt_iff_toInt_lt, Int64.lt_iff_toInt_lt]
  omega
theorem own_shr (x : Int64) : -2305843009213693952 ≤ (x >>> ((2 : Int32) &&& 0x3f).toInt64).toInt ∧ (x >>> ((2 : Int32) &&& 0x3f).toInt64).toInt < 2305843009213693952 := by
  have h1 := c_lshr x 2 2 (by decide)
  have h2 := rng64 x
  rw [h1]
  omega
theorem own_mid (o l : Int64) (d : Int32) (ho1 : -2305843009213693952 ≤ o.toInt) (ho2 : o.toInt < 2305843009213693952) (hl1 : -2305843009213693952 ≤ l.toInt) (hl2 : l.toInt < 2305843009213693952) :
    -4611686018427387910 ≤ ((o + l) + (d % (4 : Int32)).toInt64).toInt ∧ ((o + l) + (d % (4 : Int32)).toInt64).toInt ≤ 4611686018427387910 := by
  have h1 := c_irem d 4 4 (by decide)
  have h2 := c_i2l (d % (4 : Int32))
  have h3 := c_ladd o l
  have h4 := rng64 (o + l)
  have h5 := c_ladd (o + l) (d % (4 : Int32)).toInt64
  have h6 := rng64 ((o + l) + (d % (4 : Int32)).toInt64)
  have h7 := rng32 d
  omega
def Q1 (q1 q2 q3 : Int64) (h0 : Heap) (n0 : Nat) (v : Option Value) (h : Heap) (L : List Loc) : Prop := v = some (.int (if q2 - q1 < q3 then 0 else 1)) ∧ Fr n0 L ∧ h = h0
theorem d1_0 : decode prog_30_method_5_code 0 = .ok (.lload_n 2, 1) := by decide +kernel
theorem d1_1 : decode prog_30_method_5_code 1 = .ok (.lload_n 0, 1) := by decide +kernel
theorem d1_2 : decode prog_30_method_5_code 2 = .ok (.lsub, 1) := by decide +kernel
theorem d1_3 : decode prog_30_method_5_code 3 = .ok (.lload 4, 2) := by decide +kernel
theorem d1_5 : decode prog_30_method_5_code 5 = .ok (.lcmp, 1) := by decide +kernel
theorem d1_6 : decode prog_30_method_5_code 6 = .ok (.ifCond .lt 7, 3) := by decide +kernel
theorem d1_9 : decode prog_30_method_5_code 9 = .ok (.iconst 1, 1) := by decide +kernel
theorem d1_10 : decode prog_30_method_5_code 10 = .ok (.goto 4, 3) := by decide +kernel
theorem d1_13 : decode prog_30_method_5_code 13 = .ok (.iconst 0, 1) := by decide +kernel
theorem d1_14 : decode prog_30_method_5_code 14 = .ok (.ireturn, 1) := by decide +kernel
theorem pn_0 : plainName "com/example/fairgate/fairgate/core/Hold" = true := by first | (simp [plainName, overriddenIn]; done) | decide +kernel
theorem ef_rm1 (m : MethodId) (q1 : Int64) (q2 : Int64) (q3 : Int64) : entryFrame m #[(.long q1), (.long q2), (.long q3)] 6 = mkF m 0 #[.val (.long q1), .second, .val (.long q2), .second, .val (.long q3), .second] [] := by first | (simp [entryFrame, mkF, argsToLocals, Value.category, maxLocals]; done) | rfl
set_option maxRecDepth 65536 in
set_option maxHeartbeats 40000000 in
theorem rm1 (l : Launch) (Z : State) (a0 : Array Value) (hw : ∀ d ∈ tables_1, d.before a0 Z = true) (ws : List Jvm.Cond) (q1 q2 q3 : Int64) (h0 : Heap) (n0 : Nat) (Z0 : n0 ≤ h0.size) :
    MetFree l (⟨"com/example/fairgate/fairgate/core/Hold", "isLate", "(JJJ)Z"⟩ : MethodName) (head1 (Jvm.Cond.code (⟨"com/example/fairgate/fairgate/core/Hold", "isLate", "(JJJ)Z"⟩ : MethodName) prog_30_method_5_code (6 : Nat) (Option.some Jvm.ClassFile.FieldType.boolean) :: ws) ({ frames := 0, cells := 0, slots := 0, locals := 0 } : Room)) (fun a U => a = #[(.long q1), (.long q2), (.long q3)] ∧ Z.Warmed39 U.vm ∧ U.heap = h0) (fun _ _ _ _ _ => True) (fun _ U o U' => ∃ v L, o = .returned v ∧ (Q1 q1 q2 q3 h0 n0) v U'.heap L ∧ FrameEnd U o U' L ({ frames := 0, cells := 0, slots := 0, locals := 0 } : Room).cells ({ frames := 0, cells := 0, slots := 0, locals := 0 } : Room).slots) := by
  refine MetFree.of_bodySF (plainFor_of_name pn_0) hisR ?_
  intro p e s m args below meth c s₁ Bd hml0 hP hK
  obtain ⟨rfl, hZ, hh⟩ := hP
  have hx := Bd.exec
  have hby := Bd.bytes
  have hml : c.maxLocals = 6 := hml0
  have hown : s.vm.findClass "com/example/fairgate/fairgate/core/Hold" = some m.cls := findClass_of_methodNamed Bd.named
  have hnm := (name_of_methodNamed Bd.named Bd.method).1
  have X0 : Stand p l e ({ frames := 0, cells := 0, slots := 0, locals := 0 } : Room) s m #[(.long q1), (.long q2), (.long q3)] below meth c s₁ [] 0 0 := Stand.of_body Bd
  have e0 : s₁.heap = h0 := by rw [← hh, Bd.state]; rfl
  have N0 := Fr.nil n0
  show OwnG p e below (OwnE s (Q1 q1 q2 q3 h0 n0) ({ frames := 0, cells := 0, slots := 0, locals := 0 } : Room).cells ({ frames := 0, cells := 0, slots := 0, locals := 0 } : Room).slots) _
  refine own_by (S' := s₁.setTop (mkF m 0 #[.val (.long q1), .second, .val (.long q2), .second, .val (.long q3), .second] [])) (fun t k => castTop (ef_rm1 m q1 q2 q3) k) ?_
  refine own_by (S' := s₁.setTop (mkF m 1 #[.val (.long q1), .second, .val (.long q2), .second, .val (.long q3), .second] [(.long q2)])) (fun t k => XS.lloadN X0.here hx rfl (hb hby d1_0) rfl k) ?_
  refine own_by (S' := s₁.setTop (mkF m 2 #[.val (.long q1), .second, .val (.long q2), .second, .val (.long q3), .second] [(.long q1), (.long q2)])) (fun t k => XS.lloadN X0.here hx rfl (hb hby d1_1) rfl k) ?_
  refine own_by (S' := s₁.setTop (mkF m 3 #[.val (.long q1), .second, .val (.long q2), .second, .val (.long q3), .second] [(.long (q2 - q1))])) (fun t k => XS.lsub X0.here hx rfl (hb hby d1_2) rfl k) ?_
  refine own_by (S' := s₁.setTop (mkF m 5 #[.val (.long q1), .second, .val (.long q2), .second, .val (.long q3), .second] [(.long q3), (.long (q2 - q1))])) (fun t k => XS.lload X0.here hx rfl (hb hby d1_3) rfl k) ?_
  refine own_by (S' := s₁.setTop (mkF m 6 #[.val (.long q1), .second, .val (.long q2), .second, .val (.long q3), .second] [(.int (lcmpW (q2 - q1) q3))])) (fun t k => XS.lcmp X0.here hx rfl (hb hby d1_5) rfl k) ?_
  by_cases hc : (lcmpW (q2 - q1) q3) < (0 : Int32)
  · refine own_by (S' := s₁.setTop (mkF m 13 #[.val (.long q1), .second, .val (.long q2), .second, .val (.long q3), .second] [])) (fun t k => XS.ifYes X0.here hx rfl (pc0 := 6) (pc' := 13) rfl (hb hby d1_6) rfl ((if0 _ _).trans (tlt hc).1) (by decide) (by decide) k) ?_
    refine own_by (S' := s₁.setTop (mkF m 14 #[.val (.long q1), .second, .val (.long q2), .second, .val (.long q3), .second] [(.int (0 : Int32))])) (fun t k => XS.iconst X0.here hx rfl (hb hby d1_13) k) ?_
    exact own_retI X0 hx (t := .boolean) Bd.returns (by simp) rfl (hb hby d1_14) Bd.notSynchronized (by decide) (by decide) ⟨by rw [if_pos ((lw_lt _ _).mp hc)], N0, e0⟩
  · refine own_by (S' := s₁.setTop (mkF m 9 #[.val (.long q1), .second, .val (.long q2), .second, .val (.long q3), .second] [])) (fun t k => XS.ifNo X0.here hx rfl (hb hby d1_6) rfl ((if0 _ _).trans (flt hc).1) k) ?_
    refine own_by (S' := s₁.setTop (mkF m 10 #[.val (.long q1), .second, .val (.long q2), .second, .val (.long q3), .second] [(.int (1 : Int32))])) (fun t k => XS.iconst X0.here hx rfl (hb hby d1_9) k) ?_
    refine own_by (S' := s₁.setTop (mkF m 14 #[.val (.long q1), .second, .val (.long q2), .second, .val (.long q3), .second] [(.int (1 : Int32))])) (fun t k => XS.goto X0.here hx rfl (pc0 := 10) (pc' := 14) rfl (hb hby d1_10) (by decide) (by decide) k) ?_
    exact own_retI X0 hx (t := .boolean) Bd.returns (by simp) rfl (hb hby d1_14) Bd.notSynchronized (by decide) (by decide) ⟨by rw [if_neg (fun q => hc ((lw_lt _ _).mpr q))], N0, e0⟩
def Q0 (h0 : Heap) (n0 : Nat) (v : Option Value) (h : Heap) (L : List Loc) : Prop := v = some (.int 1) ∧ Fr n0 L
theorem pn_1 : plainName "com/example/fairgate/fairgate/core/HoldIsLatePinLaw" = true := by first | (simp [plainName, overriddenIn]; done) | decide +kernel
theorem ef_rm0 (m : MethodId) (p1 : Int64) (p2 : Int64) (p3 : Int64) (p4 : Int32) (p5 : Int32) : entryFrame m #[(.long p1), (.long p2), (.long p3), (.int p4), (.int p5)] maxLocals = mkF m 0 #[.val (.long p1), .second, .val (.long p2), .second, .val (.long p3), .second, .val (.int p4), .val (.int p5), .unset, .unset, .unset, .unset, .unset, .unset, .unset] [] := by first | (simp [entryFrame, mkF, argsToLocals, Value.category, maxLocals]; done) | rfl
set_option maxRecDepth 65536 in
set_option maxHeartbeats 40000000 in
theorem rm0 (l : Launch) (Z : State) (a0 : Array Value) (hw : ∀ d ∈ tables_1, d.before a0 Z = true) (ws : List Jvm.Cond) (p1 p2 p3 : Int64) (p4 p5 : Int32) (h0 : Heap) (n0 : Nat) (Z0 : n0 ≤ h0.size) :
    MetFree l x (head1 (Jvm.Cond.code x code maxLocals ret :: ws) room_1) (fun a U => a = #[(.long p1), (.long p2), (.long p3), (.int p4), (.int p5)] ∧ Z.Warmed39 U.vm ∧ U.heap = h0) (fun _ _ _ _ _ => True) (fun _ U o U' => ∃ v L, o = .returned v ∧ (Q0  h0 n0) v U'.heap L ∧ FrameEnd U o U' L room_1.cells room_1.slots) := by
  refine MetFree.of_bodySF (plainFor_of_name pn_1) hisR ?_
  intro p e s m args below meth c s₁ Bd hml0 hP hK
  obtain ⟨rfl, hZ, hh⟩ := hP
  have hx := Bd.exec
  have hby := Bd.bytes
  have hml : c.maxLocals = 15 := hml0
  have hown : s.vm.findClass "com/example/fairgate/fairgate/core/HoldIsLatePinLaw" = some m.cls := findClass_of_methodNamed Bd.named
  have hnm := (name_of_methodNamed Bd.named Bd.method).1
  have X0 : Stand p l e room_1 s m #[(.long p1), (.long p2), (.long p3), (.int p4), (.int p5)] below meth c s₁ [] 0 0 := Stand.of_body Bd
  have e0 : s₁.heap = h0 := by rw [← hh, Bd.state]; rfl
  have N0 := Fr.nil n0
  show OwnG p e below (OwnE s (Q0  h0 n0) room_1.cells room_1.slots) _
  refine own_by (S' := s₁.setTop (mkF m 0 #[.val (.long p1), .second, .val (.long p2), .second, .val (.long p3), .second, .val (.int p4), .val (.int p5), .unset, .unset, .unset, .unset, .unset, .unset, .unset] [])) (fun t k => castTop (ef_rm0 m p1 p2 p3 p4 p5) k) ?_
  refine own_by (S' := s₁.setTop (mkF m 1 #[.val (.long p1), .second, .val (.long p2), .second, .val (.long p3), .second, .val (.int p4), .val (.int p5), .unset, .unset, .unset, .unset, .unset, .unset, .unset] [(.long p1)])) (fun t k => XS.lloadN X0.here hx rfl (hb hby at_0) rfl k) ?_
  refine own_by (S' := s₁.setTop (mkF m 2 #[.val (.long p1), .second, .val (.long p2), .second, .val (.long p3), .second, .val (.int p4), .val (.int p5), .unset, .unset, .unset, .unset, .unset, .unset, .unset] [(.int (2 : Int32)), (.long p1)])) (fun t k => XS.iconst X0.here hx rfl (hb hby at_1) k) ?_
  refine own_by (S' := s₁.setTop (mkF m 3 #[.val (.long p1), .second, .val (.long p2), .second, .val (.long p3), .second, .val (.int p4), .val (.int p5), .unset, .unset, .unset, .unset, .unset, .unset, .unset] [(.long (p1 >>> ((2 : Int32) &&& 0x3f).toInt64))])) (fun t k => XS.lshr X0.here hx rfl (hb hby at_2) rfl k) ?_
  obtain ⟨vo, hvo⟩ : ∃ z : Int64, z = (p1 >>> ((2 : Int32) &&& 0x3f).toInt64) := ⟨_, rfl⟩
  rw [← hvo]
  refine own_by (S' := s₁.setTop (mkF m 5 #[.val (.long p1), .second, .val (.long p2), .second, .val (.long p3), .second, .val (.int p4), .val (.int p5), .val (.long vo), .second, .unset, .unset, .unset, .unset, .unset] [])) (fun t k => XS.lstore X0.here hx rfl (hb hby at_3) rfl (l' := #[.val (.long p1), .second, .val (.long p2), .second, .val (.long p3), .second, .val (.int p4), .val (.int p5), .val (.long vo), .second, .unset, .unset, .unset, .unset, .unset]) rfl k) ?_
  refine own_by (S' := s₁.setTop (mkF m 7 #[.val (.long p1), .second, .val (.long p2), .second, .val (.long p3), .second, .val (.int p4), .val (.int p5), .val (.long vo), .second, .unset, .unset, .unset, .unset, .unset] [(.long p3)])) (fun t k => XS.lload X0.here hx rfl (hb hby at_5) rfl k) ?_
  refine own_by (S' := s₁.setTop (mkF m 8 #[.val (.long p1), .second, .val (.long p2), .second, .val (.long p3), .second, .val (.int p4), .val (.int p5), .val (.long vo), .second, .unset, .unset, .unset, .unset, .unset] [(.int (2 : Int32)), (.long p3)])) (fun t k => XS.iconst X0.here hx rfl (hb hby at_7) k) ?_
  refine own_by (S' := s₁.setTop (mkF m 9 #[.val (.long p1), .second, .val (.long p2), .second, .val (.long p3), .second, .val (.int p4), .val (.int p5), .val (.long vo), .second, .unset, .unset, .unset, .unset, .unset] [(.long (p3 >>> ((2 : Int32) &&& 0x3f).toInt64))])) (fun t k => XS.lshr X0.here hx rfl (hb hby at_8) rfl k) ?_
  obtain ⟨vl, hvl⟩ : ∃ z : Int64, z = (p3 >>> ((2 : Int32) &&& 0x3f).toInt64) := ⟨_, rfl⟩
  rw [← hvl]
  refine own_by (S' := s₁.setTop (mkF m 11 #[.val (.long p1), .second, .val (.long p2), .second, .val (.long p3), .second, .val (.int p4), .val (.int p5), .val (.long vo), .second, .val (.long vl), .second, .unset, .unset, .unset] [])) (fun t k => XS.lstore X0.here hx rfl (hb hby at_9) rfl (l' := #[.val (.long p1), .second, .val (.long p2), .second, .val (.long p3), .second, .val (.int p4), .val (.int p5), .val (.long vo), .second, .val (.long vl), .second, .unset, .unset, .unset]) rfl k) ?_
  refine own_by (S' := s₁.setTop (mkF m 13 #[.val (.long p1), .second, .val (.long p2), .second, .val (.long p3), .second, .val (.int p4), .val (.int p5), .val (.long vo), .second, .val (.long vl), .second, .unset, .unset, .unset] [(.int p5)])) (fun t k => XS.iload X0.here hx rfl (hb hby at_11) rfl k) ?_
  refine own_by (S' := s₁.setTop (mkF m 14 #[.val (.long p1), .second, .val (.long p2), .second, .val (.long p3), .second, .val (.int p4), .val (.int p5), .val (.long vo), .second, .val (.long vl), .second, .unset, .unset, .unset] [(.int (1 : Int32)), (.int p5)])) (fun t k => XS.iconst X0.here hx rfl (hb hby at_13) k) ?_
  refine own_by (S' := s₁.setTop (mkF m 15 #[.val (.long p1), .second, .val (.long p2), .second, .val (.long p3), .second, .val (.int p4), .val (.int p5), .val (.long vo), .second, .val (.long vl), .second, .unset, .unset, .unset] [(.int (p5 &&& (1 : Int32)))])) (fun t k => XS.iand X0.here hx rfl (hb hby at_14) rfl k) ?_
  have ro := own_shr p1
  have rl := own_shr p3
  have ra := own_shr p2
  rw [← hvo] at ro
  rw [← hvl] at rl
  by_cases hm : (p5 &&& (1 : Int32)) = (0 : Int32)
  · refine own_by (S' := s₁.setTop (mkF m 18 #[.val (.long p1), .second, .val (.long p2), .second, .val (.long p3), .second, .val (.int p4), .val (.int p5), .val (.long vo), .second, .val (.long vl), .second, .unset, .unset, .unset] [])) (fun t k => XS.ifNo X0.here hx rfl (hb hby at_15) rfl ((if0 _ _).trans (teq hm).2) k) ?_
    refine own_by (S' := s₁.setTop (mkF m 19 #[.val (.long p1), .second, .val (.long p2), .second, .val (.long p3), .second, .val (.int p4), .val (.int p5), .val (.long vo), .second, .val (.long vl), .second, .unset, .unset, .unset] [(.long p2)])) (fun t k => XS.lloadN X0.here hx rfl (hb hby at_18) rfl k) ?_
    refine own_by (S' := s₁.setTop (mkF m 20 #[.val (.long p1), .second, .val (.long p2), .second, .val (.long p3), .second, .val (.int p4), .val (.int p5), .val (.long vo), .second, .val (.long vl), .second, .unset, .unset, .unset] [(.int (2 : Int32)), (.long p2)])) (fun t k => XS.iconst X0.here hx rfl (hb hby at_19) k) ?_
    refine own_by (S' := s₁.setTop (mkF m 21 #[.val (.long p1), .second, .val (.long p2), .second, .val (.long p3), .second, .val (.int p4), .val (.int p5), .val (.long vo), .second, .val (.long vl), .second, .unset, .unset, .unset] [(.long (p2 >>> ((2 : Int32) &&& 0x3f).toInt64))])) (fun t k => XS.lshr X0.here hx rfl (hb hby at_20) rfl k) ?_
    obtain ⟨va, hva⟩ : ∃ z : Int64, z = (p2 >>> ((2 : Int32) &&& 0x3f).toInt64) := ⟨_, rfl⟩
    rw [← hva]
    refine own_by (S' := s₁.setTop (mkF m 23 #[.val (.long p1), .second, .val (.long p2), .second, .val (.long p3), .second, .val (.int p4), .val (.int p5), .val (.long vo), .second, .val (.long vl), .second, .val (.long va), .second, .unset] [])) (fun t k => XS.lstore X0.here hx rfl (hb hby at_21) rfl (l' := #[.val (.long p1), .second, .val (.long p2), .second, .val (.long p3), .second, .val (.int p4), .val (.int p5), .val (.long vo), .second, .val (.long vl), .second, .val (.long va), .second, .unset]) rfl k) ?_
    refine own_by (S' := s₁.setTop (mkF m 39 #[.val (.long p1), .second, .val (.long p2), .second, .val (.long p3), .second, .val (.int p4), .val (.int p5), .val (.long vo), .second, .val (.long vl), .second, .val (.long va), .second, .unset] [])) (fun t k => XS.goto X0.here hx rfl (pc0 := 23) (pc' := 39) rfl (hb hby at_23) (by decide) (by decide) k) ?_
    obtain ⟨hb1, hb2⟩ : -4611686018427387910 ≤ va.toInt ∧ va.toInt ≤ 4611686018427387910 := by rw [hva]; omega
    have key := own_late vo va vl ro.1 ro.2 rl.1 rl.2 hb1 hb2
    refine own_by (S' := s₁.setTop (mkF m 41 #[.val (.long p1), .second, .val (.long p2), .second, .val (.long p3), .second, .val (.int p4), .val (.int p5), .val (.long vo), .second, .val (.long vl), .second, .val (.long va), .second, .unset] [(.long va)])) (fun t k => XS.lload X0.here hx rfl (hb hby at_39) rfl k) ?_
    refine own_by (S' := s₁.setTop (mkF m 43 #[.val (.long p1), .second, .val (.long p2), .second, .val (.long p3), .second, .val (.int p4), .val (.int p5), .val (.long vo), .second, .val (.long vl), .second, .val (.long va), .second, .unset] [(.long vo), (.long va)])) (fun t k => XS.lload X0.here hx rfl (hb hby at_41) rfl k) ?_
    refine own_by (S' := s₁.setTop (mkF m 45 #[.val (.long p1), .second, .val (.long p2), .second, .val (.long p3), .second, .val (.int p4), .val (.int p5), .val (.long vo), .second, .val (.long vl), .second, .val (.long va), .second, .unset] [(.long vl), (.long vo), (.long va)])) (fun t k => XS.lload X0.here hx rfl (hb hby at_43) rfl k) ?_
    refine own_by (S' := s₁.setTop (mkF m 46 #[.val (.long p1), .second, .val (.long p2), .second, .val (.long p3), .second, .val (.int p4), .val (.int p5), .val (.long vo), .second, .val (.long vl), .second, .val (.long va), .second, .unset] [(.long (vo + vl)), (.long va)])) (fun t k => XS.ladd X0.here hx rfl (hb hby at_45) rfl k) ?_
    refine own_by (S' := s₁.setTop (mkF m 47 #[.val (.long p1), .second, .val (.long p2), .second, .val (.long p3), .second, .val (.int p4), .val (.int p5), .val (.long vo), .second, .val (.long vl), .second, .val (.long va), .second, .unset] [(.int (lcmpW va (vo + vl)))])) (fun t k => XS.lcmp X0.here hx rfl (hb hby at_46) rfl k) ?_
    by_cases hc : (lcmpW va (vo + vl)) < (0 : Int32)
    · refine own_by (S' := s₁.setTop (mkF m 54 #[.val (.long p1), .second, .val (.long p2), .second, .val (.long p3), .second, .val (.int p4), .val (.int p5), .val (.long vo), .second, .val (.long vl), .second, .val (.long va), .second, .unset] [])) (fun t k => XS.ifYes X0.here hx rfl (pc0 := 47) (pc' := 54) rfl (hb hby at_47) rfl ((if0 _ _).trans (tlt hc).1) (by decide) (by decide) k) ?_
      refine own_by (S' := s₁.setTop (mkF m 55 #[.val (.long p1), .second, .val (.long p2), .second, .val (.long p3), .second, .val (.int p4), .val (.int p5), .val (.long vo), .second, .val (.long vl), .second, .val (.long va), .second, .unset] [(.int (0 : Int32))])) (fun t k => XS.iconst X0.here hx rfl (hb hby at_54) k) ?_
      refine own_by (S' := s₁.setTop (mkF m 57 #[.val (.long p1), .second, .val (.long p2), .second, .val (.long p3), .second, .val (.int p4), .val (.int p5), .val (.long vo), .second, .val (.long vl), .second, .val (.long va), .second, .val (.int (0 : Int32))] [])) (fun t k => XS.istore X0.here hx rfl (hb hby at_55) rfl (l' := #[.val (.long p1), .second, .val (.long p2), .second, .val (.long p3), .second, .val (.int p4), .val (.int p5), .val (.long vo), .second, .val (.long vl), .second, .val (.long va), .second, .val (.int (0 : Int32))]) rfl k) ?_
      refine own_by (S' := s₁.setTop (mkF m 59 #[.val (.long p1), .second, .val (.long p2), .second, .val (.long p3), .second, .val (.int p4), .val (.int p5), .val (.long vo), .second, .val (.long vl), .second, .val (.long va), .second, .val (.int (0 : Int32))] [(.long vo)])) (fun t k => XS.lload X0.here hx rfl (hb hby at_57) rfl k) ?_
      refine own_by (S' := s₁.setTop (mkF m 61 #[.val (.long p1), .second, .val (.long p2), .second, .val (.long p3), .second, .val (.int p4), .val (.int p5), .val (.long vo), .second, .val (.long vl), .second, .val (.long va), .second, .val (.int (0 : Int32))] [(.long va), (.long vo)])) (fun t k => XS.lload X0.here hx rfl (hb hby at_59) rfl k) ?_
      refine own_by (S' := s₁.setTop (mkF m 63 #[.val (.long p1), .second, .val (.long p2), .second, .val (.long p3), .second, .val (.int p4), .val (.int p5), .val (.long vo), .second, .val (.long vl), .second, .val (.long va), .second, .val (.int (0 : Int32))] [(.long vl), (.long va), (.long vo)])) (fun t k => XS.lload X0.here hx rfl (hb hby at_61) rfl k) ?_
      have hres : (if va - vo < vl then (0 : Int32) else 1) = 0 := if_pos (key.mpr ((lw_lt _ _).mp hc))
      obtain ⟨_, _, ⟨T1, L1, k1, n1⟩, -, X1, ⟨Lc1, hQ1, l1, y1, z1⟩, st1⟩ := Jvm.LawKit.callS X0 hx (y := (⟨"com/example/fairgate/fairgate/core/Hold", "isLate", "(JJJ)Z"⟩ : MethodName)) hown (mvT hZ (hw _ (List.mem_of_getElem? (i := 0) rfl))) (mvT hZ (hw _ (List.mem_of_getElem? (i := 1) rfl))) (mvT hZ (hw _ (List.mem_of_getElem? (i := 2) rfl))) (mvT hZ (hw _ (List.mem_of_getElem? (i := 3) rfl))) (by decide) (backOf (W := 0) (rm1 l Z a0 hw [] vo va vl h0 n0 Z0) hZ (hw _ (List.mem_of_getElem? (i := 3) rfl)) (hw _ (List.mem_of_getElem? (i := 2) rfl)) (by decide) (by decide)) (g := (mkF m 63 #[.val (.long p1), .second, .val (.long p2), .second, .val (.long p3), .second, .val (.int p4), .val (.int p5), .val (.long vo), .second, .val (.long vl), .second, .val (.long va), .second, .val (.int (0 : Int32))] [(.long vl), (.long va), (.long vo)])) rfl (by rw [hml]; rfl) (argsL := [(.long vo), (.long va), (.long vl)]) (rest := []) (lenOf pd_0 rfl) rfl (by show 2 * 0 + _ ≤ _; exact Nat.le_of_eq rfl) (hb hby at_63) (fun _ _ => ⟨rfl, e0, (by decide : 0 + 0 ≤ _), (by decide : 0 + 0 ≤ _)⟩)
      dsimp only [Pt.U, Pt.locs, Pt.cells, Pt.slots] at X1 l1 y1 z1 st1 hQ1
      subst l1 y1 z1
      obtain ⟨rfl, N1q, heq1⟩ := hQ1
      have N1 := Fr.app N0 N1q
      refine own_by (S' := T1.setTop (mkF m 66 #[.val (.long p1), .second, .val (.long p2), .second, .val (.long p3), .second, .val (.int p4), .val (.int p5), .val (.long vo), .second, .val (.long vl), .second, .val (.long va), .second, .val (.int (0 : Int32))] [(.int (if va - vo < vl then (0 : Int32) else 1))])) (fun t k => st1 _ k) ?_
      refine own_by (S' := T1.setTop (mkF m 68 #[.val (.long p1), .second, .val (.long p2), .second, .val (.long p3), .second, .val (.int p4), .val (.int p5), .val (.long vo), .second, .val (.long vl), .second, .val (.long va), .second, .val (.int (0 : Int32))] [(.int (0 : Int32)), (.int (if va - vo < vl then (0 : Int32) else 1))])) (fun t k => XS.iload X1.here hx rfl (hb hby at_66) rfl k) ?_
      refine own_by (S' := T1.setTop (mkF m 71 #[.val (.long p1), .second, .val (.long p2), .second, .val (.long p3), .second, .val (.int p4), .val (.int p5), .val (.long vo), .second, .val (.long vl), .second, .val (.long va), .second, .val (.int (0 : Int32))] [])) (fun t k => XS.icmpNo X1.here hx rfl (hb hby at_68) rfl (teq hres).2 k) ?_
      refine own_by (S' := T1.setTop (mkF m 72 #[.val (.long p1), .second, .val (.long p2), .second, .val (.long p3), .second, .val (.int p4), .val (.int p5), .val (.long vo), .second, .val (.long vl), .second, .val (.long va), .second, .val (.int (0 : Int32))] [(.int (1 : Int32))])) (fun t k => XS.iconst X1.here hx rfl (hb hby at_71) k) ?_
      refine own_by (S' := T1.setTop (mkF m 76 #[.val (.long p1), .second, .val (.long p2), .second, .val (.long p3), .second, .val (.int p4), .val (.int p5), .val (.long vo), .second, .val (.long vl), .second, .val (.long va), .second, .val (.int (0 : Int32))] [(.int (1 : Int32))])) (fun t k => XS.goto X1.here hx rfl (pc0 := 72) (pc' := 76) rfl (hb hby at_72) (by decide) (by decide) k) ?_
      exact own_retI X1 hx (t := .boolean) Bd.returns (by simp) rfl (hb hby at_76) Bd.notSynchronized (by decide) (by decide) ⟨rfl, N1⟩
    · refine own_by (S' := s₁.setTop (mkF m 50 #[.val (.long p1), .second, .val (.long p2), .second, .val (.long p3), .second, .val (.int p4), .val (.int p5), .val (.long vo), .second, .val (.long vl), .second, .val (.long va), .second, .unset] [])) (fun t k => XS.ifNo X0.here hx rfl (hb hby at_47) rfl ((if0 _ _).trans (flt hc).1) k) ?_
      refine own_by (S' := s₁.setTop (mkF m 51 #[.val (.long p1), .second, .val (.long p2), .second, .val (.long p3), .second, .val (.int p4), .val (.int p5), .val (.long vo), .second, .val (.long vl), .second, .val (.long va), .second, .unset] [(.int (1 : Int32))])) (fun t k => XS.iconst X0.here hx rfl (hb hby at_50) k) ?_
      refine own_by (S' := s₁.setTop (mkF m 55 #[.val (.long p1), .second, .val (.long p2), .second, .val (.long p3), .second, .val (.int p4), .val (.int p5), .val (.long vo), .second, .val (.long vl), .second, .val (.long va), .second, .unset] [(.int (1 : Int32))])) (fun t k => XS.goto X0.here hx rfl (pc0 := 51) (pc' := 55) rfl (hb hby at_51) (by decide) (by decide) k) ?_
      refine own_by (S' := s₁.setTop (mkF m 57 #[.val (.long p1), .second, .val (.long p2), .second, .val (.long p3), .second, .val (.int p4), .val (.int p5), .val (.long vo), .second, .val (.long vl), .second, .val (.long va), .second, .val (.int (1 : Int32))] [])) (fun t k => XS.istore X0.here hx rfl (hb hby at_55) rfl (l' := #[.val (.long p1), .second, .val (.long p2), .second, .val (.long p3), .second, .val (.int p4), .val (.int p5), .val (.long vo), .second, .val (.long vl), .second, .val (.long va), .second, .val (.int (1 : Int32))]) rfl k) ?_
      refine own_by (S' := s₁.setTop (mkF m 59 #[.val (.long p1), .second, .val (.long p2), .second, .val (.long p3), .second, .val (.int p4), .val (.int p5), .val (.long vo), .second, .val (.long vl), .second, .val (.long va), .second, .val (.int (1 : Int32))] [(.long vo)])) (fun t k => XS.lload X0.here hx rfl (hb hby at_57) rfl k) ?_
      refine own_by (S' := s₁.setTop (mkF m 61 #[.val (.long p1), .second, .val (.long p2), .second, .val (.long p3), .second, .val (.int p4), .val (.int p5), .val (.long vo), .second, .val (.long vl), .second, .val (.long va), .second, .val (.int (1 : Int32))] [(.long va), (.long vo)])) (fun t k => XS.lload X0.here hx rfl (hb hby at_59) rfl k) ?_
      refine own_by (S' := s₁.setTop (mkF m 63 #[.val (.long p1), .second, .val (.long p2), .second, .val (.long p3), .second, .val (.int p4), .val (.int p5), .val (.long vo), .second, .val (.long vl), .second, .val (.long va), .second, .val (.int (1 : Int32))] [(.long vl), (.long va), (.long vo)])) (fun t k => XS.lload X0.here hx rfl (hb hby at_61) rfl k) ?_
      have hres : (if va - vo < vl then (0 : Int32) else 1) = 1 := if_neg (fun q => hc ((lw_lt _ _).mpr (key.mp q)))
      obtain ⟨_, _, ⟨T2, L2, k2, n2⟩, -, X2, ⟨Lc2, hQ2, l2, y2, z2⟩, st2⟩ := Jvm.LawKit.callS X0 hx (y := (⟨"com/example/fairgate/fairgate/core/Hold", "isLate", "(JJJ)Z"⟩ : MethodName)) hown (mvT hZ (hw _ (List.mem_of_getElem? (i := 0) rfl))) (mvT hZ (hw _ (List.mem_of_getElem? (i := 1) rfl))) (mvT hZ (hw _ (List.mem_of_getElem? (i := 2) rfl))) (mvT hZ (hw _ (List.mem_of_getElem? (i := 3) rfl))) (by decide) (backOf (W := 0) (rm1 l Z a0 hw [] vo va vl h0 n0 Z0) hZ (hw _ (List.mem_of_getElem? (i := 3) rfl)) (hw _ (List.mem_of_getElem? (i := 2) rfl)) (by decide) (by decide)) (g := (mkF m 63 #[.val (.long p1), .second, .val (.long p2), .second, .val (.long p3), .second, .val (.int p4), .val (.int p5), .val (.long vo), .second, .val (.long vl), .second, .val (.long va), .second, .val (.int (1 : Int32))] [(.long vl), (.long va), (.long vo)])) rfl (by rw [hml]; rfl) (argsL := [(.long vo), (.long va), (.long vl)]) (rest := []) (lenOf pd_0 rfl) rfl (by show 2 * 0 + _ ≤ _; exact Nat.le_of_eq rfl) (hb hby at_63) (fun _ _ => ⟨rfl, e0, (by decide : 0 + 0 ≤ _), (by decide : 0 + 0 ≤ _)⟩)
      dsimp only [Pt.U, Pt.locs, Pt.cells, Pt.slots] at X2 l2 y2 z2 st2 hQ2
      subst l2 y2 z2
      obtain ⟨rfl, N2q, heq2⟩ := hQ2
      have N2 := Fr.app N0 N2q
      refine own_by (S' := T2.setTop (mkF m 66 #[.val (.long p1), .second, .val (.long p2), .second, .val (.long p3), .second, .val (.int p4), .val (.int p5), .val (.long vo), .second, .val (.long vl), .second, .val (.long va), .second, .val (.int (1 : Int32))] [(.int (if va - vo < vl then (0 : Int32) else 1))])) (fun t k => st2 _ k) ?_
      refine own_by (S' := T2.setTop (mkF m 68 #[.val (.long p1), .second, .val (.long p2), .second, .val (.long p3), .second, .val (.int p4), .val (.int p5), .val (.long vo), .second, .val (.long vl), .second, .val (.long va), .second, .val (.int (1 : Int32))] [(.int (1 : Int32)), (.int (if va - vo < vl then (0 : Int32) else 1))])) (fun t k => XS.iload X2.here hx rfl (hb hby at_66) rfl k) ?_
      refine own_by (S' := T2.setTop (mkF m 71 #[.val (.long p1), .second, .val (.long p2), .second, .val (.long p3), .second, .val (.int p4), .val (.int p5), .val (.long vo), .second, .val (.long vl), .second, .val (.long va), .second, .val (.int (1 : Int32))] [])) (fun t k => XS.icmpNo X2.here hx rfl (hb hby at_68) rfl (teq hres).2 k) ?_
      refine own_by (S' := T2.setTop (mkF m 72 #[.val (.long p1), .second, .val (.long p2), .second, .val (.long p3), .second, .val (.int p4), .val (.int p5), .val (.long vo), .second, .val (.long vl), .second, .val (.long va), .second, .val (.int (1 : Int32))] [(.int (1 : Int32))])) (fun t k => XS.iconst X2.here hx rfl (hb hby at_71) k) ?_
      refine own_by (S' := T2.setTop (mkF m 76 #[.val (.long p1), .second, .val (.long p2), .second, .val (.long p3), .second, .val (.int p4), .val (.int p5), .val (.long vo), .second, .val (.long vl), .second, .val (.long va), .second, .val (.int (1 : Int32))] [(.int (1 : Int32))])) (fun t k => XS.goto X2.here hx rfl (pc0 := 72) (pc' := 76) rfl (hb hby at_72) (by decide) (by decide) k) ?_
      exact own_retI X2 hx (t := .boolean) Bd.returns (by simp) rfl (hb hby at_76) Bd.notSynchronized (by decide) (by decide) ⟨rfl, N2⟩
  · refine own_by (S' := s₁.setTop (mkF m 26 #[.val (.long p1), .second, .val (.long p2), .second, .val (.long p3), .second, .val (.int p4), .val (.int p5), .val (.long vo), .second, .val (.long vl), .second, .unset, .unset, .unset] [])) (fun t k => XS.ifYes X0.here hx rfl (pc0 := 15) (pc' := 26) rfl (hb hby at_15) rfl ((if0 _ _).trans (feq hm).2) (by decide) (by decide) k) ?_
    refine own_by (S' := s₁.setTop (mkF m 28 #[.val (.long p1), .second, .val (.long p2), .second, .val (.long p3), .second, .val (.int p4), .val (.int p5), .val (.long vo), .second, .val (.long vl), .second, .unset, .unset, .unset] [(.long vo)])) (fun t k => XS.lload X0.here hx rfl (hb hby at_26) rfl k) ?_
    refine own_by (S' := s₁.setTop (mkF m 30 #[.val (.long p1), .second, .val (.long p2), .second, .val (.long p3), .second, .val (.int p4), .val (.int p5), .val (.long vo), .second, .val (.long vl), .second, .unset, .unset, .unset] [(.long vl), (.long vo)])) (fun t k => XS.lload X0.here hx rfl (hb hby at_28) rfl k) ?_
    refine own_by (S' := s₁.setTop (mkF m 31 #[.val (.long p1), .second, .val (.long p2), .second, .val (.long p3), .second, .val (.int p4), .val (.int p5), .val (.long vo), .second, .val (.long vl), .second, .unset, .unset, .unset] [(.long (vo + vl))])) (fun t k => XS.ladd X0.here hx rfl (hb hby at_30) rfl k) ?_
    refine own_by (S' := s₁.setTop (mkF m 33 #[.val (.long p1), .second, .val (.long p2), .second, .val (.long p3), .second, .val (.int p4), .val (.int p5), .val (.long vo), .second, .val (.long vl), .second, .unset, .unset, .unset] [(.int p4), (.long (vo + vl))])) (fun t k => XS.iload X0.here hx rfl (hb hby at_31) rfl k) ?_
    refine own_by (S' := s₁.setTop (mkF m 34 #[.val (.long p1), .second, .val (.long p2), .second, .val (.long p3), .second, .val (.int p4), .val (.int p5), .val (.long vo), .second, .val (.long vl), .second, .unset, .unset, .unset] [(.int (4 : Int32)), (.int p4), (.long (vo + vl))])) (fun t k => XS.iconst X0.here hx rfl (hb hby at_33) k) ?_
    refine own_by (S' := s₁.setTop (mkF m 35 #[.val (.long p1), .second, .val (.long p2), .second, .val (.long p3), .second, .val (.int p4), .val (.int p5), .val (.long vo), .second, .val (.long vl), .second, .unset, .unset, .unset] [(.int (p4 % (4 : Int32))), (.long (vo + vl))])) (fun t k => Jvm.RoadKit.iremM X0 hx rfl (hb hby at_34) rfl (by decide) k) ?_
    refine own_by (S' := s₁.setTop (mkF m 36 #[.val (.long p1), .second, .val (.long p2), .second, .val (.long p3), .second, .val (.int p4), .val (.int p5), .val (.long vo), .second, .val (.long vl), .second, .unset, .unset, .unset] [(.long ((p4 % (4 : Int32)).toInt64)), (.long (vo + vl))])) (fun t k => XS.i2l X0.here hx rfl (hb hby at_35) rfl k) ?_
    refine own_by (S' := s₁.setTop (mkF m 37 #[.val (.long p1), .second, .val (.long p2), .second, .val (.long p3), .second, .val (.int p4), .val (.int p5), .val (.long vo), .second, .val (.long vl), .second, .unset, .unset, .unset] [(.long ((vo + vl) + ((p4 % (4 : Int32)).toInt64)))])) (fun t k => XS.ladd X0.here hx rfl (hb hby at_36) rfl k) ?_
    obtain ⟨va, hva⟩ : ∃ z : Int64, z = ((vo + vl) + ((p4 % (4 : Int32)).toInt64)) := ⟨_, rfl⟩
    rw [← hva]
    refine own_by (S' := s₁.setTop (mkF m 39 #[.val (.long p1), .second, .val (.long p2), .second, .val (.long p3), .second, .val (.int p4), .val (.int p5), .val (.long vo), .second, .val (.long vl), .second, .val (.long va), .second, .unset] [])) (fun t k => XS.lstore X0.here hx rfl (hb hby at_37) rfl (l' := #[.val (.long p1), .second, .val (.long p2), .second, .val (.long p3), .second, .val (.int p4), .val (.int p5), .val (.long vo), .second, .val (.long vl), .second, .val (.long va), .second, .unset]) rfl k) ?_
    obtain ⟨hb1, hb2⟩ : -4611686018427387910 ≤ va.toInt ∧ va.toInt ≤ 4611686018427387910 := by rw [hva]; exact own_mid vo vl p4 ro.1 ro.2 rl.1 rl.2
    have key := own_late vo va vl ro.1 ro.2 rl.1 rl.2 hb1 hb2
    refine own_by (S' := s₁.setTop (mkF m 41 #[.val (.long p1), .second, .val (.long p2), .second, .val (.long p3), .second, .val (.int p4), .val (.int p5), .val (.long vo), .second, .val (.long vl), .second, .val (.long va), .second, .unset] [(.long va)])) (fun t k => XS.lload X0.here hx rfl (hb hby at_39) rfl k) ?_
    refine own_by (S' := s₁.setTop (mkF m 43 #[.val (.long p1), .second, .val (.long p2), .second, .val (.long p3), .second, .val (.int p4), .val (.int p5), .val (.long vo), .second, .val (.long vl), .second, .val (.long va), .second, .unset] [(.long vo), (.long va)])) (fun t k => XS.lload X0.here hx rfl (hb hby at_41) rfl k) ?_
    refine own_by (S' := s₁.setTop (mkF m 45 #[.val (.long p1), .second, .val (.long p2), .second, .val (.long p3), .second, .val (.int p4), .val (.int p5), .val (.long vo), .second, .val (.long vl), .second, .val (.long va), .second, .unset] [(.long vl), (.long vo), (.long va)])) (fun t k => XS.lload X0.here hx rfl (hb hby at_43) rfl k) ?_
    refine own_by (S' := s₁.setTop (mkF m 46 #[.val (.long p1), .second, .val (.long p2), .second, .val (.long p3), .second, .val (.int p4), .val (.int p5), .val (.long vo), .second, .val (.long vl), .second, .val (.long va), .second, .unset] [(.long (vo + vl)), (.long va)])) (fun t k => XS.ladd X0.here hx rfl (hb hby at_45) rfl k) ?_
    refine own_by (S' := s₁.setTop (mkF m 47 #[.val (.long p1), .second, .val (.long p2), .second, .val (.long p3), .second, .val (.int p4), .val (.int p5), .val (.long vo), .second, .val (.long vl), .second, .val (.long va), .second, .unset] [(.int (lcmpW va (vo + vl)))])) (fun t k => XS.lcmp X0.here hx rfl (hb hby at_46) rfl k) ?_
    by_cases hc : (lcmpW va (vo + vl)) < (0 : Int32)
    · refine own_by (S' := s₁.setTop (mkF m 54 #[.val (.long p1), .second, .val (.long p2), .second, .val (.long p3), .second, .val (.int p4), .val (.int p5), .val (.long vo), .second, .val (.long vl), .second, .val (.long va), .second, .unset] [])) (fun t k => XS.ifYes X0.here hx rfl (pc0 := 47) (pc' := 54) rfl (hb hby at_47) rfl ((if0 _ _).trans (tlt hc).1) (by decide) (by decide) k) ?_
      refine own_by (S' := s₁.setTop (mkF m 55 #[.val (.long p1), .second, .val (.long p2), .second, .val (.long p3), .second, .val (.int p4), .val (.int p5), .val (.long vo), .second, .val (.long vl), .second, .val (.long va), .second, .unset] [(.int (0 : Int32))])) (fun t k => XS.iconst X0.here hx rfl (hb hby at_54) k) ?_
      refine own_by (S' := s₁.setTop (mkF m 57 #[.val (.long p1), .second, .val (.long p2), .second, .val (.long p3), .second, .val (.int p4), .val (.int p5), .val (.long vo), .second, .val (.long vl), .second, .val (.long va), .second, .val (.int (0 : Int32))] [])) (fun t k => XS.istore X0.here hx rfl (hb hby at_55) rfl (l' := #[.val (.long p1), .second, .val (.long p2), .second, .val (.long p3), .second, .val (.int p4), .val (.int p5), .val (.long vo), .second, .val (.long vl), .second, .val (.long va), .second, .val (.int (0 : Int32))]) rfl k) ?_
      refine own_by (S' := s₁.setTop (mkF m 59 #[.val (.long p1), .second, .val (.long p2), .second, .val (.long p3), .second, .val (.int p4), .val (.int p5), .val (.long vo), .second, .val (.long vl), .second, .val (.long va), .second, .val (.int (0 : Int32))] [(.long vo)])) (fun t k => XS.lload X0.here hx rfl (hb hby at_57) rfl k) ?_
      refine own_by (S' := s₁.setTop (mkF m 61 #[.val (.long p1), .second, .val (.long p2), .second, .val (.long p3), .second, .val (.int p4), .val (.int p5), .val (.long vo), .second, .val (.long vl), .second, .val (.long va), .second, .val (.int (0 : Int32))] [(.long va), (.long vo)])) (fun t k => XS.lload X0.here hx rfl (hb hby at_59) rfl k) ?_
      refine own_by (S' := s₁.setTop (mkF m 63 #[.val (.long p1), .second, .val (.long p2), .second, .val (.long p3), .second, .val (.int p4), .val (.int p5), .val (.long vo), .second, .val (.long vl), .second, .val (.long va), .second, .val (.int (0 : Int32))] [(.long vl), (.long va), (.long vo)])) (fun t k => XS.lload X0.here hx rfl (hb hby at_61) rfl k) ?_
      have hres : (if va - vo < vl then (0 : Int32) else 1) = 0 := if_pos (key.mpr ((lw_lt _ _).mp hc))
      obtain ⟨_, _, ⟨T3, L3, k3, n3⟩, -, X3, ⟨Lc3, hQ3, l3, y3, z3⟩, st3⟩ := Jvm.LawKit.callS X0 hx (y := (⟨"com/example/fairgate/fairgate/core/Hold", "isLate", "(JJJ)Z"⟩ : MethodName)) hown (mvT hZ (hw _ (List.mem_of_getElem? (i := 0) rfl))) (mvT hZ (hw _ (List.mem_of_getElem? (i := 1) rfl))) (mvT hZ (hw _ (List.mem_of_getElem? (i := 2) rfl))) (mvT hZ (hw _ (List.mem_of_getElem? (i := 3) rfl))) (by decide) (backOf (W := 0) (rm1 l Z a0 hw [] vo va vl h0 n0 Z0) hZ (hw _ (List.mem_of_getElem? (i := 3) rfl)) (hw _ (List.mem_of_getElem? (i := 2) rfl)) (by decide) (by decide)) (g := (mkF m 63 #[.val (.long p1), .second, .val (.long p2), .second, .val (.long p3), .second, .val (.int p4), .val (.int p5), .val (.long vo), .second, .val (.long vl), .second, .val (.long va), .second, .val (.int (0 : Int32))] [(.long vl), (.long va), (.long vo)])) rfl (by rw [hml]; rfl) (argsL := [(.long vo), (.long va), (.long vl)]) (rest := []) (lenOf pd_0 rfl) rfl (by show 2 * 0 + _ ≤ _; exact Nat.le_of_eq rfl) (hb hby at_63) (fun _ _ => ⟨rfl, e0, (by decide : 0 + 0 ≤ _), (by decide : 0 + 0 ≤ _)⟩)
      dsimp only [Pt.U, Pt.locs, Pt.cells, Pt.slots] at X3 l3 y3 z3 st3 hQ3
      subst l3 y3 z3
      obtain ⟨rfl, N3q, heq3⟩ := hQ3
      have N3 := Fr.app N0 N3q
      refine own_by (S' := T3.setTop (mkF m 66 #[.val (.long p1), .second, .val (.long p2), .second, .val (.long p3), .second, .val (.int p4), .val (.int p5), .val (.long vo), .second, .val (.long vl), .second, .val (.long va), .second, .val (.int (0 : Int32))] [(.int (if va - vo < vl then (0 : Int32) else 1))])) (fun t k => st3 _ k) ?_
      refine own_by (S' := T3.setTop (mkF m 68 #[.val (.long p1), .second, .val (.long p2), .second, .val (.long p3), .second, .val (.int p4), .val (.int p5), .val (.long vo), .second, .val (.long vl), .second, .val (.long va), .second, .val (.int (0 : Int32))] [(.int (0 : Int32)), (.int (if va - vo < vl then (0 : Int32) else 1))])) (fun t k => XS.iload X3.here hx rfl (hb hby at_66) rfl k) ?_
      refine own_by (S' := T3.setTop (mkF m 71 #[.val (.long p1), .second, .val (.long p2), .second, .val (.long p3), .second, .val (.int p4), .val (.int p5), .val (.long vo), .second, .val (.long vl), .second, .val (.long va), .second, .val (.int (0 : Int32))] [])) (fun t k => XS.icmpNo X3.here hx rfl (hb hby at_68) rfl (teq hres).2 k) ?_
      refine own_by (S' := T3.setTop (mkF m 72 #[.val (.long p1), .second, .val (.long p2), .second, .val (.long p3), .second, .val (.int p4), .val (.int p5), .val (.long vo), .second, .val (.long vl), .second, .val (.long va), .second, .val (.int (0 : Int32))] [(.int (1 : Int32))])) (fun t k => XS.iconst X3.here hx rfl (hb hby at_71) k) ?_
      refine own_by (S' := T3.setTop (mkF m 76 #[.val (.long p1), .second, .val (.long p2), .second, .val (.long p3), .second, .val (.int p4), .val (.int p5), .val (.long vo), .second, .val (.long vl), .second, .val (.long va), .second, .val (.int (0 : Int32))] [(.int (1 : Int32))])) (fun t k => XS.goto X3.here hx rfl (pc0 := 72) (pc' := 76) rfl (hb hby at_72) (by decide) (by decide) k) ?_
      exact own_retI X3 hx (t := .boolean) Bd.returns (by simp) rfl (hb hby at_76) Bd.notSynchronized (by decide) (by decide) ⟨rfl, N3⟩
    · refine own_by (S' := s₁.setTop (mkF m 50 #[.val (.long p1), .second, .val (.long p2), .second, .val (.long p3), .second, .val (.int p4), .val (.int p5), .val (.long vo), .second, .val (.long vl), .second, .val (.long va), .second, .unset] [])) (fun t k => XS.ifNo X0.here hx rfl (hb hby at_47) rfl ((if0 _ _).trans (flt hc).1) k) ?_
      refine own_by (S' := s₁.setTop (mkF m 51 #[.val (.long p1), .second, .val (.long p2), .second, .val (.long p3), .second, .val (.int p4), .val (.int p5), .val (.long vo), .second, .val (.long vl), .second, .val (.long va), .second, .unset] [(.int (1 : Int32))])) (fun t k => XS.iconst X0.here hx rfl (hb hby at_50) k) ?_
      refine own_by (S' := s₁.setTop (mkF m 55 #[.val (.long p1), .second, .val (.long p2), .second, .val (.long p3), .second, .val (.int p4), .val (.int p5), .val (.long vo), .second, .val (.long vl), .second, .val (.long va), .second, .unset] [(.int (1 : Int32))])) (fun t k => XS.goto X0.here hx rfl (pc0 := 51) (pc' := 55) rfl (hb hby at_51) (by decide) (by decide) k) ?_
      refine own_by (S' := s₁.setTop (mkF m 57 #[.val (.long p1), .second, .val (.long p2), .second, .val (.long p3), .second, .val (.int p4), .val (.int p5), .val (.long vo), .second, .val (.long vl), .second, .val (.long va), .second, .val (.int (1 : Int32))] [])) (fun t k => XS.istore X0.here hx rfl (hb hby at_55) rfl (l' := #[.val (.long p1), .second, .val (.long p2), .second, .val (.long p3), .second, .val (.int p4), .val (.int p5), .val (.long vo), .second, .val (.long vl), .second, .val (.long va), .second, .val (.int (1 : Int32))]) rfl k) ?_
      refine own_by (S' := s₁.setTop (mkF m 59 #[.val (.long p1), .second, .val (.long p2), .second, .val (.long p3), .second, .val (.int p4), .val (.int p5), .val (.long vo), .second, .val (.long vl), .second, .val (.long va), .second, .val (.int (1 : Int32))] [(.long vo)])) (fun t k => XS.lload X0.here hx rfl (hb hby at_57) rfl k) ?_
      refine own_by (S' := s₁.setTop (mkF m 61 #[.val (.long p1), .second, .val (.long p2), .second, .val (.long p3), .second, .val (.int p4), .val (.int p5), .val (.long vo), .second, .val (.long vl), .second, .val (.long va), .second, .val (.int (1 : Int32))] [(.long va), (.long vo)])) (fun t k => XS.lload X0.here hx rfl (hb hby at_59) rfl k) ?_
      refine own_by (S' := s₁.setTop (mkF m 63 #[.val (.long p1), .second, .val (.long p2), .second, .val (.long p3), .second, .val (.int p4), .val (.int p5), .val (.long vo), .second, .val (.long vl), .second, .val (.long va), .second, .val (.int (1 : Int32))] [(.long vl), (.long va), (.long vo)])) (fun t k => XS.lload X0.here hx rfl (hb hby at_61) rfl k) ?_
      have hres : (if va - vo < vl then (0 : Int32) else 1) = 1 := if_neg (fun q => hc ((lw_lt _ _).mpr (key.mp q)))
      obtain ⟨_, _, ⟨T4, L4, k4, n4⟩, -, X4, ⟨Lc4, hQ4, l4, y4, z4⟩, st4⟩ := Jvm.LawKit.callS X0 hx (y := (⟨"com/example/fairgate/fairgate/core/Hold", "isLate", "(JJJ)Z"⟩ : MethodName)) hown (mvT hZ (hw _ (List.mem_of_getElem? (i := 0) rfl))) (mvT hZ (hw _ (List.mem_of_getElem? (i := 1) rfl))) (mvT hZ (hw _ (List.mem_of_getElem? (i := 2) rfl))) (mvT hZ (hw _ (List.mem_of_getElem? (i := 3) rfl))) (by decide) (backOf (W := 0) (rm1 l Z a0 hw [] vo va vl h0 n0 Z0) hZ (hw _ (List.mem_of_getElem? (i := 3) rfl)) (hw _ (List.mem_of_getElem? (i := 2) rfl)) (by decide) (by decide)) (g := (mkF m 63 #[.val (.long p1), .second, .val (.long p2), .second, .val (.long p3), .second, .val (.int p4), .val (.int p5), .val (.long vo), .second, .val (.long vl), .second, .val (.long va), .second, .val (.int (1 : Int32))] [(.long vl), (.long va), (.long vo)])) rfl (by rw [hml]; rfl) (argsL := [(.long vo), (.long va), (.long vl)]) (rest := []) (lenOf pd_0 rfl) rfl (by show 2 * 0 + _ ≤ _; exact Nat.le_of_eq rfl) (hb hby at_63) (fun _ _ => ⟨rfl, e0, (by decide : 0 + 0 ≤ _), (by decide : 0 + 0 ≤ _)⟩)
      dsimp only [Pt.U, Pt.locs, Pt.cells, Pt.slots] at X4 l4 y4 z4 st4 hQ4
      subst l4 y4 z4
      obtain ⟨rfl, N4q, heq4⟩ := hQ4
      have N4 := Fr.app N0 N4q
      refine own_by (S' := T4.setTop (mkF m 66 #[.val (.long p1), .second, .val (.long p2), .second, .val (.long p3), .second, .val (.int p4), .val (.int p5), .val (.long vo), .second, .val (.long vl), .second, .val (.long va), .second, .val (.int (1 : Int32))] [(.int (if va - vo < vl then (0 : Int32) else 1))])) (fun t k => st4 _ k) ?_
      refine own_by (S' := T4.setTop (mkF m 68 #[.val (.long p1), .second, .val (.long p2), .second, .val (.long p3), .second, .val (.int p4), .val (.int p5), .val (.long vo), .second, .val (.long vl), .second, .val (.long va), .second, .val (.int (1 : Int32))] [(.int (1 : Int32)), (.int (if va - vo < vl then (0 : Int32) else 1))])) (fun t k => XS.iload X4.here hx rfl (hb hby at_66) rfl k) ?_
      refine own_by (S' := T4.setTop (mkF m 71 #[.val (.long p1), .second, .val (.long p2), .second, .val (.long p3), .second, .val (.int p4), .val (.int p5), .val (.long vo), .second, .val (.long vl), .second, .val (.long va), .second, .val (.int (1 : Int32))] [])) (fun t k => XS.icmpNo X4.here hx rfl (hb hby at_68) rfl (teq hres).2 k) ?_
      refine own_by (S' := T4.setTop (mkF m 72 #[.val (.long p1), .second, .val (.long p2), .second, .val (.long p3), .second, .val (.int p4), .val (.int p5), .val (.long vo), .second, .val (.long vl), .second, .val (.long va), .second, .val (.int (1 : Int32))] [(.int (1 : Int32))])) (fun t k => XS.iconst X4.here hx rfl (hb hby at_71) k) ?_
      refine own_by (S' := T4.setTop (mkF m 76 #[.val (.long p1), .second, .val (.long p2), .second, .val (.long p3), .second, .val (.int p4), .val (.int p5), .val (.long vo), .second, .val (.long vl), .second, .val (.long va), .second, .val (.int (1 : Int32))] [(.int (1 : Int32))])) (fun t k => XS.goto X4.here hx rfl (pc0 := 72) (pc' := 76) rfl (hb hby at_72) (by decide) (by decide) k) ?_
      exact own_retI X4 hx (t := .boolean) Bd.returns (by simp) rfl (hb hby at_76) Bd.notSynchronized (by decide) (by decide) ⟨rfl, N4⟩
set_option maxRecDepth 65536 in
set_option maxHeartbeats 40000000 in
theorem comes_1 {Post : Tables → Env → Array Value → State → Outcome → State → Prop} (hpost : ∀ tb e args s v u, (limb_1_1.after args s (.returned v) u = true ∧ limb_1_2.after args s (.returned v) u = true ∧ True) → FrameEnd s (.returned v) u (Jvm.fieldLocs frame_1_writes args s ++ Jvm.arrayLocs frame_1_arrays args s ++ Jvm.staticLocs frame_1_statics s) 0 0 → Post tb e args s (.returned v) u) :
    ArmFor flags0 classFile x code maxLocals ret World_1 tables_1 room_1 Calls_1 rest_1 Pre_1 Post := by
  intro l hfl _ _ p e ha hc hk s m args below hf hA hF happ hP
  obtain ⟨hcalls, hrest, hpre⟩ := hP
  obtain ⟨-, -, -, hnamed, -, -, -, hat⟩ := (Spec.applies_iff hf).mp happ
  obtain ⟨hg, hn⟩ := and_e (Cond.before_iff.mp (show (Jvm.Cond.and given_1 narrow_1).before args s = true from hpre))
  obtain ⟨gc, gr0⟩ := and_e hg
  obtain ⟨ga0, gr1⟩ := and_e gr0
  obtain ⟨ga1, gr2⟩ := and_e gr1
  obtain ⟨ga2, gr3⟩ := and_e gr2
  obtain ⟨ga3, gr4⟩ := and_e gr3
  obtain ⟨w0, w1, w2, w3, w4, rfl⟩ : ∃ w0 w1 w2 w3 w4 : Value, args = #[w0, w1, w2, w3, w4] := by
    have hs : args.size = 5 := by simpa [Cond.value, given_1] using gc
    obtain ⟨L⟩ := args
    match L, hs with
    | [w0, w1, w2, w3, w4], _ => exact ⟨w0, w1, w2, w3, w4, rfl⟩
  have hw := fun d (hd : d ∈ tables_1) => atoms_spec (ws := Jvm.Cond.code x code maxLocals ret :: tables_1) hat d (List.mem_cons_of_mem _ hd)
  have hfit : Fit s := fun {y c} hc i hi => by
    obtain ⟨ha, rfl⟩ := Array.getElem?_eq_some_iff.mp hc
    have q := List.all_eq_true.mp ((Array.all_eq_true_iff_forall_mem.mp hF) _ (Array.getElem_mem ha)) i (List.mem_range.mpr hi)
    simpa [Array.getElem?_eq_getElem hi] using q
  obtain ⟨i0, ei0⟩ := isL_v ga0
  obtain rfl : w0 = (.long i0) := Option.some.inj ei0
  obtain ⟨i1, ei1⟩ := isL_v ga1
  obtain rfl : w1 = (.long i1) := Option.some.inj ei1
  obtain ⟨i2, ei2⟩ := isL_v ga2
  obtain rfl : w2 = (.long i2) := Option.some.inj ei2
  obtain ⟨i3, ei3⟩ := is_v ga3
  obtain rfl : w3 = (.int i3) := Option.some.inj ei3
  obtain ⟨i4, ei4⟩ := is_v gr4
  obtain rfl : w4 = (.int i4) := Option.some.inj ei4
  obtain ⟨n, o, h1, h2, h3, _, L, rfl, ⟨rfl, N⟩, hq⟩ := rm0 l s _ hw tables_1 i0 i1 i2 i3 i4 s.heap s.heap.size (Nat.le_refl _) p e ha hc hk s m _ below hf ((Spec.applies_iff_loose hf).mp happ).1 ⟨rfl, State.Warmed39.refl s, rfl⟩ trivial
  refine ⟨n, _, h1, h2, h3, hpost _ _ _ _ _ _ ⟨Cond.after_iff.mpr rfl, Cond.after_iff.mpr (eq_i res_at (Term.int_eval (1)) rfl), trivial⟩ ⟨hq.1, hq.2.1, (hq.2.2.sift fun y hy => Or.inr (N y hy)).mono (by decide) (by decide)⟩⟩
theorem main_1_1 : Claimed_1_1 := comes_1 fun _ _ _ _ _ _ h hF => ⟨h.1, hF⟩
theorem main_1_2 : Claimed_1_2 := comes_1 fun _ _ _ _ _ _ h hF => ⟨h.2.1, hF⟩

end Jvm.Pilot.@@N@@
namespace Jvm.Pilot.@@N@@
open Jvm Jvm.ClassFile Sem Op Lib Jvm.Free Jvm.Stand Jvm.Pilot.@@N@@.Jvm.D
/-! MADE BY PROGRAM (witnessworld.py) out of the Statement's table words and the real class files: 9 classes; the members and pool entries that the words name. The judged class is class 1, her method 1. -/
namespace start1
open Jvm.ClassFile
def u (s : String) : CpInfo := .utf8 (stringToUtf16 s)
/-- a pool by its gaps: so many unusable entries, then the entry; so many at the end -/
def gap : Nat → List CpInfo → List CpInfo
  | 0, r => r
  | n + 1, r => .unusable :: gap n r
def poolList (es : List (Nat × CpInfo)) (last : Nat) : List CpInfo := es.foldr (fun e r => gap e.1 (e.2 :: r)) (gap last [])
def pool (es : List (Nat × CpInfo)) (last : Nat) : Array CpInfo := ⟨poolList es last⟩
def fileOf (pool : Array CpInfo) (this : Nat) (attrs : Array Attribute := #[]) (ms : Array MethodInfo := #[]) (fl : Nat := 33) (sup : Nat := 0) (ifs : Array Nat := #[]) (fds : Array FieldInfo := #[]) : ClassFile where
  minorVersion := 0
  majorVersion := 65
  constantPool := pool
  accessFlags := fl
  thisClass := this
  superClass := sup
  interfaces := ifs
  fields := fds
  methods := ms
  attributes := attrs
def plain (name : String) (sup : Option ClassId) : Class where
  name := name
  kind := .ordinary
  loader := none
  accessFlags := 33
  super := sup
  interfaces := #[]
  cf := none
  fields := #[]
  methods := #[]
  instanceTypes := #[]
  staticTypes := #[]
  resolved := #[]
  callSites := []
  init := .initialized
  statics := none
  mirror := none

def pool0 : Array CpInfo := pool [(5, u "<init>"), (0, u "()V"), (1, .class_ 10), (1, u "java/lang/Object")] 113

def k0m0 : Method := { name := "<init>", desc := "()V", sig := { parameters := [], returnType := none }, accessFlags := 1, code := none }
/-- java/lang/Object -/
def k0 : Class := { plain "java/lang/Object" none with
  accessFlags := 33
  interfaces := #[]
  cf := some (fileOf pool0 8 #[] #[{ accessFlags := 1, nameIndex := 5, descriptorIndex := 6, attributes := #[] }] 33 0 #[] #[])
  fields := #[]
  methods := #[k0m0]
  instanceTypes := #[]
  staticTypes := #[]
  resolved := Array.replicate 124 none
  statics := none }

def pool1 : Array CpInfo := pool [(2, .class_ 4), (1, u "java/lang/Object"), (0, u "<init>"), (0, u "()V"), (0, .interfaceMethodref 8 9), (0, .class_ 10), (0, .nameAndType 11 12), (0, u "com/example/fairgate/fairgate/core/Hold"), (0, u "isLate"), (0, u "(JJJ)Z"), (0, .class_ 14), (0, u "com/example/fairgate/fairgate/core/HoldIsLatePinLaw"), (2, u "law"), (0, u "(JJJII)Z")] 3

def k1m0 : Method := { name := "<init>", desc := "()V", sig := { parameters := [], returnType := none }, accessFlags := 1, code := none }
def k1c1 : Code := { maxStack := 6, maxLocals := 15, code := code, exceptionTable := #[], attributes := #[] }
def k1m1 : Method := { name := "law", desc := "(JJJII)Z", sig := { parameters := [.long, .long, .long, .int, .int], returnType := some .boolean }, accessFlags := 9, code := some k1c1 }
/-- com/example/fairgate/fairgate/core/HoldIsLatePinLaw -/
def k1 : Class := { plain "com/example/fairgate/fairgate/core/HoldIsLatePinLaw" (some 0) with
  accessFlags := 49
  interfaces := #[]
  cf := some (fileOf pool1 13 #[] #[{ accessFlags := 1, nameIndex := 5, descriptorIndex := 6, attributes := #[] }, { accessFlags := 9, nameIndex := 17, descriptorIndex := 18, attributes := #[] }] 49 2 #[] #[])
  fields := #[]
  methods := #[k1m0, k1m1]
  instanceTypes := #[]
  staticTypes := #[]
  resolved := Array.replicate 22 none
  statics := none }

def pool2 : Array CpInfo := pool [(4, .class_ 6), (1, u "com/example/fairgate/fairgate/core/Hold"), (3, .class_ 12), (1, u "com/example/fairgate/fairgate/core/Hold$Feed"), (31, .class_ 46), (1, u "com/example/fairgate/fairgate/core/Hold$Sink"), (8, u "isLate"), (0, u "(JJJ)Z"), (0, .class_ 58), (0, u "java/lang/Object"), (0, u "NEVER"), (0, u "J")] 24

def k2c0 : Code := { maxStack := 4, maxLocals := 6, code := prog_30_method_5_code, exceptionTable := #[], attributes := #[] }
def k2m0 : Method := { name := "isLate", desc := "(JJJ)Z", sig := { parameters := [.long, .long, .long], returnType := some .boolean }, accessFlags := 9, code := some k2c0 }
/-- com/example/fairgate/fairgate/core/Hold -/
def k2 : Class := { plain "com/example/fairgate/fairgate/core/Hold" (some 0) with
  accessFlags := 1537
  interfaces := #[]
  cf := some (fileOf pool2 4 #[.nestMembers #[44, 10]] #[{ accessFlags := 9, nameIndex := 55, descriptorIndex := 56, attributes := #[] }] 1537 57 #[] #[{ accessFlags := 25, nameIndex := 59, descriptorIndex := 60, attributes := #[] }])
  fields := #[{ name := "NEVER", type := .long, accessFlags := 25, slot := 0, constantValue := 0 }]
  methods := #[k2m0]
  instanceTypes := #[]
  staticTypes := #[.long]
  resolved := Array.replicate 85 none
  statics := none }

def pool3 : Array CpInfo := pool [(1, u "java/lang/Cloneable"), (0, .class_ 1), (0, u "java/lang/Object"), (0, .class_ 3)] 3

/-- java/lang/Cloneable -/
def k3 : Class := { plain "java/lang/Cloneable" (some 0) with
  accessFlags := 1537
  interfaces := #[]
  cf := some (fileOf pool3 2 #[] #[] 1537 4 #[] #[])
  fields := #[]
  methods := #[]
  instanceTypes := #[]
  staticTypes := #[]
  resolved := Array.replicate 8 none
  statics := none }

def pool4 : Array CpInfo := pool [(1, u "java/io/Serializable"), (0, .class_ 1), (0, u "java/lang/Object"), (0, .class_ 3)] 3

/-- java/io/Serializable -/
def k4 : Class := { plain "java/io/Serializable" (some 0) with
  accessFlags := 1537
  interfaces := #[]
  cf := some (fileOf pool4 2 #[] #[] 1537 4 #[] #[])
  fields := #[]
  methods := #[]
  instanceTypes := #[]
  staticTypes := #[]
  resolved := Array.replicate 8 none
  statics := none }

/-- the primitive byte -/
def k5 : Class := { plain "byte" none with kind := .primitive 'B', accessFlags := 0x411 }
/-- [B -/
def k6 : Class := { plain "[B" (some 0) with kind := .array 5 .byte, interfaces := #[3, 4], accessFlags := 1041 }

/-- the primitive int -/
def k7 : Class := { plain "int" none with kind := .primitive 'I', accessFlags := 0x411 }
/-- [I -/
def k8 : Class := { plain "[I" (some 0) with kind := .array 7 .int, interfaces := #[3, 4], accessFlags := 1041 }

def heap : Heap := #[]
def classes : Array Class := #[k0, k1, k2, k3, k4, k5, k6, k7, k8]
def interned : List (Array UInt16 × Addr) := []
def slotsUsed : Nat := 0
def theMethod : MethodId := ⟨1, 1⟩
def args0 : Array Value := #[.long 5, .long 7, .long 100, .int 3, .int 1]
def aboutOver (below : List Frame) : State where
  vm := { classes := classes, interned := interned.toArray }
  heap := heap
  slotsUsed := slotsUsed
  threads := #[{ frames := .invoking theMethod args0 :: below }]
def below0 : List Frame := [.native { method := ⟨0, 0⟩, args := #[] }]
def about1 : State := aboutOver below0
def p0 : Program := .bare "" "" ""
def e0 : Env := launch0.env 0 0 0
theorem w_frames : about1.frames = Frame.invoking theMethod args0 :: below0 := rfl
set_option maxRecDepth 65536 in
theorem w_args : argsFit about1.vm theMethod args0 = true := by decide +kernel
set_option maxRecDepth 65536 in
theorem w_heap : heapFits about1 = true := by decide +kernel
set_option maxRecDepth 65536 in
theorem w_runnable : about1.curStatus? = some .runnable := by decide +kernel
set_option maxRecDepth 65536 in
theorem w_alone : about1.alone = true := by decide +kernel
set_option maxRecDepth 65536 in
theorem w_named : about1.methodNamed? x = some theMethod := by decide +kernel
set_option maxRecDepth 65536 in
theorem w_hears : about1.hears theMethod below0 = true := by decide +kernel
set_option maxRecDepth 65536 in
theorem w_ripe : about1.ripe theMethod args0 below0 = true := by decide +kernel
theorem w_running : about1.status = .running := rfl
set_option maxRecDepth 65536 in
theorem w_room : about1.hasRoom e0.platform room_1 = true :=
  launch0.hasRoom_least _ room_1 (by decide +kernel) (by decide +kernel) (by decide +kernel) (by decide +kernel) (by decide +kernel) (by decide +kernel)
theorem allAtoms_all (ts : List Jvm.Cond) (a : Array Jvm.Value) (st : Jvm.State) : (allAtoms ts).before a st = ts.all (fun c => c.before a st) := by
  induction ts with
  | nil => rfl
  | cons c t ih =>
    show (Jvm.Cond.and c (allAtoms t)).before a st = _
    rw [Jvm.Cond.before_and, ih, List.all_cons]
def words1 : List Jvm.Cond := Jvm.Cond.code x code maxLocals ret :: tables_1
/-- a 'code' word, met by the world's own term for the bytes: nothing is compared byte by byte -/
theorem code_word {y : MethodName} {bytes : ByteArray} {mx : Nat} {rt : Option FieldType} {a : Array Value} {s : State} {m : MethodId} {meth : Method} {c : Code} (h1 : s.methodNamed? y = some m) (h2 : s.vm.method? m = some meth) (h3 : meth.code = some c) (h4 : c.code = bytes)
    (h5 : (c.maxLocals == mx && c.exceptionTable.isEmpty && decide (c.maxStack ≤ mostOperands) && decide (meth.sig.returnType = rt) && !meth.locks && decide (parseMethodDescriptor y.desc = some meth.sig)) = true) : (Jvm.Cond.code y bytes mx rt).before a s = true := by
  simp only [Bool.and_eq_true, beq_iff_eq, Bool.not_eq_true', decide_eq_true_eq] at h5
  obtain ⟨⟨⟨⟨⟨g1, g2⟩, g3⟩, g4⟩, g5⟩, g6⟩ := h5
  simp [Cond.before, Cond.holds, Cond.value, h1, h2, h3, h4, g1, g2, g3, g4, g5, g6]
def isCode : Jvm.Cond → Bool
  | .code _ _ _ _ => true
  | _ => false
theorem all_split {L : List Jvm.Cond} {P : Jvm.Cond → Bool} (h1 : L.all (fun c => isCode c || P c) = true) (h2 : ∀ c ∈ L.filter isCode, P c = true) : L.all P = true := by
  refine List.all_eq_true.mpr fun c hc => ?_
  have h := List.all_eq_true.mp h1 c hc
  rcases Bool.eq_false_or_eq_true (isCode c) with hi | hi
  · exact h2 c (List.mem_filter.mpr ⟨hc, hi⟩)
  · simpa [hi] using h
set_option maxRecDepth 65536 in
theorem w_c0 : (Jvm.Cond.code x code maxLocals ret).before args0 about1 = true := code_word (m := ⟨1, 1⟩) (meth := k1m1) (c := k1c1) (by decide +kernel) rfl rfl rfl (by decide +kernel)
set_option maxRecDepth 65536 in
theorem w_c1 : (Jvm.Cond.code ({ cls := "com/example/fairgate/fairgate/core/Hold", name := "isLate", desc := "(JJJ)Z" } : Jvm.MethodName) prog_30_method_5_code (6 : Nat) (Option.some Jvm.ClassFile.FieldType.boolean)).before args0 about1 = true := code_word (m := ⟨2, 0⟩) (meth := k2m0) (c := k2c0) (by decide +kernel) rfl rfl rfl (by decide +kernel)
def codes1 : List Jvm.Cond := [Jvm.Cond.code x code maxLocals ret, Jvm.Cond.code ({ cls := "com/example/fairgate/fairgate/core/Hold", name := "isLate", desc := "(JJJ)Z" } : Jvm.MethodName) prog_30_method_5_code (6 : Nat) (Option.some Jvm.ClassFile.FieldType.boolean)]
set_option maxRecDepth 65536 in
theorem codes_eq : words1.filter isCode = codes1 := rfl
theorem w_codes : ∀ c ∈ words1.filter isCode, c.before args0 about1 = true := by
  rw [codes_eq]
  intro c hc
  simp only [codes1, List.mem_cons, List.not_mem_nil, or_false] at hc
  rcases hc with rfl | rfl
  · exact w_c0
  · exact w_c1
set_option maxRecDepth 65536 in
theorem w_t1 : words1.all (fun c => isCode c || c.before args0 about1) = true := by decide +kernel
theorem w_tables : (allAtoms (Jvm.Cond.code x code maxLocals ret :: tables_1)).before args0 about1 = true := by
  rw [allAtoms_all]
  show words1.all (fun c => c.before args0 about1) = true
  refine all_split ?_ w_codes
  rw [w_t1]
set_option maxRecDepth 65536 in
theorem w_case : (Jvm.Cond.and given_1 narrow_1).before args0 about1 = true := by decide +kernel
theorem w_applies : (headSpec (Jvm.Cond.code x code maxLocals ret :: tables_1) room_1).applies x e0.platform about1 = true :=
  (Spec.applies_iff w_frames).mpr ⟨w_running, w_runnable, w_alone, w_named, w_hears, w_ripe, w_room, w_tables⟩
theorem atStart : AtStart classFile x code maxLocals ret World_1 tables_1 room_1 Calls_1 rest_1 Pre_1 launch0 p0 e0 about1 theMethod args0 below0 :=
  ⟨lists_1, trivial, launch0.admits_env _ _ _, launch0.least_env, fairChoices_fair.cas, fairChoices_fair.clock, w_frames, w_args, w_heap, w_applies, trivial, trivial, w_case⟩
end start1
theorem witness_1 : WitnessClaimed_1 := ⟨start1.p0, start1.e0, start1.about1, start1.theMethod, start1.args0, start1.below0, start1.atStart⟩
end Jvm.Pilot.@@N@@
