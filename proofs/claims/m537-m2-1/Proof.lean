import JvmDerived
import JvmDerived.Pilot.@@N@@Statement
import JvmDerived.Pilot.@@N@@Code
set_option linter.unusedVariables false
set_option linter.unusedSimpArgs false
namespace Jvm.Pilot.@@N@@
open Jvm Jvm.ClassFile Sem Op Lib Jvm.Free Jvm.Stand Jvm.LawKit Jvm.RoadKit Bundle Jvm.Pilot.@@N@@.Jvm.D
section Own
variable {p : Program} {l : Launch} {e : Env} {R : Room} {s : State} {m : MethodId} {args : Array Value} {below : List Frame} {meth : Method} {c : Code} {T : State} {locs : List Loc} {cells slots : Nat}
/-- from S the run comes to an end that E tells -/
def OwnG (p : Program) (e : Env) (below : List Frame) (E : Outcome → State → Prop) (S : State) : Prop :=
  ∃ s₂ o, Steps p.tables e below S s₂ ∧ s₂.status = .running ∧ Ended s₂ below o ∧ E o s₂
/-- it returned, Q holds of the value and the heap, and the frame is k new cells of n slots -/
def OwnE (s : State) (Q : Option Value → Heap → List Loc → Prop) (k n : Nat) (o : Outcome) (U : State) : Prop :=
  ∃ v L, o = .returned v ∧ Q v U.heap L ∧ FrameEnd s o U L k n
theorem own_by {E : Outcome → State → Prop} {S S' : State} (h : ∀ t, Steps p.tables e below S' t → Steps p.tables e below S t) (g : OwnG p e below E S') : OwnG p e below E S := by
  obtain ⟨s2, o, h1, r⟩ := g
  exact ⟨s2, o, h _ h1, r⟩
theorem own_ret (X : Stand p l e R s m args below meth c T locs cells slots) (hx : p.tables.exec = Jvm.exec) {pc : Nat} {Ls : Array Slot} {w : Value} {t : FieldType} {i : Instr} {rest : List Value} (hret : meth.sig.returnType = some t) (hn : narrow t w = w)
    (hi : (i = .ireturn ∧ (t = .int ∨ t = .boolean ∨ t = .byte ∨ t = .char ∨ t = .short) ∧ ∃ z, w = .int z) ∨ (i = .lreturn ∧ t = .long ∧ ∃ z, w = .long z) ∨ (i = .dreturn ∧ t = .double ∧ ∃ z, w = .double z) ∨ (i = .freturn ∧ t = .float ∧ ∃ z, w = .float z) ∨ (i = .areturn ∧ t.isReference = true ∧ w.isRef = true))
    (hd : decode c.code pc = .ok (i, 1)) (hlk : meth.locks = false) {Q : Option Value → Heap → List Loc → Prop} {k n : Nat} (hk : cells ≤ k) (hs : slots ≤ n) (hQ : Q (some w) T.heap locs) : OwnG p e below (OwnE s Q k n) (T.setTop (mkF m pc Ls (w :: rest))) := by
  obtain ⟨fs, hr, hrun, hended, hW, hsame⟩ := X.leave (v := some w) (fun h => by rw [hret] at h; cases h) hlk
  exact ⟨_, _, retOut X hx hret hn hi hd hr, hrun, hended, _, _, rfl, hQ, ⟨_, rfl⟩, hW, hsame.mono hk hs⟩
theorem own_retI (X : Stand p l e R s m args below meth c T locs cells slots) (hx : p.tables.exec = Jvm.exec) {pc : Nat} {Ls : Array Slot} {z : Int32} {t : FieldType} {rest : List Value} (hret : meth.sig.returnType = some t) (ht : t = .int ∨ t = .boolean ∨ t = .byte ∨ t = .char ∨ t = .short) (hn : narrow t (.int z) = .int z)
    (hd : decode c.code pc = .ok (.ireturn, 1)) (hlk : meth.locks = false) {Q : Option Value → Heap → List Loc → Prop} {k n : Nat} (hk : cells ≤ k) (hs : slots ≤ n) (hQ : Q (some (.int z)) T.heap locs) : OwnG p e below (OwnE s Q k n) (T.setTop (mkF m pc Ls (.int z :: rest))) :=
  own_ret X hx hret hn (Or.inl ⟨rfl, ht, _, rfl⟩) hd hlk hk hs hQ
theorem own_retL (X : Stand p l e R s m args below meth c T locs cells slots) (hx : p.tables.exec = Jvm.exec) {pc : Nat} {Ls : Array Slot} {z : Int64} {rest : List Value} (hret : meth.sig.returnType = some .long)
    (hd : decode c.code pc = .ok (.lreturn, 1)) (hlk : meth.locks = false) {Q : Option Value → Heap → List Loc → Prop} {k n : Nat} (hk : cells ≤ k) (hs : slots ≤ n) (hQ : Q (some (.long z)) T.heap locs) : OwnG p e below (OwnE s Q k n) (T.setTop (mkF m pc Ls (.long z :: rest))) :=
  own_ret X hx hret rfl (Or.inr (Or.inl ⟨rfl, rfl, _, rfl⟩)) hd hlk hk hs hQ
theorem own_retD (X : Stand p l e R s m args below meth c T locs cells slots) (hx : p.tables.exec = Jvm.exec) {pc : Nat} {Ls : Array Slot} {z : UInt64} {rest : List Value} (hret : meth.sig.returnType = some .double)
    (hd : decode c.code pc = .ok (.dreturn, 1)) (hlk : meth.locks = false) {Q : Option Value → Heap → List Loc → Prop} {k n : Nat} (hk : cells ≤ k) (hs : slots ≤ n) (hQ : Q (some (.double z)) T.heap locs) : OwnG p e below (OwnE s Q k n) (T.setTop (mkF m pc Ls (.double z :: rest))) :=
  own_ret X hx hret rfl (Or.inr (Or.inr (Or.inl ⟨rfl, rfl, _, rfl⟩))) hd hlk hk hs hQ
theorem own_narR {t : FieldType} (ht : t.isReference = true) {w : Value} (hw : w.isRef = true) : narrow t w = w := by
  cases t <;> cases w <;> first | rfl | (simp [FieldType.isReference] at ht; done) | (simp [Value.isRef] at hw; done)
theorem own_retA (X : Stand p l e R s m args below meth c T locs cells slots) (hx : p.tables.exec = Jvm.exec) {pc : Nat} {Ls : Array Slot} {w : Value} {t : FieldType} {rest : List Value} (hret : meth.sig.returnType = some t) (ht : t.isReference = true) (hw : w.isRef = true)
    (hd : decode c.code pc = .ok (.areturn, 1)) (hlk : meth.locks = false) {Q : Option Value → Heap → List Loc → Prop} {k n : Nat} (hk : cells ≤ k) (hs : slots ≤ n) (hQ : Q (some w) T.heap locs) : OwnG p e below (OwnE s Q k n) (T.setTop (mkF m pc Ls (w :: rest))) :=
  own_ret X hx hret (own_narR ht hw) (Or.inr (Or.inr (Or.inr (Or.inr ⟨rfl, ht, hw⟩)))) hd hlk hk hs hQ
theorem own_ret0 (X : Stand p l e R s m args below meth c T locs cells slots) (hx : p.tables.exec = Jvm.exec) {pc : Nat} {Ls : Array Slot} (hret : meth.sig.returnType = none)
    (hd : decode c.code pc = .ok (.return_, 1)) (hlk : meth.locks = false) {Q : Option Value → Heap → List Loc → Prop} {k n : Nat} (hk : cells ≤ k) (hs : slots ≤ n) (hQ : Q none T.heap locs) : OwnG p e below (OwnE s Q k n) (T.setTop (mkF m pc Ls [])) := by
  obtain ⟨fs, hr, hrun, hended, hW, hsame⟩ := X.leave (v := none) (fun _ => rfl) hlk
  exact ⟨_, _, X.returnOut hx hret hd hr, hrun, hended, _, _, rfl, hQ, ⟨_, rfl⟩, hW, hsame.mono hk hs⟩
/-- the same, where the walk may have interned -/
def OwnEW (s : State) (Q : Option Value → Heap → List Loc → Prop) (k n : Nat) (o : Outcome) (U : State) : Prop :=
  ∃ v L, o = .returned v ∧ Q v U.heap L ∧ ReturnedEndW s o U L k n
theorem own_endW {s U : State} {o : Outcome} {L : List Loc} {k n k' n' : Nat} (h : ReturnedEndW s o U L k n) (hk : k ≤ k') (hn : n ≤ n') : ReturnedEndW s o U L k' n' := ⟨h.1, h.2.1, h.2.2.1, h.2.2.2.mono hk hn⟩
theorem own_retW {vm₁ : Vm} (X : Stand p l e R (s.setVm vm₁) m args below meth c T locs cells slots) {n1 : Nat} (hS : s.Since vm₁ n1) (hn1 : n1 ≤ T.heap.size) (hx : p.tables.exec = Jvm.exec) {pc : Nat} {Ls : Array Slot} {w : Value} {t : FieldType} {i : Instr} {rest : List Value} (hret : meth.sig.returnType = some t) (hn : narrow t w = w)
    (hi : (i = .ireturn ∧ (t = .int ∨ t = .boolean ∨ t = .byte ∨ t = .char ∨ t = .short) ∧ ∃ z, w = .int z) ∨ (i = .lreturn ∧ t = .long ∧ ∃ z, w = .long z) ∨ (i = .dreturn ∧ t = .double ∧ ∃ z, w = .double z) ∨ (i = .freturn ∧ t = .float ∧ ∃ z, w = .float z) ∨ (i = .areturn ∧ t.isReference = true ∧ w.isRef = true))
    (hd : decode c.code pc = .ok (i, 1)) (hlk : meth.locks = false) {Q : Option Value → Heap → List Loc → Prop} {k n : Nat} (hk : cells ≤ k) (hs : slots ≤ n) (hQ : Q (some w) T.heap locs) : OwnG p e below (OwnEW s Q k n) (T.setTop (mkF m pc Ls (w :: rest))) := by
  obtain ⟨fs, hr, hrun, hended, hE⟩ := X.leaveW hS hn1 (v := some w) (fun h => by rw [hret] at h; cases h) hlk
  exact ⟨_, _, retOut X hx hret hn hi hd hr, hrun, hended, _, _, rfl, hQ, own_endW hE hk hs⟩
theorem own_retWI {vm₁ : Vm} (X : Stand p l e R (s.setVm vm₁) m args below meth c T locs cells slots) {n1 : Nat} (hS : s.Since vm₁ n1) (hn1 : n1 ≤ T.heap.size) (hx : p.tables.exec = Jvm.exec) {pc : Nat} {Ls : Array Slot} {z : Int32} {t : FieldType} {rest : List Value} (hret : meth.sig.returnType = some t) (ht : t = .int ∨ t = .boolean ∨ t = .byte ∨ t = .char ∨ t = .short) (hn : narrow t (.int z) = .int z)
    (hd : decode c.code pc = .ok (.ireturn, 1)) (hlk : meth.locks = false) {Q : Option Value → Heap → List Loc → Prop} {k n : Nat} (hk : cells ≤ k) (hs : slots ≤ n) (hQ : Q (some (.int z)) T.heap locs) : OwnG p e below (OwnEW s Q k n) (T.setTop (mkF m pc Ls (.int z :: rest))) :=
  own_retW X hS hn1 hx hret hn (Or.inl ⟨rfl, ht, _, rfl⟩) hd hlk hk hs hQ
theorem own_retWA {vm₁ : Vm} (X : Stand p l e R (s.setVm vm₁) m args below meth c T locs cells slots) {n1 : Nat} (hS : s.Since vm₁ n1) (hn1 : n1 ≤ T.heap.size) (hx : p.tables.exec = Jvm.exec) {pc : Nat} {Ls : Array Slot} {w : Value} {t : FieldType} {rest : List Value} (hret : meth.sig.returnType = some t) (ht : t.isReference = true) (hw : w.isRef = true)
    (hd : decode c.code pc = .ok (.areturn, 1)) (hlk : meth.locks = false) {Q : Option Value → Heap → List Loc → Prop} {k n : Nat} (hk : cells ≤ k) (hs : slots ≤ n) (hQ : Q (some w) T.heap locs) : OwnG p e below (OwnEW s Q k n) (T.setTop (mkF m pc Ls (w :: rest))) :=
  own_retW X hS hn1 hx hret (own_narR ht hw) (Or.inr (Or.inr (Or.inr (Or.inr ⟨rfl, ht, hw⟩)))) hd hlk hk hs hQ
theorem own_retW0 {vm₁ : Vm} (X : Stand p l e R (s.setVm vm₁) m args below meth c T locs cells slots) {n1 : Nat} (hS : s.Since vm₁ n1) (hn1 : n1 ≤ T.heap.size) (hx : p.tables.exec = Jvm.exec) {pc : Nat} {Ls : Array Slot} (hret : meth.sig.returnType = none)
    (hd : decode c.code pc = .ok (.return_, 1)) (hlk : meth.locks = false) {Q : Option Value → Heap → List Loc → Prop} {k n : Nat} (hk : cells ≤ k) (hs : slots ≤ n) (hQ : Q none T.heap locs) : OwnG p e below (OwnEW s Q k n) (T.setTop (mkF m pc Ls [])) := by
  obtain ⟨fs, hr, hrun, hended, hE⟩ := X.leaveW hS hn1 (v := none) (fun _ => rfl) hlk
  exact ⟨_, _, X.returnOut hx hret hd hr, hrun, hended, _, _, rfl, hQ, own_endW hE hk hs⟩
theorem own_ext0 {h h' : Heap} (K : Keep h h' []) : Ext h h' := ⟨K.1, fun a c q => K.2.1 a c q (by simp)⟩
theorem own_staK {Z : State} {h h' : Heap} {C n d : String} {v : Value} {ws : List Addr} (S : Sta Z h C n d v) (K : Keep h h' ws) (q : ∀ x ∈ ws, ∃ c : Cell, h[x]? = some c ∧ c.vm.isStatics = false) : Sta Z h' C n d v := by
  obtain ⟨cf, i, k, f, st, cell, h1, h2, h3, h4, h5, h6, h7⟩ := S
  refine ⟨cf, i, k, f, st, cell, h1, h2, h3, h4, K.2.1 st cell h5 (fun hm => ?_), h6, h7⟩
  obtain ⟨c, c1, c2⟩ := q st hm
  rw [h5] at c1
  cases c1
  rw [h6] at c2
  cases c2
theorem own_plain {Z : State} {h : Heap} {a : Addr} {C : String} (E : Exa Z h a C) : ∃ c : Cell, h[a]? = some c ∧ c.vm.isStatics = false := by
  obtain ⟨c, k, h1, h2, h3, h4, h5⟩ := E
  exact ⟨c, h1, h4⟩
theorem own_arrK {Z : State} {h h' : Heap} {a : Addr} {c : Cell} {ty : FieldType} {ws : List Addr} (A : Arr Z h a c ty) (K : Keep h h' ws) (q : a ∉ ws) : Arr Z h' a c ty := ⟨K.2.1 a c A.1 q, A.2⟩
/-- the array at a, of the class k, holds just vs -/
def OwnA (Z : State) (h : Heap) (a : Addr) (k : ClassId) (ty : FieldType) (vs : List Value) : Prop := ∃ c : Cell, Arr Z h a c ty ∧ c.cls = k ∧ c.slots.toList = vs
theorem OwnA.lt {Z : State} {h : Heap} {a : Addr} {k : ClassId} {ty : FieldType} {vs : List Value} (F : OwnA Z h a k ty vs) : a < h.size := by obtain ⟨c, A, -⟩ := F; exact A.lt
theorem OwnA.ext {Z : State} {h h' : Heap} {a : Addr} {k : ClassId} {ty : FieldType} {vs : List Value} (F : OwnA Z h a k ty vs) (E : Ext h h') : OwnA Z h' a k ty vs := by obtain ⟨c, A, r⟩ := F; exact ⟨c, A.ext E, r⟩
theorem OwnA.other {Z : State} {h h' : Heap} {a b : Addr} {k : ClassId} {ty : FieldType} {vs : List Value} {sl : Nat} {v : Value} (F : OwnA Z h a k ty vs) (W : Wr h h' b sl v) (q : a ≠ b) : OwnA Z h' a k ty vs := by obtain ⟨c, A, r⟩ := F; exact ⟨c, A.other W q, r⟩
theorem OwnA.keep {Z : State} {h h' : Heap} {a : Addr} {k : ClassId} {ty : FieldType} {vs : List Value} {ws : List Addr} (F : OwnA Z h a k ty vs) (K : Keep h h' ws) (q : a ∉ ws) : OwnA Z h' a k ty vs := by obtain ⟨c, A, r⟩ := F; exact ⟨c, own_arrK A K q, r⟩
theorem OwnA.new {Z : State} {h : Heap} {a : Addr} {k : ClassId} {ty : FieldType} {z : Int32} (A : Arr Z h a (newA k ty z) ty) : OwnA Z h a k ty (List.replicate z.toNatClampNeg (defaultValue ty)) := ⟨_, A, rfl, by simp [newA]⟩
theorem OwnA.set {Z : State} {h h' : Heap} {a : Addr} {k : ClassId} {ty : FieldType} {vs : List Value} {j : Nat} {v : Value} (F : OwnA Z h a k ty vs) (W : Wr h h' a j v) : OwnA Z h' a k ty (vs.set j v) := by
  obtain ⟨c, A, r1, r2⟩ := F
  refine ⟨_, A.same W, r1, ?_⟩
  rw [← r2]
  simp [Cell.setSlot]
theorem OwnA.inb {c : Cell} {vs : List Value} {j : Int32} (H : c.slots.toList = vs) (h1 : ¬ j < 0) (h2 : j.toNatClampNeg < vs.length) : ¬ (j < 0 ∨ c.slots.size ≤ j.toNatClampNeg) := by
  rintro (q | q)
  · exact h1 q
  · rw [← H, Array.length_toList] at h2; omega
theorem OwnA.at {c : Cell} {vs : List Value} {j : Int32} {v : Value} (H : c.slots.toList = vs) (h : vs[j.toNatClampNeg]? = some v) : c.slots[j.toNatClampNeg]? = some v := by
  rw [← H] at h; simpa using h
theorem OwnA.size {c : Cell} {vs : List Value} {z : Int32} (H : c.slots.toList = vs) (h : vs.length = z.toNatClampNeg) : c.slots.size = z.toNatClampNeg := by
  rw [← h, ← H, Array.length_toList]
theorem OwnA.ofArv {Z : State} {h : Heap} {a : Addr} {k : ClassId} {ty : FieldType} {z : Int32} {vs : List Value} {d : Value} (F : Arv Z h a k ty z vs d) (hl : z.toNatClampNeg = vs.length) : OwnA Z h a k ty vs := by
  obtain ⟨c, A, r1, r2, r3, r4, r5⟩ := F
  refine ⟨c, A, r1, ?_⟩
  apply List.ext_getElem?
  intro i
  by_cases hi : i < c.slots.size
  · have q := r4 i hi
    rw [Array.getElem?_toList, q, List.getD_eq_getElem?_getD]
    rw [r2, hl] at hi
    rw [List.getElem?_eq_getElem hi]; rfl
  · rw [Array.getElem?_toList, Array.getElem?_eq_none (by omega), List.getElem?_eq_none (by omega)]
theorem OwnA.one {Z : State} {h : Heap} {a : Addr} {k k' : ClassId} {ty ty' : FieldType} {vs vs' : List Value} (F : OwnA Z h a k ty vs) (G : OwnA Z h a k' ty' vs') : vs = vs' := by
  obtain ⟨c, A, -, r⟩ := F
  obtain ⟨c', A', -, r'⟩ := G
  have q := A.1.symm.trans A'.1
  cases q
  rw [← r, ← r']
theorem own_fldOne {Z : State} {h : Heap} {a : Addr} {C n d : String} {v w : Value} (F : Fld Z h a C n d v) (G : Fld Z h a C n d w) : v = w := by
  obtain ⟨c, cf, k, i, f, h1, h2, h3, h4, h5, h6, h7⟩ := F
  obtain ⟨c', cf', k', i', f', g1, g2, g3, g4, g5, g6, g7⟩ := G
  have q := h1.symm.trans g1
  cases q
  have q := h2.symm.trans g2
  cases q
  have q := h7.symm.trans g7
  cases q
  rfl
theorem own_eqI {args : Array Value} {s : State} {u : Term} {k : Int32} (h : (Jvm.Cond.eq u (.int k)).value args s none s [] = some true) : u.eval args s none [] s = some (.int k) := by
  cases hv : u.eval args s none [] s with
  | none => simp [Cond.value, hv] at h
  | some v => cases v <;> simp [Cond.value, Term.eval, hv] at h ⊢ <;> exact h
theorem own_eqL {args : Array Value} {s : State} {u : Term} {k : Int64} (h : (Jvm.Cond.eq u (.long k)).value args s none s [] = some true) : u.eval args s none [] s = some (.long k) := by
  cases hv : u.eval args s none [] s with
  | none => simp [Cond.value, hv] at h
  | some v => cases v <;> simp [Cond.value, Term.eval, hv] at h ⊢ <;> exact h
theorem own_size {args : Array Value} {s : State} {u : Term} {a : Addr} {cl : Cell} {ty : FieldType} {k : Int32} (ev : u.eval args s none [] s = some (.ref a)) (A : Arr s s.heap a cl ty) (h : (Jvm.Cond.eq (.length u) (.int k)).value args s none s [] = some true) : cl.slots.size = k.toNatClampNeg := by
  have h1 := own_eqI h
  have h2 : s.arrayAt? a = some cl := A.fin (Vm.Alike.refl _)
  simp only [Term.eval, ev, h2, Option.bind_eq_bind, Option.bind_some] at h1
  split at h1
  · rename_i hl
    have h3 : cl.slots.size.toInt32 = k := by simpa using h1
    rw [← h3]
    have := len_toInt hl
    rw [Int32.toNatClampNeg, this]; rfl
  · simp at h1
theorem own_elL {args : Array Value} {s : State} {u : Term} {a : Addr} {cl : Cell} {ty : FieldType} {j : Int32} {k : Int64} (ev : u.eval args s none [] s = some (.ref a)) (A : Arr s s.heap a cl ty) (h : (Jvm.Cond.eq (.elem u (.int j)) (.long k)).value args s none s [] = some true) : cl.slots[j.toNatClampNeg]? = some (.long k) :=
  (elem_in (own_eqL h) ev (Term.int_eval _) A.1).2
theorem own_elI {args : Array Value} {s : State} {u : Term} {a : Addr} {cl : Cell} {ty : FieldType} {j k : Int32} (ev : u.eval args s none [] s = some (.ref a)) (A : Arr s s.heap a cl ty) (h : (Jvm.Cond.eq (.elem u (.int j)) (.int k)).value args s none s [] = some true) : cl.slots[j.toNatClampNeg]? = some (.int k) :=
  (elem_in (own_eqI h) ev (Term.int_eval _) A.1).2
theorem own_ne {args : Array Value} {s : State} {u : Term} {z k : Int32} (ev : u.eval args s none [] s = some (.int z)) (h : (Jvm.Cond.not (Jvm.Cond.eq u (.int k))).value args s none s [] = some true) : ¬ z = k := by
  have h2 := not_v h
  intro q
  subst q
  simp [Cond.value, Term.eval, ev] at h2
theorem own_in {i z : Int32} {cl : Cell} (S : cl.slots.size = z.toNatClampNeg) (h1 : ¬ i < 0) (h2 : i < z) : ¬ (i < 0 ∨ cl.slots.size ≤ i.toNatClampNeg) := by
  rintro (q | q)
  · exact h1 q
  · rw [S] at q
    rw [Int32.lt_iff_toInt_lt] at h1 h2
    have e0 : (0 : Int32).toInt = 0 := rfl
    have e1 : ((i.toNatClampNeg : Nat) : Int) = i.toInt := by rw [Int32.toNatClampNeg]; exact Int.toNat_of_nonneg (by omega)
    have e2 : ((z.toNatClampNeg : Nat) : Int) = z.toInt := by rw [Int32.toNatClampNeg]; exact Int.toNat_of_nonneg (by omega)
    omega
end Own

theorem pd_0 : parseMethodDescriptor "()V" = some ⟨[], none⟩ := by decide +kernel
theorem pd_1 : parseMethodDescriptor "(Ljava/lang/String;J)V" = some ⟨[(.object "java/lang/String"), .long], none⟩ := by decide +kernel
theorem pd_2 : parseMethodDescriptor "(II)I" = some ⟨[.int, .int], some .int⟩ := by decide +kernel
theorem pd_3 : parseMethodDescriptor "(II)V" = some ⟨[.int, .int], none⟩ := by decide +kernel
theorem pd_4 : parseMethodDescriptor "(I)Z" = some ⟨[.int], some .boolean⟩ := by decide +kernel
def QSame (r : Option Value) (h0 : Heap) (n0 : Nat) (v : Option Value) (h : Heap) (L : List Loc) : Prop := v = r ∧ Fr n0 L ∧ h = h0
theorem own_str {Z : State} {a0 : Array Value} (hw : ∀ d ∈ tables_1, d.before a0 Z = true) : ∀ a ∈ Bundle.stringAtoms, a.before a0 Z = true := by
  intro a ha
  simp only [Bundle.stringAtoms, List.mem_cons, List.not_mem_nil, or_false] at ha
  rcases ha with rfl | rfl | rfl | rfl | rfl | rfl | rfl
  · exact (hw _ (List.mem_of_getElem? (i := 20) rfl))
  · exact (hw _ (List.mem_of_getElem? (i := 21) rfl))
  · exact (hw _ (List.mem_of_getElem? (i := 22) rfl))
  · exact (hw _ (List.mem_of_getElem? (i := 23) rfl))
  · exact (hw _ (List.mem_of_getElem? (i := 24) rfl))
  · exact (hw _ (List.mem_of_getElem? (i := 25) rfl))
  · exact (hw _ (List.mem_of_getElem? (i := 26) rfl))
theorem d1_0 : decode jdk_29_method_65_code 0 = .ok (.iload_n 0, 1) := by decide +kernel
theorem d1_1 : decode jdk_29_method_65_code 1 = .ok (.iload_n 1, 1) := by decide +kernel
theorem d1_2 : decode jdk_29_method_65_code 2 = .ok (.if_icmp .lt 7, 3) := by decide +kernel
theorem d1_5 : decode jdk_29_method_65_code 5 = .ok (.iload_n 0, 1) := by decide +kernel
theorem d1_6 : decode jdk_29_method_65_code 6 = .ok (.goto 4, 3) := by decide +kernel
theorem d1_9 : decode jdk_29_method_65_code 9 = .ok (.iload_n 1, 1) := by decide +kernel
theorem d1_10 : decode jdk_29_method_65_code 10 = .ok (.ireturn, 1) := by decide +kernel
theorem ef_rmMax (m : MethodId) (a : Int32) (b : Int32) : entryFrame m #[(.int a), (.int b)] 2 = mkF m 0 #[.val (.int a), .val (.int b)] [] := by first | (simp [entryFrame, mkF, argsToLocals, Value.category, maxLocals]; done) | rfl
set_option maxRecDepth 65536 in
set_option maxHeartbeats 40000000 in
theorem rmMax (l : Launch) (Z : State) (a0 : Array Value) (hw : ∀ d ∈ tables_1, d.before a0 Z = true) (ws : List Jvm.Cond) (a b : Int32) (h0 : Heap) (n0 : Nat) (Z0 : n0 ≤ h0.size) :
    MetFree l (⟨"java/lang/Math", "max", "(II)I"⟩ : MethodName) (head1 (Jvm.Cond.code (⟨"java/lang/Math", "max", "(II)I"⟩ : MethodName) jdk_29_method_65_code (2 : Nat) (Option.some Jvm.ClassFile.FieldType.int) :: ws) ({ frames := 0, cells := 0, slots := 0, locals := 0 } : Room)) (fun aZ UZ => aZ = #[(.int a), (.int b)] ∧ Z.Warmed39 UZ.vm ∧ UZ.heap = h0) (fun _ _ _ _ _ => True) (fun _ UZ oZ VZ => ∃ vZ LZ, oZ = .returned vZ ∧ (QSame (some (.int (if a < b then b else a))) h0 n0) vZ VZ.heap LZ ∧ FrameEnd UZ oZ VZ LZ ({ frames := 0, cells := 0, slots := 0, locals := 0 } : Room).cells ({ frames := 0, cells := 0, slots := 0, locals := 0 } : Room).slots) := by
  refine MetFree.of_bodySF (Jvm.Free.JP.mathPlain rfl (by decide +kernel)) hisR ?_
  intro p e s m args below meth c s₁ Bd hml0 hP hK
  obtain ⟨rfl, hZ, hh⟩ := hP
  have hx := Bd.exec
  have hby := Bd.bytes
  have hml : c.maxLocals = 2 := hml0
  have hown : s.vm.findClass "java/lang/Math" = some m.cls := findClass_of_methodNamed Bd.named
  have hnm := (name_of_methodNamed Bd.named Bd.method).1
  have X0 : Stand p l e ({ frames := 0, cells := 0, slots := 0, locals := 0 } : Room) s m #[(.int a), (.int b)] below meth c s₁ [] 0 0 := Stand.of_body Bd
  have e0 : s₁.heap = h0 := by rw [← hh, Bd.state]; rfl
  have N0 := Fr.nil n0
  show OwnG p e below (OwnE s (QSame (some (.int (if a < b then b else a))) h0 n0) ({ frames := 0, cells := 0, slots := 0, locals := 0 } : Room).cells ({ frames := 0, cells := 0, slots := 0, locals := 0 } : Room).slots) _
  refine own_by (S' := s₁.setTop (mkF m 0 #[.val (.int a), .val (.int b)] [])) (fun tZ kZ => castTop (ef_rmMax m a b) kZ) ?_
  refine own_by (S' := s₁.setTop (mkF m 1 #[.val (.int a), .val (.int b)] [(.int a)])) (fun tZ kZ => XS.iloadN X0.here hx rfl (hb hby d1_0) rfl kZ) ?_
  refine own_by (S' := s₁.setTop (mkF m 2 #[.val (.int a), .val (.int b)] [(.int b), (.int a)])) (fun tZ kZ => XS.iloadN X0.here hx rfl (hb hby d1_1) rfl kZ) ?_
  by_cases hc : a < b
  · refine own_by (S' := s₁.setTop (mkF m 9 #[.val (.int a), .val (.int b)] [])) (fun tZ kZ => XS.icmpYes X0.here hx rfl (pc0 := 2) (pc' := 9) rfl (hb hby d1_2) rfl (tlt hc).1 (by decide) (by decide) kZ) ?_
    refine own_by (S' := s₁.setTop (mkF m 10 #[.val (.int a), .val (.int b)] [(.int b)])) (fun tZ kZ => XS.iloadN X0.here hx rfl (hb hby d1_9) rfl kZ) ?_
    exact own_retI X0 hx (t := .int) Bd.returns (by simp) rfl (hb hby d1_10) Bd.notSynchronized (by decide) (by decide) ⟨by rw [if_pos hc], N0, e0⟩
  · refine own_by (S' := s₁.setTop (mkF m 5 #[.val (.int a), .val (.int b)] [])) (fun tZ kZ => XS.icmpNo X0.here hx rfl (hb hby d1_2) rfl (flt hc).1 kZ) ?_
    refine own_by (S' := s₁.setTop (mkF m 6 #[.val (.int a), .val (.int b)] [(.int a)])) (fun tZ kZ => XS.iloadN X0.here hx rfl (hb hby d1_5) rfl kZ) ?_
    refine own_by (S' := s₁.setTop (mkF m 10 #[.val (.int a), .val (.int b)] [(.int a)])) (fun tZ kZ => XS.goto X0.here hx rfl (pc0 := 6) (pc' := 10) rfl (hb hby d1_6) (by decide) (by decide) kZ) ?_
    exact own_retI X0 hx (t := .int) Bd.returns (by simp) rfl (hb hby d1_10) Bd.notSynchronized (by decide) (by decide) ⟨by rw [if_neg hc], N0, e0⟩
theorem d3_0 : decode jdk_30_method_1_code 0 = .ok (.aload_n 0, 1) := by decide +kernel
theorem d3_1 : decode jdk_30_method_1_code 1 = .ok (.invokespecial 1, 3) := by decide +kernel
theorem d3_4 : decode jdk_30_method_1_code 4 = .ok (.return_, 1) := by decide +kernel
theorem pn_0 : plainName "java/lang/Record" = true := by first | (simp [plainName, overriddenIn]; done) | decide +kernel
theorem ef_rmRec (m : MethodId) (a : Addr) : entryFrame m #[(.ref a)] 1 = mkF m 0 #[.val (.ref a)] [] := by first | (simp [entryFrame, mkF, argsToLocals, Value.category, maxLocals]; done) | rfl
set_option maxRecDepth 65536 in
set_option maxHeartbeats 40000000 in
theorem rmRec (l : Launch) (Z : State) (a0 : Array Value) (hw : ∀ d ∈ tables_1, d.before a0 Z = true) (ws : List Jvm.Cond) (a : Addr) (h0 : Heap) (n0 : Nat) (Z0 : n0 ≤ h0.size) :
    MetFree l (⟨"java/lang/Record", "<init>", "()V"⟩ : MethodName) (head1 (Jvm.Cond.code (⟨"java/lang/Record", "<init>", "()V"⟩ : MethodName) jdk_30_method_1_code (1 : Nat) (Option.none : Option Jvm.ClassFile.FieldType) :: ws) ({ frames := 1, cells := 0, slots := 0, locals := 12 } : Room)) (fun aZ UZ => aZ = #[(.ref a)] ∧ Z.Warmed39 UZ.vm ∧ UZ.heap = h0) (fun _ _ _ _ _ => True) (fun _ UZ oZ VZ => ∃ vZ LZ, oZ = .returned vZ ∧ (QSame none h0 n0) vZ VZ.heap LZ ∧ FrameEnd UZ oZ VZ LZ ({ frames := 1, cells := 0, slots := 0, locals := 12 } : Room).cells ({ frames := 1, cells := 0, slots := 0, locals := 12 } : Room).slots) := by
  refine MetFree.of_bodySF (plainFor_of_name pn_0) hisR ?_
  intro p e s m args below meth c s₁ Bd hml0 hP hK
  obtain ⟨rfl, hZ, hh⟩ := hP
  have hx := Bd.exec
  have hby := Bd.bytes
  have hml : c.maxLocals = 1 := hml0
  have hown : s.vm.findClass "java/lang/Record" = some m.cls := findClass_of_methodNamed Bd.named
  have hnm := (name_of_methodNamed Bd.named Bd.method).1
  have X0 : Stand p l e ({ frames := 1, cells := 0, slots := 0, locals := 12 } : Room) s m #[(.ref a)] below meth c s₁ [] 0 0 := Stand.of_body Bd
  have e0 : s₁.heap = h0 := by rw [← hh, Bd.state]; rfl
  have N0 := Fr.nil n0
  show OwnG p e below (OwnE s (QSame none h0 n0) ({ frames := 1, cells := 0, slots := 0, locals := 12 } : Room).cells ({ frames := 1, cells := 0, slots := 0, locals := 12 } : Room).slots) _
  refine own_by (S' := s₁.setTop (mkF m 0 #[.val (.ref a)] [])) (fun tZ kZ => castTop (ef_rmRec m a) kZ) ?_
  refine own_by (S' := s₁.setTop (mkF m 1 #[.val (.ref a)] [(.ref a)])) (fun tZ kZ => XS.aloadN X0.here hx rfl (hb hby d3_0) rfl rfl kZ) ?_
  obtain ⟨T1, X1, e1, st1⟩ := initO X0 hx hZ hown (hw _ (List.mem_of_getElem? (i := 16) rfl)) (hw _ (List.mem_of_getElem? (i := 17) rfl)) (hw _ (List.mem_of_getElem? (i := 18) rfl)) e0 (g := (mkF m 1 #[.val (.ref a)] [(.ref a)])) rfl (by rw [hml]; rfl) rfl (hb hby d3_1) (by decide) (W := 0) (by show 2 * 0 + _ ≤ _; exact Nat.le_of_eq rfl) (by decide)
  refine own_by (S' := T1.setTop (mkF m 4 #[.val (.ref a)] [])) st1 ?_
  exact own_ret0 X1 hx Bd.returns (hb hby d3_4) Bd.notSynchronized (by decide) (by decide) ⟨rfl, N0, e1⟩
theorem d5_0 : decode prog_59_method_2_code 0 = .ok (.lload_n 1, 1) := by decide +kernel
theorem d5_1 : decode prog_59_method_2_code 1 = .ok (.lconst 1, 1) := by decide +kernel
theorem d5_2 : decode prog_59_method_2_code 2 = .ok (.lcmp, 1) := by decide +kernel
theorem d5_3 : decode prog_59_method_2_code 3 = .ok (.ifCond .ge 18, 3) := by decide +kernel
theorem d5_6 : decode prog_59_method_2_code 6 = .ok (.new 7, 3) := by decide +kernel
theorem d5_9 : decode prog_59_method_2_code 9 = .ok (.dup, 1) := by decide +kernel
theorem d5_10 : decode prog_59_method_2_code 10 = .ok (.aload_n 0, 1) := by decide +kernel
theorem d5_11 : decode prog_59_method_2_code 11 = .ok (.lload_n 1, 1) := by decide +kernel
theorem d5_12 : decode prog_59_method_2_code 12 = .ok (.invokedynamic 9, 5) := by decide +kernel
theorem d5_17 : decode prog_59_method_2_code 17 = .ok (.invokespecial 13, 3) := by decide +kernel
theorem d5_20 : decode prog_59_method_2_code 20 = .ok (.athrow, 1) := by decide +kernel
theorem d5_21 : decode prog_59_method_2_code 21 = .ok (.return_, 1) := by decide +kernel
theorem pn_1 : plainName "com/example/tidewatch/tidewatch/core/SettingChecks" = true := by first | (simp [plainName, overriddenIn]; done) | decide +kernel
theorem ef_rmAlo (m : MethodId) (a : Addr) (q : Int64) : entryFrame m #[(.ref a), (.long q)] 3 = mkF m 0 #[.val (.ref a), .val (.long q), .second] [] := by first | (simp [entryFrame, mkF, argsToLocals, Value.category, maxLocals]; done) | rfl
set_option maxRecDepth 65536 in
set_option maxHeartbeats 40000000 in
theorem rmAlo (l : Launch) (Z : State) (a0 : Array Value) (hw : ∀ d ∈ tables_1, d.before a0 Z = true) (ws : List Jvm.Cond) (a : Addr) (q : Int64) (h0 : Heap) (n0 : Nat) (Z0 : n0 ≤ h0.size) (hq : ¬ q < 1) :
    MetFree l (⟨"com/example/tidewatch/tidewatch/core/SettingChecks", "atLeastOne", "(Ljava/lang/String;J)V"⟩ : MethodName) (head1 (Jvm.Cond.code (⟨"com/example/tidewatch/tidewatch/core/SettingChecks", "atLeastOne", "(Ljava/lang/String;J)V"⟩ : MethodName) prog_59_method_2_code (3 : Nat) (Option.none : Option Jvm.ClassFile.FieldType) :: ws) ({ frames := 0, cells := 0, slots := 0, locals := 0 } : Room)) (fun aZ UZ => aZ = #[(.ref a), (.long q)] ∧ Z.Warmed39 UZ.vm ∧ UZ.heap = h0) (fun _ _ _ _ _ => True) (fun _ UZ oZ VZ => ∃ vZ LZ, oZ = .returned vZ ∧ (QSame none h0 n0) vZ VZ.heap LZ ∧ FrameEnd UZ oZ VZ LZ ({ frames := 0, cells := 0, slots := 0, locals := 0 } : Room).cells ({ frames := 0, cells := 0, slots := 0, locals := 0 } : Room).slots) := by
  refine MetFree.of_bodySF (plainFor_of_name pn_1) hisR ?_
  intro p e s m args below meth c s₁ Bd hml0 hP hK
  obtain ⟨rfl, hZ, hh⟩ := hP
  have hx := Bd.exec
  have hby := Bd.bytes
  have hml : c.maxLocals = 3 := hml0
  have hown : s.vm.findClass "com/example/tidewatch/tidewatch/core/SettingChecks" = some m.cls := findClass_of_methodNamed Bd.named
  have hnm := (name_of_methodNamed Bd.named Bd.method).1
  have X0 : Stand p l e ({ frames := 0, cells := 0, slots := 0, locals := 0 } : Room) s m #[(.ref a), (.long q)] below meth c s₁ [] 0 0 := Stand.of_body Bd
  have e0 : s₁.heap = h0 := by rw [← hh, Bd.state]; rfl
  have N0 := Fr.nil n0
  show OwnG p e below (OwnE s (QSame none h0 n0) ({ frames := 0, cells := 0, slots := 0, locals := 0 } : Room).cells ({ frames := 0, cells := 0, slots := 0, locals := 0 } : Room).slots) _
  refine own_by (S' := s₁.setTop (mkF m 0 #[.val (.ref a), .val (.long q), .second] [])) (fun tZ kZ => castTop (ef_rmAlo m a q) kZ) ?_
  refine own_by (S' := s₁.setTop (mkF m 1 #[.val (.ref a), .val (.long q), .second] [(.long q)])) (fun tZ kZ => XS.lloadN X0.here hx rfl (hb hby d5_0) rfl kZ) ?_
  refine own_by (S' := s₁.setTop (mkF m 2 #[.val (.ref a), .val (.long q), .second] [(.long (1 : Int64)), (.long q)])) (fun tZ kZ => XS.lconst X0.here hx rfl (hb hby d5_1) kZ) ?_
  refine own_by (S' := s₁.setTop (mkF m 3 #[.val (.ref a), .val (.long q), .second] [(.int (lcmpW q (1 : Int64)))])) (fun tZ kZ => XS.lcmp X0.here hx rfl (hb hby d5_2) rfl kZ) ?_
  refine own_by (S' := s₁.setTop (mkF m 21 #[.val (.ref a), .val (.long q), .second] [])) (fun tZ kZ => XS.ifYes X0.here hx rfl (pc0 := 3) (pc' := 21) rfl (hb hby d5_3) rfl ((if0 _ _).trans (flt (fun z => hq ((lw_lt _ _).mp z))).2.1) (by decide) (by decide) kZ) ?_
  exact own_ret0 X0 hx Bd.returns (hb hby d5_21) Bd.notSynchronized (by decide) (by decide) ⟨rfl, N0, e0⟩
def QPB (Z : State) (a : Addr) (x y : Int32) (h0 : Heap) (n0 : Nat) (v : Option Value) (h : Heap) (L : List Loc) : Prop := v = none ∧ Fr n0 L ∧ Keep h0 h [a] ∧ Exa Z h a "com/example/tidewatch/tidewatch/core/ParallelismBounds" ∧ Fld Z h a "com/example/tidewatch/tidewatch/core/ParallelismBounds" "minParallelism" "I" (.int x) ∧ Fld Z h a "com/example/tidewatch/tidewatch/core/ParallelismBounds" "maxParallelism" "I" (.int y)
theorem d2_0 : decode prog_45_method_1_code 0 = .ok (.aload_n 0, 1) := by decide +kernel
theorem d2_1 : decode prog_45_method_1_code 1 = .ok (.invokespecial 1, 3) := by decide +kernel
theorem d2_4 : decode prog_45_method_1_code 4 = .ok (.ldc 9, 2) := by decide +kernel
theorem d2_6 : decode prog_45_method_1_code 6 = .ok (.iload_n 1, 1) := by decide +kernel
theorem d2_7 : decode prog_45_method_1_code 7 = .ok (.i2l, 1) := by decide +kernel
theorem d2_8 : decode prog_45_method_1_code 8 = .ok (.invokestatic 11, 3) := by decide +kernel
theorem d2_11 : decode prog_45_method_1_code 11 = .ok (.iload_n 2, 1) := by decide +kernel
theorem d2_12 : decode prog_45_method_1_code 12 = .ok (.iload_n 1, 1) := by decide +kernel
theorem d2_13 : decode prog_45_method_1_code 13 = .ok (.if_icmp .ge 24, 3) := by decide +kernel
theorem d2_16 : decode prog_45_method_1_code 16 = .ok (.new 17, 3) := by decide +kernel
theorem d2_19 : decode prog_45_method_1_code 19 = .ok (.dup, 1) := by decide +kernel
theorem d2_20 : decode prog_45_method_1_code 20 = .ok (.ldc 19, 2) := by decide +kernel
theorem d2_22 : decode prog_45_method_1_code 22 = .ok (.ldc 21, 2) := by decide +kernel
theorem d2_24 : decode prog_45_method_1_code 24 = .ok (.ldc 9, 2) := by decide +kernel
theorem d2_26 : decode prog_45_method_1_code 26 = .ok (.iload_n 1, 1) := by decide +kernel
theorem d2_27 : decode prog_45_method_1_code 27 = .ok (.iload_n 2, 1) := by decide +kernel
theorem d2_28 : decode prog_45_method_1_code 28 = .ok (.invokedynamic 23, 5) := by decide +kernel
theorem d2_33 : decode prog_45_method_1_code 33 = .ok (.invokespecial 27, 3) := by decide +kernel
theorem d2_36 : decode prog_45_method_1_code 36 = .ok (.athrow, 1) := by decide +kernel
theorem d2_37 : decode prog_45_method_1_code 37 = .ok (.aload_n 0, 1) := by decide +kernel
theorem d2_38 : decode prog_45_method_1_code 38 = .ok (.iload_n 1, 1) := by decide +kernel
theorem d2_39 : decode prog_45_method_1_code 39 = .ok (.putfield 30, 3) := by decide +kernel
theorem d2_42 : decode prog_45_method_1_code 42 = .ok (.aload_n 0, 1) := by decide +kernel
theorem d2_43 : decode prog_45_method_1_code 43 = .ok (.iload_n 2, 1) := by decide +kernel
theorem d2_44 : decode prog_45_method_1_code 44 = .ok (.putfield 33, 3) := by decide +kernel
theorem d2_47 : decode prog_45_method_1_code 47 = .ok (.return_, 1) := by decide +kernel
theorem pn_2 : plainName "com/example/tidewatch/tidewatch/core/ParallelismBounds" = true := by first | (simp [plainName, overriddenIn]; done) | decide +kernel
theorem ef_rmPB (m : MethodId) (a : Addr) (x : Int32) (y : Int32) : entryFrame m #[(.ref a), (.int x), (.int y)] 3 = mkF m 0 #[.val (.ref a), .val (.int x), .val (.int y)] [] := by first | (simp [entryFrame, mkF, argsToLocals, Value.category, maxLocals]; done) | rfl
set_option maxRecDepth 65536 in
set_option maxHeartbeats 40000000 in
theorem rmPB (l : Launch) (Z : State) (a0 : Array Value) (hw : ∀ d ∈ tables_1, d.before a0 Z = true) (ws : List Jvm.Cond) (a : Addr) (x y : Int32) (h0 : Heap) (n0 : Nat) (Z0 : n0 ≤ h0.size) (Ea : Exa Z h0 a "com/example/tidewatch/tidewatch/core/ParallelismBounds") (F1 : Fld Z h0 a "com/example/tidewatch/tidewatch/core/ParallelismBounds" "minParallelism" "I" (.int 0)) (F2 : Fld Z h0 a "com/example/tidewatch/tidewatch/core/ParallelismBounds" "maxParallelism" "I" (.int 0)) (g_a : n0 ≤ a) (hx1 : ¬ x.toInt64 < 1) (hy1 : ¬ y < x) :
    MetFree l (⟨"com/example/tidewatch/tidewatch/core/ParallelismBounds", "<init>", "(II)V"⟩ : MethodName) (head1 (Jvm.Cond.code (⟨"com/example/tidewatch/tidewatch/core/ParallelismBounds", "<init>", "(II)V"⟩ : MethodName) prog_45_method_1_code (3 : Nat) (Option.none : Option Jvm.ClassFile.FieldType) :: ws) ({ frames := 2, cells := 2, slots := 60, locals := 24 } : Room)) (fun aZ UZ => aZ = #[(.ref a), (.int x), (.int y)] ∧ Z.Warmed39 UZ.vm ∧ UZ.heap = h0) (fun _ _ _ _ _ => True) (fun _ UZ oZ VZ => ∃ vZ LZ, oZ = .returned vZ ∧ (QPB Z a x y h0 n0) vZ VZ.heap LZ ∧ ReturnedEndW UZ oZ VZ LZ ({ frames := 2, cells := 2, slots := 60, locals := 24 } : Room).cells ({ frames := 2, cells := 2, slots := 60, locals := 24 } : Room).slots) := by
  refine MetFree.of_bodySF (plainFor_of_name pn_2) hisR ?_
  intro p e s m args below meth c s₁ Bd hml0 hP hK
  obtain ⟨rfl, hZ, hh⟩ := hP
  have hx := Bd.exec
  have hby := Bd.bytes
  have hml : c.maxLocals = 3 := hml0
  have hown : s.vm.findClass "com/example/tidewatch/tidewatch/core/ParallelismBounds" = some m.cls := findClass_of_methodNamed Bd.named
  have hnm := (name_of_methodNamed Bd.named Bd.method).1
  have X0 : Stand p l e ({ frames := 2, cells := 2, slots := 60, locals := 24 } : Room) (s.setVm s.vm) m #[(.ref a), (.int x), (.int y)] below meth c s₁ [] 0 0 := Stand.of_body Bd
  have e0 : s₁.heap = h0 := by rw [← hh, Bd.state]; rfl
  have N0 := Fr.nil n0
  show OwnG p e below (OwnEW s (QPB Z a x y h0 n0) ({ frames := 2, cells := 2, slots := 60, locals := 24 } : Room).cells ({ frames := 2, cells := 2, slots := 60, locals := 24 } : Room).slots) _
  refine own_by (S' := s₁.setTop (mkF m 0 #[.val (.ref a), .val (.int x), .val (.int y)] [])) (fun tZ kZ => castTop (ef_rmPB m a x y) kZ) ?_
  have hS0 : s.Since s.vm 0 := State.WarmedH.since (State.WarmedH.refl s) 0
  have hk0 : 0 ≤ h0.size := Nat.zero_le _
  have hZ0 : Z.Warmed39 (s.setVm s.vm).vm := hZ
  have hown0 : (s.setVm s.vm).vm.findClass "com/example/tidewatch/tidewatch/core/ParallelismBounds" = some m.cls := hown
  refine own_by (S' := s₁.setTop (mkF m 1 #[.val (.ref a), .val (.int x), .val (.int y)] [(.ref a)])) (fun tZ kZ => XS.aloadN X0.here hx rfl (hb hby d2_0) rfl rfl kZ) ?_
  obtain ⟨_, _, ⟨T1, L1, k1, n1⟩, -, X1, ⟨Lc1, hQ1, l1, y1, z1⟩, st1⟩ := X0.specialBack hx (y := (⟨"java/lang/Record", "<init>", "()V"⟩ : MethodName)) rfl hown0 (mvT hZ0 (hw _ (List.mem_of_getElem? (i := 11) rfl))) (mvT hZ0 (hw _ (List.mem_of_getElem? (i := 12) rfl))) (mvT hZ0 (hw _ (List.mem_of_getElem? (i := 15) rfl))) (by decide) (backOf (W := 0) (rmRec l Z a0 hw [] a h0 n0 Z0) hZ0 (hw _ (List.mem_of_getElem? (i := 15) rfl)) (hw _ (List.mem_of_getElem? (i := 14) rfl)) (by decide) (by decide)) (g := (mkF m 1 #[.val (.ref a), .val (.int x), .val (.int y)] [(.ref a)])) rfl (by rw [hml]; rfl) (Steps.refl _) (a := a) (argsL := []) (rest := []) (lenOf pd_0 rfl) rfl (by show 2 * 0 + _ ≤ _; exact Nat.le_of_eq rfl) (hb hby d2_1) (fun _ _ => ⟨rfl, e0, (by decide : 0 + 0 ≤ _), (by decide : 0 + 0 ≤ _)⟩)
  dsimp only [Pt.U, Pt.locs, Pt.cells, Pt.slots] at X1 l1 y1 z1 st1 hQ1
  subst l1 y1 z1
  obtain ⟨rfl, N1q, heq1⟩ := hQ1
  have N1 := Fr.app N0 N1q
  refine own_by (S' := T1.setTop (mkF m 4 #[.val (.ref a), .val (.int x), .val (.int y)] [])) (fun tZ kZ => st1.trans kZ) ?_
  obtain ⟨sm, T2, h2, k2, X2, e2, E2, hS2, hk2, hZ2, hown2, st2⟩ := ldcS X1 hx hZ0 hown0 (hw _ (List.mem_of_getElem? (i := 19) rfl)) (own_str hw) heq1 hS0 hk0 (g := (mkF m 4 #[.val (.ref a), .val (.int x), .val (.int y)] [])) rfl (hb hby d2_4) (n := 56) (by decide) (by decide) (by decide) (by decide)
  have Ea_2 := Ea.ext E2
  have F1_2 := F1.ext E2
  have F2_2 := F2.ext E2
  have Zs2 : n0 ≤ h2.size := Nat.le_trans Z0 E2.1
  have K2 := (Keep.refl h0 [a]).ext E2
  refine own_by (S' := T2.setTop (mkF m 6 #[.val (.ref a), .val (.int x), .val (.int y)] [(.ref sm)])) st2 ?_
  refine own_by (S' := T2.setTop (mkF m 7 #[.val (.ref a), .val (.int x), .val (.int y)] [(.int x), (.ref sm)])) (fun tZ kZ => XS.iloadN X2.here hx rfl (hb hby d2_6) rfl kZ) ?_
  refine own_by (S' := T2.setTop (mkF m 8 #[.val (.ref a), .val (.int x), .val (.int y)] [(.long (x.toInt64)), (.ref sm)])) (fun tZ kZ => XS.i2l X2.here hx rfl (hb hby d2_7) rfl kZ) ?_
  obtain ⟨_, _, ⟨T3, L3, k3, n3⟩, -, X3, ⟨Lc3, hQ3, l3, y3, z3⟩, st3⟩ := Jvm.LawKit.callS X2 hx (y := (⟨"com/example/tidewatch/tidewatch/core/SettingChecks", "atLeastOne", "(Ljava/lang/String;J)V"⟩ : MethodName)) hown2 (mvT hZ2 (hw _ (List.mem_of_getElem? (i := 27) rfl))) (mvT hZ2 (hw _ (List.mem_of_getElem? (i := 28) rfl))) (mvT hZ2 (hw _ (List.mem_of_getElem? (i := 29) rfl))) (mvT hZ2 (hw _ (List.mem_of_getElem? (i := 30) rfl))) (by decide) (backOf (W := 0) (rmAlo l Z a0 hw [] sm x.toInt64 h2 n0 Zs2 hx1) hZ2 (hw _ (List.mem_of_getElem? (i := 30) rfl)) (hw _ (List.mem_of_getElem? (i := 29) rfl)) (by decide) (by decide)) (g := (mkF m 8 #[.val (.ref a), .val (.int x), .val (.int y)] [(.long (x.toInt64)), (.ref sm)])) rfl (by rw [hml]; rfl) (argsL := [(.ref sm), (.long (x.toInt64))]) (rest := []) (lenOf pd_1 rfl) rfl (by show 2 * 0 + _ ≤ _; exact Nat.le_of_eq rfl) (hb hby d2_8) (fun _ _ => ⟨rfl, e2, (by decide : 2 + 0 ≤ _), (by decide : 60 + 0 ≤ _)⟩)
  dsimp only [Pt.U, Pt.locs, Pt.cells, Pt.slots] at X3 l3 y3 z3 st3 hQ3
  subst l3 y3 z3
  obtain ⟨rfl, N3q, heq3⟩ := hQ3
  have N3 := Fr.app N1 N3q
  refine own_by (S' := T3.setTop (mkF m 11 #[.val (.ref a), .val (.int x), .val (.int y)] [])) (fun tZ kZ => st3 _ kZ) ?_
  refine own_by (S' := T3.setTop (mkF m 12 #[.val (.ref a), .val (.int x), .val (.int y)] [(.int y)])) (fun tZ kZ => XS.iloadN X3.here hx rfl (hb hby d2_11) rfl kZ) ?_
  refine own_by (S' := T3.setTop (mkF m 13 #[.val (.ref a), .val (.int x), .val (.int y)] [(.int x), (.int y)])) (fun tZ kZ => XS.iloadN X3.here hx rfl (hb hby d2_12) rfl kZ) ?_
  refine own_by (S' := T3.setTop (mkF m 37 #[.val (.ref a), .val (.int x), .val (.int y)] [])) (fun tZ kZ => XS.icmpYes X3.here hx rfl (pc0 := 13) (pc' := 37) rfl (hb hby d2_13) rfl (flt hy1).2.1 (by decide) (by decide) kZ) ?_
  refine own_by (S' := T3.setTop (mkF m 38 #[.val (.ref a), .val (.int x), .val (.int y)] [(.ref a)])) (fun tZ kZ => XS.aloadN X3.here hx rfl (hb hby d2_37) rfl rfl kZ) ?_
  refine own_by (S' := T3.setTop (mkF m 39 #[.val (.ref a), .val (.int x), .val (.int y)] [(.int x), (.ref a)])) (fun tZ kZ => XS.iloadN X3.here hx rfl (hb hby d2_38) rfl kZ) ?_
  obtain ⟨T4, h4, X4, e4, W4, st4⟩ := putF X3 hx hZ2 hown2 (host := "") (Or.inl (hw _ (List.mem_of_getElem? (i := 31) rfl))) Via.refl heq3 F1_2 Ea_2 (Or.inr ⟨(hw _ (List.mem_of_getElem? (i := 32) rfl)), rfl, hnm⟩) (hw _ (List.mem_of_getElem? (i := 6) rfl)) (ty := .int) (by decide) rfl rfl (g := (mkF m 39 #[.val (.ref a), .val (.int x), .val (.int y)] [(.int x), (.ref a)])) rfl rfl (hb hby d2_39)
  have N4 := Fr.snoc X4 N3 g_a
  have Ea_4 := Ea_2.wr W4
  have F1_4 := F1_2.same W4
  have F2_4 := F2_2.other W4 (Or.inr (slot_ne (Or.inr (hw _ (List.mem_of_getElem? (i := 34) rfl))) (Or.inr (hw _ (List.mem_of_getElem? (i := 32) rfl))) (by decide) (t := .int) (t' := .int) (by decide) (by decide)))
  have Zs4 : n0 ≤ h4.size := Nat.le_trans Zs2 (Keep.of_wr W4).1
  have hk4 := Nat.le_trans hk2 (Keep.of_wr W4).1
  have K4 := K2.wr W4 (Or.inl (List.mem_of_getElem? (i := 0) rfl))
  refine own_by (S' := T4.setTop (mkF m 42 #[.val (.ref a), .val (.int x), .val (.int y)] [])) st4 ?_
  refine own_by (S' := T4.setTop (mkF m 43 #[.val (.ref a), .val (.int x), .val (.int y)] [(.ref a)])) (fun tZ kZ => XS.aloadN X4.here hx rfl (hb hby d2_42) rfl rfl kZ) ?_
  refine own_by (S' := T4.setTop (mkF m 44 #[.val (.ref a), .val (.int x), .val (.int y)] [(.int y), (.ref a)])) (fun tZ kZ => XS.iloadN X4.here hx rfl (hb hby d2_43) rfl kZ) ?_
  obtain ⟨T5, h5, X5, e5, W5, st5⟩ := putF X4 hx hZ2 hown2 (host := "") (Or.inl (hw _ (List.mem_of_getElem? (i := 33) rfl))) Via.refl e4 F2_4 Ea_4 (Or.inr ⟨(hw _ (List.mem_of_getElem? (i := 34) rfl)), rfl, hnm⟩) (hw _ (List.mem_of_getElem? (i := 6) rfl)) (ty := .int) (by decide) rfl rfl (g := (mkF m 44 #[.val (.ref a), .val (.int x), .val (.int y)] [(.int y), (.ref a)])) rfl rfl (hb hby d2_44)
  have N5 := Fr.snoc X5 N4 g_a
  have Ea_5 := Ea_4.wr W5
  have F1_5 := F1_4.other W5 (Or.inr (slot_ne (Or.inr (hw _ (List.mem_of_getElem? (i := 32) rfl))) (Or.inr (hw _ (List.mem_of_getElem? (i := 34) rfl))) (by decide) (t := .int) (t' := .int) (by decide) (by decide)))
  have F2_5 := F2_4.same W5
  have Zs5 : n0 ≤ h5.size := Nat.le_trans Zs4 (Keep.of_wr W5).1
  have hk5 := Nat.le_trans hk4 (Keep.of_wr W5).1
  have K5 := K4.wr W5 (Or.inl (List.mem_of_getElem? (i := 0) rfl))
  refine own_by (S' := T5.setTop (mkF m 47 #[.val (.ref a), .val (.int x), .val (.int y)] [])) st5 ?_
  exact own_retW0 X5 hS2 (by rw [e5]; exact hk5) hx Bd.returns (hb hby d2_47) Bd.notSynchronized (by decide) (by decide) (show QPB Z a x y h0 n0 none T5.heap _ from by rw [e5]; exact ⟨rfl, N5, K5, Ea_5, F1_5, F2_5⟩)
theorem d6_0 : decode prog_45_method_2_code 0 = .ok (.iload_n 1, 1) := by decide +kernel
theorem d6_1 : decode prog_45_method_2_code 1 = .ok (.aload_n 0, 1) := by decide +kernel
theorem d6_2 : decode prog_45_method_2_code 2 = .ok (.getfield 30, 3) := by decide +kernel
theorem d6_5 : decode prog_45_method_2_code 5 = .ok (.if_icmp .lt 15, 3) := by decide +kernel
theorem d6_8 : decode prog_45_method_2_code 8 = .ok (.iload_n 1, 1) := by decide +kernel
theorem d6_9 : decode prog_45_method_2_code 9 = .ok (.aload_n 0, 1) := by decide +kernel
theorem d6_10 : decode prog_45_method_2_code 10 = .ok (.getfield 33, 3) := by decide +kernel
theorem d6_13 : decode prog_45_method_2_code 13 = .ok (.if_icmp .gt 7, 3) := by decide +kernel
theorem d6_16 : decode prog_45_method_2_code 16 = .ok (.iconst 1, 1) := by decide +kernel
theorem d6_17 : decode prog_45_method_2_code 17 = .ok (.goto 4, 3) := by decide +kernel
theorem d6_20 : decode prog_45_method_2_code 20 = .ok (.iconst 0, 1) := by decide +kernel
theorem d6_21 : decode prog_45_method_2_code 21 = .ok (.ireturn, 1) := by decide +kernel
theorem ef_rmCon (m : MethodId) (a : Addr) (q : Int32) : entryFrame m #[(.ref a), (.int q)] 2 = mkF m 0 #[.val (.ref a), .val (.int q)] [] := by first | (simp [entryFrame, mkF, argsToLocals, Value.category, maxLocals]; done) | rfl
set_option maxRecDepth 65536 in
set_option maxHeartbeats 40000000 in
theorem rmCon (l : Launch) (Z : State) (a0 : Array Value) (hw : ∀ d ∈ tables_1, d.before a0 Z = true) (ws : List Jvm.Cond) (a : Addr) (q x y : Int32) (h0 : Heap) (n0 : Nat) (Z0 : n0 ≤ h0.size) (F1 : Fld Z h0 a "com/example/tidewatch/tidewatch/core/ParallelismBounds" "minParallelism" "I" (.int x)) (F2 : Fld Z h0 a "com/example/tidewatch/tidewatch/core/ParallelismBounds" "maxParallelism" "I" (.int y)) :
    MetFree l (⟨"com/example/tidewatch/tidewatch/core/ParallelismBounds", "contains", "(I)Z"⟩ : MethodName) (head1 (Jvm.Cond.code (⟨"com/example/tidewatch/tidewatch/core/ParallelismBounds", "contains", "(I)Z"⟩ : MethodName) prog_45_method_2_code (2 : Nat) (Option.some Jvm.ClassFile.FieldType.boolean) :: ws) ({ frames := 0, cells := 0, slots := 0, locals := 0 } : Room)) (fun aZ UZ => aZ = #[(.ref a), (.int q)] ∧ Z.Warmed39 UZ.vm ∧ UZ.heap = h0) (fun _ _ _ _ _ => True) (fun _ UZ oZ VZ => ∃ vZ LZ, oZ = .returned vZ ∧ (QSame (some (.int (if q < x then 0 else if y < q then 0 else 1))) h0 n0) vZ VZ.heap LZ ∧ FrameEnd UZ oZ VZ LZ ({ frames := 0, cells := 0, slots := 0, locals := 0 } : Room).cells ({ frames := 0, cells := 0, slots := 0, locals := 0 } : Room).slots) := by
  refine MetFree.of_bodySF (plainFor_of_name pn_2) hisR ?_
  intro p e s m args below meth c s₁ Bd hml0 hP hK
  obtain ⟨rfl, hZ, hh⟩ := hP
  have hx := Bd.exec
  have hby := Bd.bytes
  have hml : c.maxLocals = 2 := hml0
  have hown : s.vm.findClass "com/example/tidewatch/tidewatch/core/ParallelismBounds" = some m.cls := findClass_of_methodNamed Bd.named
  have hnm := (name_of_methodNamed Bd.named Bd.method).1
  have X0 : Stand p l e ({ frames := 0, cells := 0, slots := 0, locals := 0 } : Room) s m #[(.ref a), (.int q)] below meth c s₁ [] 0 0 := Stand.of_body Bd
  have e0 : s₁.heap = h0 := by rw [← hh, Bd.state]; rfl
  have N0 := Fr.nil n0
  show OwnG p e below (OwnE s (QSame (some (.int (if q < x then 0 else if y < q then 0 else 1))) h0 n0) ({ frames := 0, cells := 0, slots := 0, locals := 0 } : Room).cells ({ frames := 0, cells := 0, slots := 0, locals := 0 } : Room).slots) _
  refine own_by (S' := s₁.setTop (mkF m 0 #[.val (.ref a), .val (.int q)] [])) (fun tZ kZ => castTop (ef_rmCon m a q) kZ) ?_
  refine own_by (S' := s₁.setTop (mkF m 1 #[.val (.ref a), .val (.int q)] [(.int q)])) (fun tZ kZ => XS.iloadN X0.here hx rfl (hb hby d6_0) rfl kZ) ?_
  refine own_by (S' := s₁.setTop (mkF m 2 #[.val (.ref a), .val (.int q)] [(.ref a), (.int q)])) (fun tZ kZ => XS.aloadN X0.here hx rfl (hb hby d6_1) rfl rfl kZ) ?_
  obtain ⟨T1, X1, e1, st1⟩ := getF X0 hx hZ hown (host := "") (Or.inl (hw _ (List.mem_of_getElem? (i := 31) rfl))) Via.refl e0 F1 (g := (mkF m 2 #[.val (.ref a), .val (.int q)] [(.ref a), (.int q)])) rfl rfl (hb hby d6_2)
  refine own_by (S' := T1.setTop (mkF m 5 #[.val (.ref a), .val (.int q)] [(.int x), (.int q)])) st1 ?_
  by_cases hc : q < x
  · refine own_by (S' := T1.setTop (mkF m 20 #[.val (.ref a), .val (.int q)] [])) (fun tZ kZ => XS.icmpYes X1.here hx rfl (pc0 := 5) (pc' := 20) rfl (hb hby d6_5) rfl (tlt hc).1 (by decide) (by decide) kZ) ?_
    refine own_by (S' := T1.setTop (mkF m 21 #[.val (.ref a), .val (.int q)] [(.int (0 : Int32))])) (fun tZ kZ => XS.iconst X1.here hx rfl (hb hby d6_20) kZ) ?_
    exact own_retI X1 hx (t := .boolean) Bd.returns (by simp) rfl (hb hby d6_21) Bd.notSynchronized (by decide) (by decide) ⟨by rw [if_pos hc], N0, e1⟩
  · refine own_by (S' := T1.setTop (mkF m 8 #[.val (.ref a), .val (.int q)] [])) (fun tZ kZ => XS.icmpNo X1.here hx rfl (hb hby d6_5) rfl (flt hc).1 kZ) ?_
    refine own_by (S' := T1.setTop (mkF m 9 #[.val (.ref a), .val (.int q)] [(.int q)])) (fun tZ kZ => XS.iloadN X1.here hx rfl (hb hby d6_8) rfl kZ) ?_
    refine own_by (S' := T1.setTop (mkF m 10 #[.val (.ref a), .val (.int q)] [(.ref a), (.int q)])) (fun tZ kZ => XS.aloadN X1.here hx rfl (hb hby d6_9) rfl rfl kZ) ?_
    obtain ⟨T2, X2, e2, st2⟩ := getF X1 hx hZ hown (host := "") (Or.inl (hw _ (List.mem_of_getElem? (i := 33) rfl))) Via.refl e1 F2 (g := (mkF m 10 #[.val (.ref a), .val (.int q)] [(.ref a), (.int q)])) rfl rfl (hb hby d6_10)
    refine own_by (S' := T2.setTop (mkF m 13 #[.val (.ref a), .val (.int q)] [(.int y), (.int q)])) st2 ?_
    by_cases hd : y < q
    · refine own_by (S' := T2.setTop (mkF m 20 #[.val (.ref a), .val (.int q)] [])) (fun tZ kZ => XS.icmpYes X2.here hx rfl (pc0 := 13) (pc' := 20) rfl (hb hby d6_13) rfl (tlt hd).2.2.1 (by decide) (by decide) kZ) ?_
      refine own_by (S' := T2.setTop (mkF m 21 #[.val (.ref a), .val (.int q)] [(.int (0 : Int32))])) (fun tZ kZ => XS.iconst X2.here hx rfl (hb hby d6_20) kZ) ?_
      exact own_retI X2 hx (t := .boolean) Bd.returns (by simp) rfl (hb hby d6_21) Bd.notSynchronized (by decide) (by decide) ⟨by rw [if_neg hc, if_pos hd], N0, e2⟩
    · refine own_by (S' := T2.setTop (mkF m 16 #[.val (.ref a), .val (.int q)] [])) (fun tZ kZ => XS.icmpNo X2.here hx rfl (hb hby d6_13) rfl (flt hd).2.2.1 kZ) ?_
      refine own_by (S' := T2.setTop (mkF m 17 #[.val (.ref a), .val (.int q)] [(.int (1 : Int32))])) (fun tZ kZ => XS.iconst X2.here hx rfl (hb hby d6_16) kZ) ?_
      refine own_by (S' := T2.setTop (mkF m 21 #[.val (.ref a), .val (.int q)] [(.int (1 : Int32))])) (fun tZ kZ => XS.goto X2.here hx rfl (pc0 := 17) (pc' := 21) rfl (hb hby d6_17) (by decide) (by decide) kZ) ?_
      exact own_retI X2 hx (t := .boolean) Bd.returns (by simp) rfl (hb hby d6_21) Bd.notSynchronized (by decide) (by decide) ⟨by rw [if_neg hc, if_neg hd], N0, e2⟩
theorem own_pos (x : Int32) : 0 ≤ (x &&& 2147483647).toInt := by
  have h1 := c_mask x 2147483647 31 (by decide) (by decide)
  rw [h1]; omega
theorem own_min {a : Int32} (h : 0 ≤ a.toInt) : 1 ≤ (if (1 : Int32) < a then a else 1).toInt := by
  have e1 : (1 : Int32).toInt = 1 := rfl
  split
  · rename_i q; rw [Int32.lt_iff_toInt_lt] at q; omega
  · omega
theorem own_div {x : Int32} (h : 1 ≤ x.toInt) : ((2147483647 : Int32) - x + 1).toInt = 2147483648 - x.toInt := by
  have h1 := c_isub 2147483647 x
  have h2 := c_iadd ((2147483647 : Int32) - x) 1
  have h3 := rng32 ((2147483647 : Int32) - x)
  have h4 := rng32 ((2147483647 : Int32) - x + 1)
  have h5 := rng32 x
  have e1 : (1 : Int32).toInt = 1 := rfl
  have e2 : (2147483647 : Int32).toInt = 2147483647 := rfl
  omega
theorem own_max {x b : Int32} (h : 1 ≤ x.toInt) (hb : 0 ≤ b.toInt) : x.toInt ≤ (x + b % ((2147483647 : Int32) - x + 1)).toInt := by
  have h1 := own_div h
  have h2 := (c_iremV b ((2147483647 : Int32) - x + 1)).1 hb (by have := rng32 x; omega)
  have h3 := c_iadd x (b % ((2147483647 : Int32) - x + 1))
  have h4 := rng32 (x + b % ((2147483647 : Int32) - x + 1))
  have h5 := rng32 x
  omega
theorem own_nz32 {x : Int32} (h : x.toInt ≠ 0) : x ≠ 0 := fun q => h (by rw [q]; rfl)
theorem own_nz64 {x : Int64} (h : x.toInt ≠ 0) : x ≠ 0 := fun q => h (by rw [q]; rfl)
theorem own_du (d : Int32) : 0 ≤ (d.toInt64 &&& 4294967295).toInt ∧ (d.toInt64 &&& 4294967295).toInt < 4294967296 := by
  have h1 := c_maskL d.toInt64 4294967295 32 (by decide) (by decide)
  rw [h1]; omega
theorem own_rem64 (x y : Int64) (hx : 0 ≤ x.toInt) (hy : 0 < y.toInt) : 0 ≤ (x - (x / y) * y).toInt ∧ (x - (x / y) * y).toInt < y.toInt := by
  have h := (c_lrem x y y.toInt rfl).1 hx
  have h1 := Int.emod_nonneg x.toInt (show y.toInt ≠ 0 by omega)
  have h2 := Int.emod_lt_of_pos x.toInt hy
  omega
theorem own_lo (x : Int32) (off : Int64) (hx : 1 ≤ x.toInt) (h1 : 0 ≤ off.toInt) (h2 : off.toInt < x.toInt + 2147483648) : ((x.toInt64 - (1 : Int64)) - off).toInt32.toInt = x.toInt - 1 - off.toInt := by
  have a1 := c_i2l x
  have a2 := c_lsub x.toInt64 1
  have a3 := rng64 (x.toInt64 - (1 : Int64))
  have a4 := c_lsub (x.toInt64 - (1 : Int64)) off
  have a5 := rng64 ((x.toInt64 - (1 : Int64)) - off)
  have a6 := c_l2i ((x.toInt64 - (1 : Int64)) - off)
  have a7 := rng32 ((x.toInt64 - (1 : Int64)) - off).toInt32
  have a8 := rng32 x
  have e1 : (1 : Int64).toInt = 1 := rfl
  omega
theorem own_hi (x : Int32) (off : Int64) (hx : 1 ≤ x.toInt) (h1 : 0 ≤ off.toInt) (h2 : off.toInt < 2147483647 - x.toInt) : ((x.toInt64 + (1 : Int64)) + off).toInt32.toInt = x.toInt + 1 + off.toInt := by
  have a1 := c_i2l x
  have a2 := c_ladd x.toInt64 1
  have a3 := rng64 (x.toInt64 + (1 : Int64))
  have a4 := c_ladd (x.toInt64 + (1 : Int64)) off
  have a5 := rng64 ((x.toInt64 + (1 : Int64)) + off)
  have a6 := c_l2i ((x.toInt64 + (1 : Int64)) + off)
  have a7 := rng32 ((x.toInt64 + (1 : Int64)) + off).toInt32
  have a8 := rng32 x
  have e1 : (1 : Int64).toInt = 1 := rfl
  omega
theorem own_span (x : Int32) : (x.toInt64 - (-2147483648 : Int64)).toInt = x.toInt + 2147483648 := by
  have a1 := c_i2l x
  have a2 := c_lsub x.toInt64 (-2147483648)
  have a3 := rng64 (x.toInt64 - (-2147483648 : Int64))
  have a8 := rng32 x
  have e1 : (-2147483648 : Int64).toInt = -2147483648 := rfl
  omega
theorem own_spanU (x : Int32) : ((2147483647 : Int64) - x.toInt64).toInt = 2147483647 - x.toInt := by
  have a1 := c_i2l x
  have a2 := c_lsub 2147483647 x.toInt64
  have a3 := rng64 ((2147483647 : Int64) - x.toInt64)
  have a8 := rng32 x
  have e1 : (2147483647 : Int64).toInt = 2147483647 := rfl
  omega
theorem own_wd {x y : Int32} (hx : 1 ≤ x.toInt) (hy : x.toInt ≤ y.toInt) : (y - x + 1).toInt = y.toInt - x.toInt + 1 := by
  have h1 := c_isub y x
  have h2 := c_iadd (y - x) 1
  have h3 := rng32 (y - x)
  have h4 := rng32 (y - x + 1)
  have h5 := rng32 x
  have h6 := rng32 y
  have e1 : (1 : Int32).toInt = 1 := rfl
  omega
theorem own_mid {x y d : Int32} (hx : 1 ≤ x.toInt) (hy : x.toInt ≤ y.toInt) (hd : 0 ≤ d.toInt) : x.toInt ≤ (x + d % (y - x + 1)).toInt ∧ (x + d % (y - x + 1)).toInt ≤ y.toInt := by
  have h1 := own_wd hx hy
  have h2 := (c_iremV d (y - x + 1)).1 hd (by omega)
  have h3 := c_iadd x (d % (y - x + 1))
  have h4 := rng32 (x + d % (y - x + 1))
  have h5 := rng32 x
  have h6 := rng32 y
  omega
def Q0 (h0 : Heap) (n0 : Nat) (v : Option Value) (h : Heap) (L : List Loc) : Prop := v = some (.int 1) ∧ Fr n0 L
theorem pn_3 : plainName "com/example/tidewatch/tidewatch/core/ParallelismBoundsContainsPinLaw" = true := by first | (simp [plainName, overriddenIn]; done) | decide +kernel
theorem ef_rm0 (m : MethodId) (p1 : Int32) (p2 : Int32) (p3 : Int32) (p4 : Int32) : entryFrame m #[(.int p1), (.int p2), (.int p3), (.int p4)] maxLocals = mkF m 0 #[.val (.int p1), .val (.int p2), .val (.int p3), .val (.int p4), .unset, .unset, .unset, .unset, .unset, .unset, .unset, .unset, .unset, .unset, .unset] [] := by first | (simp [entryFrame, mkF, argsToLocals, Value.category, maxLocals]; done) | rfl
set_option maxRecDepth 65536 in
set_option maxHeartbeats 40000000 in
theorem rm0 (l : Launch) (Z : State) (a0 : Array Value) (hw : ∀ d ∈ tables_1, d.before a0 Z = true) (ws : List Jvm.Cond) (p1 p2 p3 p4 : Int32) (h0 : Heap) (n0 : Nat) (Z0 : n0 ≤ h0.size) :
    MetFree l x (head1 (Jvm.Cond.code x code maxLocals ret :: ws) room_1) (fun aZ UZ => aZ = #[(.int p1), (.int p2), (.int p3), (.int p4)] ∧ Z.Warmed39 UZ.vm ∧ UZ.heap = h0) (fun _ _ _ _ _ => True) (fun _ UZ oZ VZ => ∃ vZ LZ, oZ = .returned vZ ∧ (Q0  h0 n0) vZ VZ.heap LZ ∧ ReturnedEndW UZ oZ VZ LZ room_1.cells room_1.slots) := by
  refine MetFree.of_bodySF (plainFor_of_name pn_3) hisR ?_
  intro p e s m args below meth c s₁ Bd hml0 hP hK
  obtain ⟨rfl, hZ, hh⟩ := hP
  have hx := Bd.exec
  have hby := Bd.bytes
  have hml : c.maxLocals = 15 := hml0
  have hown : s.vm.findClass "com/example/tidewatch/tidewatch/core/ParallelismBoundsContainsPinLaw" = some m.cls := findClass_of_methodNamed Bd.named
  have hnm := (name_of_methodNamed Bd.named Bd.method).1
  have X0 : Stand p l e room_1 (s.setVm s.vm) m #[(.int p1), (.int p2), (.int p3), (.int p4)] below meth c s₁ [] 0 0 := Stand.of_body Bd
  have e0 : s₁.heap = h0 := by rw [← hh, Bd.state]; rfl
  have N0 := Fr.nil n0
  show OwnG p e below (OwnEW s (Q0  h0 n0) room_1.cells room_1.slots) _
  refine own_by (S' := s₁.setTop (mkF m 0 #[.val (.int p1), .val (.int p2), .val (.int p3), .val (.int p4), .unset, .unset, .unset, .unset, .unset, .unset, .unset, .unset, .unset, .unset, .unset] [])) (fun tZ kZ => castTop (ef_rm0 m p1 p2 p3 p4) kZ) ?_
  have hS0 : s.Since s.vm 0 := State.WarmedH.since (State.WarmedH.refl s) 0
  have hk0 : 0 ≤ h0.size := Nat.zero_le _
  have hZ0 : Z.Warmed39 (s.setVm s.vm).vm := hZ
  have hown0 : (s.setVm s.vm).vm.findClass "com/example/tidewatch/tidewatch/core/ParallelismBoundsContainsPinLaw" = some m.cls := hown
  refine own_by (S' := s₁.setTop (mkF m 1 #[.val (.int p1), .val (.int p2), .val (.int p3), .val (.int p4), .unset, .unset, .unset, .unset, .unset, .unset, .unset, .unset, .unset, .unset, .unset] [(.int (1 : Int32))])) (fun tZ kZ => XS.iconst X0.here hx rfl (hb hby at_0) kZ) ?_
  refine own_by (S' := s₁.setTop (mkF m 2 #[.val (.int p1), .val (.int p2), .val (.int p3), .val (.int p4), .unset, .unset, .unset, .unset, .unset, .unset, .unset, .unset, .unset, .unset, .unset] [(.int p1), (.int (1 : Int32))])) (fun tZ kZ => XS.iloadN X0.here hx rfl (hb hby at_1) rfl kZ) ?_
  refine own_by (S' := s₁.setTop (mkF m 4 #[.val (.int p1), .val (.int p2), .val (.int p3), .val (.int p4), .unset, .unset, .unset, .unset, .unset, .unset, .unset, .unset, .unset, .unset, .unset] [(.int (2147483647 : Int32)), (.int p1), (.int (1 : Int32))])) (fun tZ kZ => X0.ldcInt hx hown0 (mvT hZ0 (hw _ (List.mem_of_getElem? (i := 0) rfl))) (g := (mkF m 2 #[.val (.int p1), .val (.int p2), .val (.int p3), .val (.int p4), .unset, .unset, .unset, .unset, .unset, .unset, .unset, .unset, .unset, .unset, .unset] [(.int p1), (.int (1 : Int32))])) rfl (hb hby at_2) _ kZ) ?_
  refine own_by (S' := s₁.setTop (mkF m 5 #[.val (.int p1), .val (.int p2), .val (.int p3), .val (.int p4), .unset, .unset, .unset, .unset, .unset, .unset, .unset, .unset, .unset, .unset, .unset] [(.int (p1 &&& (2147483647 : Int32))), (.int (1 : Int32))])) (fun tZ kZ => XS.iand X0.here hx rfl (hb hby at_4) rfl kZ) ?_
  obtain ⟨_, _, ⟨T1, L1, k1, n1⟩, -, X1, ⟨Lc1, hQ1, l1, y1, z1⟩, st1⟩ := Jvm.LawKit.callS X0 hx (y := (⟨"java/lang/Math", "max", "(II)I"⟩ : MethodName)) hown0 (mvT hZ0 (hw _ (List.mem_of_getElem? (i := 1) rfl))) (mvT hZ0 (hw _ (List.mem_of_getElem? (i := 2) rfl))) (mvT hZ0 (hw _ (List.mem_of_getElem? (i := 3) rfl))) (mvT hZ0 (hw _ (List.mem_of_getElem? (i := 4) rfl))) (by decide) (backOf (W := 0) (rmMax l Z a0 hw [] (1 : Int32) (p1 &&& (2147483647 : Int32)) h0 n0 Z0) hZ0 (hw _ (List.mem_of_getElem? (i := 4) rfl)) (hw _ (List.mem_of_getElem? (i := 3) rfl)) (by decide) (by decide)) (g := (mkF m 5 #[.val (.int p1), .val (.int p2), .val (.int p3), .val (.int p4), .unset, .unset, .unset, .unset, .unset, .unset, .unset, .unset, .unset, .unset, .unset] [(.int (p1 &&& (2147483647 : Int32))), (.int (1 : Int32))])) rfl (by rw [hml]; rfl) (argsL := [(.int (1 : Int32)), (.int (p1 &&& (2147483647 : Int32)))]) (rest := []) (lenOf pd_2 rfl) rfl (by show 2 * 0 + _ ≤ _; exact Nat.le_of_eq rfl) (hb hby at_5) (fun _ _ => ⟨rfl, e0, (by decide : 0 + 0 ≤ _), (by decide : 0 + 0 ≤ _)⟩)
  dsimp only [Pt.U, Pt.locs, Pt.cells, Pt.slots] at X1 l1 y1 z1 st1 hQ1
  subst l1 y1 z1
  obtain ⟨rfl, N1q, heq1⟩ := hQ1
  have N1 := Fr.app N0 N1q
  refine own_by (S' := T1.setTop (mkF m 8 #[.val (.int p1), .val (.int p2), .val (.int p3), .val (.int p4), .unset, .unset, .unset, .unset, .unset, .unset, .unset, .unset, .unset, .unset, .unset] [(.int (if (1 : Int32) < (p1 &&& (2147483647 : Int32)) then (p1 &&& (2147483647 : Int32)) else (1 : Int32)))])) (fun tZ kZ => st1 _ kZ) ?_
  obtain ⟨vx, hvx⟩ : ∃ z : Int32, z = (if (1 : Int32) < (p1 &&& (2147483647 : Int32)) then (p1 &&& (2147483647 : Int32)) else (1 : Int32)) := ⟨_, rfl⟩
  rw [← hvx]
  refine own_by (S' := T1.setTop (mkF m 10 #[.val (.int p1), .val (.int p2), .val (.int p3), .val (.int p4), .val (.int vx), .unset, .unset, .unset, .unset, .unset, .unset, .unset, .unset, .unset, .unset] [])) (fun tZ kZ => XS.istore X1.here hx rfl (hb hby at_8) rfl (l' := #[.val (.int p1), .val (.int p2), .val (.int p3), .val (.int p4), .val (.int vx), .unset, .unset, .unset, .unset, .unset, .unset, .unset, .unset, .unset, .unset]) rfl kZ) ?_
  refine own_by (S' := T1.setTop (mkF m 12 #[.val (.int p1), .val (.int p2), .val (.int p3), .val (.int p4), .val (.int vx), .unset, .unset, .unset, .unset, .unset, .unset, .unset, .unset, .unset, .unset] [(.int vx)])) (fun tZ kZ => XS.iload X1.here hx rfl (hb hby at_10) rfl kZ) ?_
  refine own_by (S' := T1.setTop (mkF m 13 #[.val (.int p1), .val (.int p2), .val (.int p3), .val (.int p4), .val (.int vx), .unset, .unset, .unset, .unset, .unset, .unset, .unset, .unset, .unset, .unset] [(.int p2), (.int vx)])) (fun tZ kZ => XS.iloadN X1.here hx rfl (hb hby at_12) rfl kZ) ?_
  refine own_by (S' := T1.setTop (mkF m 15 #[.val (.int p1), .val (.int p2), .val (.int p3), .val (.int p4), .val (.int vx), .unset, .unset, .unset, .unset, .unset, .unset, .unset, .unset, .unset, .unset] [(.int (2147483647 : Int32)), (.int p2), (.int vx)])) (fun tZ kZ => X1.ldcInt hx hown0 (mvT hZ0 (hw _ (List.mem_of_getElem? (i := 0) rfl))) (g := (mkF m 13 #[.val (.int p1), .val (.int p2), .val (.int p3), .val (.int p4), .val (.int vx), .unset, .unset, .unset, .unset, .unset, .unset, .unset, .unset, .unset, .unset] [(.int p2), (.int vx)])) rfl (hb hby at_13) _ kZ) ?_
  refine own_by (S' := T1.setTop (mkF m 16 #[.val (.int p1), .val (.int p2), .val (.int p3), .val (.int p4), .val (.int vx), .unset, .unset, .unset, .unset, .unset, .unset, .unset, .unset, .unset, .unset] [(.int (p2 &&& (2147483647 : Int32))), (.int vx)])) (fun tZ kZ => XS.iand X1.here hx rfl (hb hby at_15) rfl kZ) ?_
  refine own_by (S' := T1.setTop (mkF m 18 #[.val (.int p1), .val (.int p2), .val (.int p3), .val (.int p4), .val (.int vx), .unset, .unset, .unset, .unset, .unset, .unset, .unset, .unset, .unset, .unset] [(.int (2147483647 : Int32)), (.int (p2 &&& (2147483647 : Int32))), (.int vx)])) (fun tZ kZ => X1.ldcInt hx hown0 (mvT hZ0 (hw _ (List.mem_of_getElem? (i := 0) rfl))) (g := (mkF m 16 #[.val (.int p1), .val (.int p2), .val (.int p3), .val (.int p4), .val (.int vx), .unset, .unset, .unset, .unset, .unset, .unset, .unset, .unset, .unset, .unset] [(.int (p2 &&& (2147483647 : Int32))), (.int vx)])) rfl (hb hby at_16) _ kZ) ?_
  refine own_by (S' := T1.setTop (mkF m 20 #[.val (.int p1), .val (.int p2), .val (.int p3), .val (.int p4), .val (.int vx), .unset, .unset, .unset, .unset, .unset, .unset, .unset, .unset, .unset, .unset] [(.int vx), (.int (2147483647 : Int32)), (.int (p2 &&& (2147483647 : Int32))), (.int vx)])) (fun tZ kZ => XS.iload X1.here hx rfl (hb hby at_18) rfl kZ) ?_
  refine own_by (S' := T1.setTop (mkF m 21 #[.val (.int p1), .val (.int p2), .val (.int p3), .val (.int p4), .val (.int vx), .unset, .unset, .unset, .unset, .unset, .unset, .unset, .unset, .unset, .unset] [(.int ((2147483647 : Int32) - vx)), (.int (p2 &&& (2147483647 : Int32))), (.int vx)])) (fun tZ kZ => XS.isub X1.here hx rfl (hb hby at_20) rfl kZ) ?_
  refine own_by (S' := T1.setTop (mkF m 22 #[.val (.int p1), .val (.int p2), .val (.int p3), .val (.int p4), .val (.int vx), .unset, .unset, .unset, .unset, .unset, .unset, .unset, .unset, .unset, .unset] [(.int (1 : Int32)), (.int ((2147483647 : Int32) - vx)), (.int (p2 &&& (2147483647 : Int32))), (.int vx)])) (fun tZ kZ => XS.iconst X1.here hx rfl (hb hby at_21) kZ) ?_
  refine own_by (S' := T1.setTop (mkF m 23 #[.val (.int p1), .val (.int p2), .val (.int p3), .val (.int p4), .val (.int vx), .unset, .unset, .unset, .unset, .unset, .unset, .unset, .unset, .unset, .unset] [(.int (((2147483647 : Int32) - vx) + (1 : Int32))), (.int (p2 &&& (2147483647 : Int32))), (.int vx)])) (fun tZ kZ => XS.iadd X1.here hx rfl (hb hby at_22) rfl kZ) ?_
  have hx1 : 1 ≤ vx.toInt := by rw [hvx]; exact own_min (own_pos p1)
  refine own_by (S' := T1.setTop (mkF m 24 #[.val (.int p1), .val (.int p2), .val (.int p3), .val (.int p4), .val (.int vx), .unset, .unset, .unset, .unset, .unset, .unset, .unset, .unset, .unset, .unset] [(.int ((p2 &&& (2147483647 : Int32)) % (((2147483647 : Int32) - vx) + (1 : Int32)))), (.int vx)])) (fun tZ kZ => Jvm.RoadKit.iremM X1 hx rfl (hb hby at_23) rfl (own_nz32 (by rw [own_div hx1]; have := rng32 vx; omega)) kZ) ?_
  refine own_by (S' := T1.setTop (mkF m 25 #[.val (.int p1), .val (.int p2), .val (.int p3), .val (.int p4), .val (.int vx), .unset, .unset, .unset, .unset, .unset, .unset, .unset, .unset, .unset, .unset] [(.int (vx + ((p2 &&& (2147483647 : Int32)) % (((2147483647 : Int32) - vx) + (1 : Int32)))))])) (fun tZ kZ => XS.iadd X1.here hx rfl (hb hby at_24) rfl kZ) ?_
  obtain ⟨vy, hvy⟩ : ∃ z : Int32, z = (vx + ((p2 &&& (2147483647 : Int32)) % (((2147483647 : Int32) - vx) + (1 : Int32)))) := ⟨_, rfl⟩
  rw [← hvy]
  refine own_by (S' := T1.setTop (mkF m 27 #[.val (.int p1), .val (.int p2), .val (.int p3), .val (.int p4), .val (.int vx), .val (.int vy), .unset, .unset, .unset, .unset, .unset, .unset, .unset, .unset, .unset] [])) (fun tZ kZ => XS.istore X1.here hx rfl (hb hby at_25) rfl (l' := #[.val (.int p1), .val (.int p2), .val (.int p3), .val (.int p4), .val (.int vx), .val (.int vy), .unset, .unset, .unset, .unset, .unset, .unset, .unset, .unset, .unset]) rfl kZ) ?_
  have hy1 : vx.toInt ≤ vy.toInt := by rw [hvy]; exact own_max hx1 (own_pos p2)
  obtain ⟨T2, h2, X2, e2, E2, A2, D2, -, st2⟩ := newO X1 hx hZ0 hown0 (hw _ (List.mem_of_getElem? (i := 5) rfl)) (hw _ (List.mem_of_getElem? (i := 6) rfl)) (hw _ (List.mem_of_getElem? (i := 7) rfl)) heq1 (g := (mkF m 27 #[.val (.int p1), .val (.int p2), .val (.int p3), .val (.int p4), .val (.int vx), .val (.int vy), .unset, .unset, .unset, .unset, .unset, .unset, .unset, .unset, .unset] [])) rfl (hb hby at_27) (by decide) (by decide)
  obtain ⟨b2, g2⟩ : ∃ z, z = h0.size := ⟨_, rfl⟩
  rw [← g2] at A2 D2 st2
  have g_b2 : n0 ≤ b2 := Nat.le_trans Z0 (Nat.le_of_eq g2.symm)
  have sz_b2 : h0.size ≤ b2 := Nat.le_trans (Keep.refl h0 []).1 (Nat.le_of_eq g2.symm)
  have Zs2 : n0 ≤ h2.size := Nat.le_trans Z0 E2.1
  have hk2 := Nat.le_trans hk0 E2.1
  have K2 := (Keep.refl h0 []).ext E2
  have Ex_b2 := A2
  have F_minParallelism_b2 : Fld Z h2 b2 "com/example/tidewatch/tidewatch/core/ParallelismBounds" "minParallelism" "I" (.int (0 : Int32)) := D2 (Or.inr (hw _ (List.mem_of_getElem? (i := 32) rfl))) (ty := .int) (by decide)
  have F_maxParallelism_b2 : Fld Z h2 b2 "com/example/tidewatch/tidewatch/core/ParallelismBounds" "maxParallelism" "I" (.int (0 : Int32)) := D2 (Or.inr (hw _ (List.mem_of_getElem? (i := 34) rfl))) (ty := .int) (by decide)
  refine own_by (S' := T2.setTop (mkF m 30 #[.val (.int p1), .val (.int p2), .val (.int p3), .val (.int p4), .val (.int vx), .val (.int vy), .unset, .unset, .unset, .unset, .unset, .unset, .unset, .unset, .unset] [(.ref b2)])) st2 ?_
  refine own_by (S' := T2.setTop (mkF m 31 #[.val (.int p1), .val (.int p2), .val (.int p3), .val (.int p4), .val (.int vx), .val (.int vy), .unset, .unset, .unset, .unset, .unset, .unset, .unset, .unset, .unset] [(.ref b2), (.ref b2)])) (fun tZ kZ => XS.dup X2.here hx rfl (hb hby at_30) rfl rfl kZ) ?_
  refine own_by (S' := T2.setTop (mkF m 33 #[.val (.int p1), .val (.int p2), .val (.int p3), .val (.int p4), .val (.int vx), .val (.int vy), .unset, .unset, .unset, .unset, .unset, .unset, .unset, .unset, .unset] [(.int vx), (.ref b2), (.ref b2)])) (fun tZ kZ => XS.iload X2.here hx rfl (hb hby at_31) rfl kZ) ?_
  refine own_by (S' := T2.setTop (mkF m 35 #[.val (.int p1), .val (.int p2), .val (.int p3), .val (.int p4), .val (.int vx), .val (.int vy), .unset, .unset, .unset, .unset, .unset, .unset, .unset, .unset, .unset] [(.int vy), (.int vx), (.ref b2), (.ref b2)])) (fun tZ kZ => XS.iload X2.here hx rfl (hb hby at_33) rfl kZ) ?_
  obtain ⟨_, _, ⟨T3, L3, k3, n3⟩, -, X3, hS3, hg3, ⟨Lc3, hQ3, l3, y3, z3⟩, st3⟩ := X2.specialBackS hx (y := (⟨"com/example/tidewatch/tidewatch/core/ParallelismBounds", "<init>", "(II)V"⟩ : MethodName)) rfl hown0 (mvT hZ0 (hw _ (List.mem_of_getElem? (i := 8) rfl))) (mvT hZ0 (hw _ (List.mem_of_getElem? (i := 9) rfl))) (mvT hZ0 (hw _ (List.mem_of_getElem? (i := 10) rfl))) (by decide) (backOfS (W := 1) (rmPB l Z a0 hw [] b2 vx vy h2 n0 Zs2 Ex_b2 F_minParallelism_b2 F_maxParallelism_b2 g_b2 (fun q => by rw [Int64.lt_iff_toInt_lt, c_i2l] at q; have : (1 : Int64).toInt = 1 := rfl; omega) (fun q => by rw [Int32.lt_iff_toInt_lt] at q; omega)) hZ0 (hw _ (List.mem_of_getElem? (i := 10) rfl)) (hw _ (List.mem_of_getElem? (i := 7) rfl)) (by decide) (by decide)) (g := (mkF m 35 #[.val (.int p1), .val (.int p2), .val (.int p3), .val (.int p4), .val (.int vx), .val (.int vy), .unset, .unset, .unset, .unset, .unset, .unset, .unset, .unset, .unset] [(.int vy), (.int vx), (.ref b2), (.ref b2)])) rfl (by rw [hml]; rfl) (Steps.refl _) (a := b2) (argsL := [(.int vx), (.int vy)]) (rest := [(.ref b2)]) (lenOf pd_3 rfl) rfl (by show 2 * 0 + _ ≤ _; exact Nat.le_of_eq rfl) (hb hby at_35) (fun _ _ => ⟨rfl, e2, (by decide : 1 + 2 ≤ _), (by decide : 2 + 60 ≤ _)⟩)
  dsimp only [Pt.U, Pt.locs, Pt.cells, Pt.slots] at X3 l3 y3 z3 st3 hQ3 hS3 hg3
  subst l3 y3 z3
  obtain ⟨rfl, N3q, Kc3, Ea3, Fa3, Fb3⟩ := hQ3
  have N3 := Fr.app N1 N3q
  obtain ⟨X3, hS3, hZ3, hown3⟩ := rebS hS0 hk2 X3 hS3 (by rw [← e2]; exact hg3) hZ0 hown0
  have Zs3 := Nat.le_trans Zs2 Kc3.1
  have K3 := K2.trans Kc3 (fun x hx => by
      simp only [List.mem_cons, List.not_mem_nil, or_false] at hx
      rcases hx with rfl
      · exact Or.inr sz_b2)
  have Ex_b2_3 := Ex_b2.keep Kc3
  refine own_by (S' := T3.setTop (mkF m 38 #[.val (.int p1), .val (.int p2), .val (.int p3), .val (.int p4), .val (.int vx), .val (.int vy), .unset, .unset, .unset, .unset, .unset, .unset, .unset, .unset, .unset] [(.ref b2)])) (fun tZ kZ => st3.trans kZ) ?_
  refine own_by (S' := T3.setTop (mkF m 40 #[.val (.int p1), .val (.int p2), .val (.int p3), .val (.int p4), .val (.int vx), .val (.int vy), .val (.ref b2), .unset, .unset, .unset, .unset, .unset, .unset, .unset, .unset] [])) (fun tZ kZ => XS.astore X3.here hx rfl (hb hby at_38) rfl rfl (l' := #[.val (.int p1), .val (.int p2), .val (.int p3), .val (.int p4), .val (.int vx), .val (.int vy), .val (.ref b2), .unset, .unset, .unset, .unset, .unset, .unset, .unset, .unset]) rfl kZ) ?_
  refine own_by (S' := T3.setTop (mkF m 41 #[.val (.int p1), .val (.int p2), .val (.int p3), .val (.int p4), .val (.int vx), .val (.int vy), .val (.ref b2), .unset, .unset, .unset, .unset, .unset, .unset, .unset, .unset] [(.int p3)])) (fun tZ kZ => XS.iloadN X3.here hx rfl (hb hby at_40) rfl kZ) ?_
  refine own_by (S' := T3.setTop (mkF m 43 #[.val (.int p1), .val (.int p2), .val (.int p3), .val (.int p4), .val (.int vx), .val (.int vy), .val (.ref b2), .unset, .unset, .unset, .unset, .unset, .unset, .unset, .unset] [(.int (2147483647 : Int32)), (.int p3)])) (fun tZ kZ => X3.ldcInt hx hown3 (mvT hZ3 (hw _ (List.mem_of_getElem? (i := 0) rfl))) (g := (mkF m 41 #[.val (.int p1), .val (.int p2), .val (.int p3), .val (.int p4), .val (.int vx), .val (.int vy), .val (.ref b2), .unset, .unset, .unset, .unset, .unset, .unset, .unset, .unset] [(.int p3)])) rfl (hb hby at_41) _ kZ) ?_
  refine own_by (S' := T3.setTop (mkF m 44 #[.val (.int p1), .val (.int p2), .val (.int p3), .val (.int p4), .val (.int vx), .val (.int vy), .val (.ref b2), .unset, .unset, .unset, .unset, .unset, .unset, .unset, .unset] [(.int (p3 &&& (2147483647 : Int32)))])) (fun tZ kZ => XS.iand X3.here hx rfl (hb hby at_43) rfl kZ) ?_
  refine own_by (S' := T3.setTop (mkF m 45 #[.val (.int p1), .val (.int p2), .val (.int p3), .val (.int p4), .val (.int vx), .val (.int vy), .val (.ref b2), .unset, .unset, .unset, .unset, .unset, .unset, .unset, .unset] [(.int (3 : Int32)), (.int (p3 &&& (2147483647 : Int32)))])) (fun tZ kZ => XS.iconst X3.here hx rfl (hb hby at_44) kZ) ?_
  refine own_by (S' := T3.setTop (mkF m 46 #[.val (.int p1), .val (.int p2), .val (.int p3), .val (.int p4), .val (.int vx), .val (.int vy), .val (.ref b2), .unset, .unset, .unset, .unset, .unset, .unset, .unset, .unset] [(.int ((p3 &&& (2147483647 : Int32)) % (3 : Int32)))])) (fun tZ kZ => Jvm.RoadKit.iremM X3 hx rfl (hb hby at_45) rfl (by decide) kZ) ?_
  obtain ⟨vk, hvk⟩ : ∃ z : Int32, z = ((p3 &&& (2147483647 : Int32)) % (3 : Int32)) := ⟨_, rfl⟩
  rw [← hvk]
  refine own_by (S' := T3.setTop (mkF m 48 #[.val (.int p1), .val (.int p2), .val (.int p3), .val (.int p4), .val (.int vx), .val (.int vy), .val (.ref b2), .val (.int vk), .unset, .unset, .unset, .unset, .unset, .unset, .unset] [])) (fun tZ kZ => XS.istore X3.here hx rfl (hb hby at_46) rfl (l' := #[.val (.int p1), .val (.int p2), .val (.int p3), .val (.int p4), .val (.int vx), .val (.int vy), .val (.ref b2), .val (.int vk), .unset, .unset, .unset, .unset, .unset, .unset, .unset]) rfl kZ) ?_
  refine own_by (S' := T3.setTop (mkF m 49 #[.val (.int p1), .val (.int p2), .val (.int p3), .val (.int p4), .val (.int vx), .val (.int vy), .val (.ref b2), .val (.int vk), .unset, .unset, .unset, .unset, .unset, .unset, .unset] [(.int p4)])) (fun tZ kZ => XS.iloadN X3.here hx rfl (hb hby at_48) rfl kZ) ?_
  refine own_by (S' := T3.setTop (mkF m 50 #[.val (.int p1), .val (.int p2), .val (.int p3), .val (.int p4), .val (.int vx), .val (.int vy), .val (.ref b2), .val (.int vk), .unset, .unset, .unset, .unset, .unset, .unset, .unset] [(.long (p4.toInt64))])) (fun tZ kZ => XS.i2l X3.here hx rfl (hb hby at_49) rfl kZ) ?_
  refine own_by (S' := T3.setTop (mkF m 53 #[.val (.int p1), .val (.int p2), .val (.int p3), .val (.int p4), .val (.int vx), .val (.int vy), .val (.ref b2), .val (.int vk), .unset, .unset, .unset, .unset, .unset, .unset, .unset] [(.long (4294967295 : Int64)), (.long (p4.toInt64))])) (fun tZ kZ => X3.ldc2Long hx hown3 (mvT hZ3 (hw _ (List.mem_of_getElem? (i := 35) rfl))) (g := (mkF m 50 #[.val (.int p1), .val (.int p2), .val (.int p3), .val (.int p4), .val (.int vx), .val (.int vy), .val (.ref b2), .val (.int vk), .unset, .unset, .unset, .unset, .unset, .unset, .unset] [(.long (p4.toInt64))])) rfl (hb hby at_50) _ kZ) ?_
  refine own_by (S' := T3.setTop (mkF m 54 #[.val (.int p1), .val (.int p2), .val (.int p3), .val (.int p4), .val (.int vx), .val (.int vy), .val (.ref b2), .val (.int vk), .unset, .unset, .unset, .unset, .unset, .unset, .unset] [(.long ((p4.toInt64) &&& (4294967295 : Int64)))])) (fun tZ kZ => XS.land X3.here hx rfl (hb hby at_53) rfl kZ) ?_
  obtain ⟨vd, hvd⟩ : ∃ z : Int64, z = ((p4.toInt64) &&& (4294967295 : Int64)) := ⟨_, rfl⟩
  rw [← hvd]
  refine own_by (S' := T3.setTop (mkF m 56 #[.val (.int p1), .val (.int p2), .val (.int p3), .val (.int p4), .val (.int vx), .val (.int vy), .val (.ref b2), .val (.int vk), .val (.long vd), .second, .unset, .unset, .unset, .unset, .unset] [])) (fun tZ kZ => XS.lstore X3.here hx rfl (hb hby at_54) rfl (l' := #[.val (.int p1), .val (.int p2), .val (.int p3), .val (.int p4), .val (.int vx), .val (.int vy), .val (.ref b2), .val (.int vk), .val (.long vd), .second, .unset, .unset, .unset, .unset, .unset]) rfl kZ) ?_
  refine own_by (S' := T3.setTop (mkF m 58 #[.val (.int p1), .val (.int p2), .val (.int p3), .val (.int p4), .val (.int vx), .val (.int vy), .val (.ref b2), .val (.int vk), .val (.long vd), .second, .unset, .unset, .unset, .unset, .unset] [(.int vk)])) (fun tZ kZ => XS.iload X3.here hx rfl (hb hby at_56) rfl kZ) ?_
  have hdu := own_du p4
  rw [← hvd] at hdu
  by_cases hk0c : vk = (0 : Int32)
  · refine own_by (S' := T3.setTop (mkF m 61 #[.val (.int p1), .val (.int p2), .val (.int p3), .val (.int p4), .val (.int vx), .val (.int vy), .val (.ref b2), .val (.int vk), .val (.long vd), .second, .unset, .unset, .unset, .unset, .unset] [])) (fun tZ kZ => XS.ifNo X3.here hx rfl (hb hby at_58) rfl ((if0 _ _).trans (teq hk0c).2) kZ) ?_
    refine own_by (S' := T3.setTop (mkF m 63 #[.val (.int p1), .val (.int p2), .val (.int p3), .val (.int p4), .val (.int vx), .val (.int vy), .val (.ref b2), .val (.int vk), .val (.long vd), .second, .unset, .unset, .unset, .unset, .unset] [(.int vx)])) (fun tZ kZ => XS.iload X3.here hx rfl (hb hby at_61) rfl kZ) ?_
    refine own_by (S' := T3.setTop (mkF m 64 #[.val (.int p1), .val (.int p2), .val (.int p3), .val (.int p4), .val (.int vx), .val (.int vy), .val (.ref b2), .val (.int vk), .val (.long vd), .second, .unset, .unset, .unset, .unset, .unset] [(.long (vx.toInt64))])) (fun tZ kZ => XS.i2l X3.here hx rfl (hb hby at_63) rfl kZ) ?_
    refine own_by (S' := T3.setTop (mkF m 67 #[.val (.int p1), .val (.int p2), .val (.int p3), .val (.int p4), .val (.int vx), .val (.int vy), .val (.ref b2), .val (.int vk), .val (.long vd), .second, .unset, .unset, .unset, .unset, .unset] [(.long (-2147483648 : Int64)), (.long (vx.toInt64))])) (fun tZ kZ => X3.ldc2Long hx hown3 (mvT hZ3 (hw _ (List.mem_of_getElem? (i := 42) rfl))) (g := (mkF m 64 #[.val (.int p1), .val (.int p2), .val (.int p3), .val (.int p4), .val (.int vx), .val (.int vy), .val (.ref b2), .val (.int vk), .val (.long vd), .second, .unset, .unset, .unset, .unset, .unset] [(.long (vx.toInt64))])) rfl (hb hby at_64) _ kZ) ?_
    refine own_by (S' := T3.setTop (mkF m 68 #[.val (.int p1), .val (.int p2), .val (.int p3), .val (.int p4), .val (.int vx), .val (.int vy), .val (.ref b2), .val (.int vk), .val (.long vd), .second, .unset, .unset, .unset, .unset, .unset] [(.long ((vx.toInt64) - (-2147483648 : Int64)))])) (fun tZ kZ => XS.lsub X3.here hx rfl (hb hby at_67) rfl kZ) ?_
    obtain ⟨vs, hvs⟩ : ∃ z : Int64, z = ((vx.toInt64) - (-2147483648 : Int64)) := ⟨_, rfl⟩
    rw [← hvs]
    refine own_by (S' := T3.setTop (mkF m 70 #[.val (.int p1), .val (.int p2), .val (.int p3), .val (.int p4), .val (.int vx), .val (.int vy), .val (.ref b2), .val (.int vk), .val (.long vd), .second, .val (.long vs), .second, .unset, .unset, .unset] [])) (fun tZ kZ => XS.lstore X3.here hx rfl (hb hby at_68) rfl (l' := #[.val (.int p1), .val (.int p2), .val (.int p3), .val (.int p4), .val (.int vx), .val (.int vy), .val (.ref b2), .val (.int vk), .val (.long vd), .second, .val (.long vs), .second, .unset, .unset, .unset]) rfl kZ) ?_
    refine own_by (S' := T3.setTop (mkF m 72 #[.val (.int p1), .val (.int p2), .val (.int p3), .val (.int p4), .val (.int vx), .val (.int vy), .val (.ref b2), .val (.int vk), .val (.long vd), .second, .val (.long vs), .second, .unset, .unset, .unset] [(.long vd)])) (fun tZ kZ => XS.lload X3.here hx rfl (hb hby at_70) rfl kZ) ?_
    refine own_by (S' := T3.setTop (mkF m 74 #[.val (.int p1), .val (.int p2), .val (.int p3), .val (.int p4), .val (.int vx), .val (.int vy), .val (.ref b2), .val (.int vk), .val (.long vd), .second, .val (.long vs), .second, .unset, .unset, .unset] [(.long vs), (.long vd)])) (fun tZ kZ => XS.lload X3.here hx rfl (hb hby at_72) rfl kZ) ?_
    have hsp : vs.toInt = vx.toInt + 2147483648 := by rw [hvs]; exact own_span vx
    refine own_by (S' := T3.setTop (mkF m 75 #[.val (.int p1), .val (.int p2), .val (.int p3), .val (.int p4), .val (.int vx), .val (.int vy), .val (.ref b2), .val (.int vk), .val (.long vd), .second, .val (.long vs), .second, .unset, .unset, .unset] [(.long (vd - (vd / vs) * vs))])) (fun tZ kZ => XS.lrem X3.here hx rfl (hb hby at_74) rfl (own_nz64 (by have := rng32 vx; omega)) kZ) ?_
    obtain ⟨vo, hvo⟩ : ∃ z : Int64, z = (vd - (vd / vs) * vs) := ⟨_, rfl⟩
    rw [← hvo]
    refine own_by (S' := T3.setTop (mkF m 77 #[.val (.int p1), .val (.int p2), .val (.int p3), .val (.int p4), .val (.int vx), .val (.int vy), .val (.ref b2), .val (.int vk), .val (.long vd), .second, .val (.long vs), .second, .val (.long vo), .second, .unset] [])) (fun tZ kZ => XS.lstore X3.here hx rfl (hb hby at_75) rfl (l' := #[.val (.int p1), .val (.int p2), .val (.int p3), .val (.int p4), .val (.int vx), .val (.int vy), .val (.ref b2), .val (.int vk), .val (.long vd), .second, .val (.long vs), .second, .val (.long vo), .second, .unset]) rfl kZ) ?_
    refine own_by (S' := T3.setTop (mkF m 79 #[.val (.int p1), .val (.int p2), .val (.int p3), .val (.int p4), .val (.int vx), .val (.int vy), .val (.ref b2), .val (.int vk), .val (.long vd), .second, .val (.long vs), .second, .val (.long vo), .second, .unset] [(.int vx)])) (fun tZ kZ => XS.iload X3.here hx rfl (hb hby at_77) rfl kZ) ?_
    refine own_by (S' := T3.setTop (mkF m 80 #[.val (.int p1), .val (.int p2), .val (.int p3), .val (.int p4), .val (.int vx), .val (.int vy), .val (.ref b2), .val (.int vk), .val (.long vd), .second, .val (.long vs), .second, .val (.long vo), .second, .unset] [(.long (vx.toInt64))])) (fun tZ kZ => XS.i2l X3.here hx rfl (hb hby at_79) rfl kZ) ?_
    refine own_by (S' := T3.setTop (mkF m 81 #[.val (.int p1), .val (.int p2), .val (.int p3), .val (.int p4), .val (.int vx), .val (.int vy), .val (.ref b2), .val (.int vk), .val (.long vd), .second, .val (.long vs), .second, .val (.long vo), .second, .unset] [(.long (1 : Int64)), (.long (vx.toInt64))])) (fun tZ kZ => XS.lconst X3.here hx rfl (hb hby at_80) kZ) ?_
    refine own_by (S' := T3.setTop (mkF m 82 #[.val (.int p1), .val (.int p2), .val (.int p3), .val (.int p4), .val (.int vx), .val (.int vy), .val (.ref b2), .val (.int vk), .val (.long vd), .second, .val (.long vs), .second, .val (.long vo), .second, .unset] [(.long ((vx.toInt64) - (1 : Int64)))])) (fun tZ kZ => XS.lsub X3.here hx rfl (hb hby at_81) rfl kZ) ?_
    refine own_by (S' := T3.setTop (mkF m 84 #[.val (.int p1), .val (.int p2), .val (.int p3), .val (.int p4), .val (.int vx), .val (.int vy), .val (.ref b2), .val (.int vk), .val (.long vd), .second, .val (.long vs), .second, .val (.long vo), .second, .unset] [(.long vo), (.long ((vx.toInt64) - (1 : Int64)))])) (fun tZ kZ => XS.lload X3.here hx rfl (hb hby at_82) rfl kZ) ?_
    refine own_by (S' := T3.setTop (mkF m 85 #[.val (.int p1), .val (.int p2), .val (.int p3), .val (.int p4), .val (.int vx), .val (.int vy), .val (.ref b2), .val (.int vk), .val (.long vd), .second, .val (.long vs), .second, .val (.long vo), .second, .unset] [(.long (((vx.toInt64) - (1 : Int64)) - vo))])) (fun tZ kZ => XS.lsub X3.here hx rfl (hb hby at_84) rfl kZ) ?_
    refine own_by (S' := T3.setTop (mkF m 86 #[.val (.int p1), .val (.int p2), .val (.int p3), .val (.int p4), .val (.int vx), .val (.int vy), .val (.ref b2), .val (.int vk), .val (.long vd), .second, .val (.long vs), .second, .val (.long vo), .second, .unset] [(.int ((((vx.toInt64) - (1 : Int64)) - vo).toInt32))])) (fun tZ kZ => XS.l2i X3.here hx rfl (hb hby at_85) rfl kZ) ?_
    obtain ⟨vq, hvq⟩ : ∃ z : Int32, z = ((((vx.toInt64) - (1 : Int64)) - vo).toInt32) := ⟨_, rfl⟩
    rw [← hvq]
    refine own_by (S' := T3.setTop (mkF m 88 #[.val (.int p1), .val (.int p2), .val (.int p3), .val (.int p4), .val (.int vx), .val (.int vy), .val (.ref b2), .val (.int vk), .val (.long vd), .second, .val (.long vs), .second, .val (.long vo), .second, .val (.int vq)] [])) (fun tZ kZ => XS.istore X3.here hx rfl (hb hby at_86) rfl (l' := #[.val (.int p1), .val (.int p2), .val (.int p3), .val (.int p4), .val (.int vx), .val (.int vy), .val (.ref b2), .val (.int vk), .val (.long vd), .second, .val (.long vs), .second, .val (.long vo), .second, .val (.int vq)]) rfl kZ) ?_
    have ho := own_rem64 vd vs hdu.1 (by have := rng32 vx; omega)
    rw [← hvo] at ho
    have hq : vq.toInt = vx.toInt - 1 - vo.toInt := by rw [hvq]; exact own_lo vx vo hx1 ho.1 (by omega)
    refine own_by (S' := T3.setTop (mkF m 90 #[.val (.int p1), .val (.int p2), .val (.int p3), .val (.int p4), .val (.int vx), .val (.int vy), .val (.ref b2), .val (.int vk), .val (.long vd), .second, .val (.long vs), .second, .val (.long vo), .second, .val (.int vq)] [(.ref b2)])) (fun tZ kZ => XS.aload X3.here hx rfl (hb hby at_88) rfl rfl kZ) ?_
    refine own_by (S' := T3.setTop (mkF m 92 #[.val (.int p1), .val (.int p2), .val (.int p3), .val (.int p4), .val (.int vx), .val (.int vy), .val (.ref b2), .val (.int vk), .val (.long vd), .second, .val (.long vs), .second, .val (.long vo), .second, .val (.int vq)] [(.int vq), (.ref b2)])) (fun tZ kZ => XS.iload X3.here hx rfl (hb hby at_90) rfl kZ) ?_
    obtain ⟨cq4, kq4, q4a, q4b, q4c⟩ := isOf hZ3 rfl Ea3
    obtain ⟨_, _, ⟨T4, L4, k4, n4⟩, -, X4, ⟨Lc4, hQ4, l4, y4, z4⟩, st4⟩ := X3.virtualBack hx (y := (⟨"com/example/tidewatch/tidewatch/core/ParallelismBounds", "contains", "(I)Z"⟩ : MethodName)) (z := (⟨"com/example/tidewatch/tidewatch/core/ParallelismBounds", "contains", "(I)Z"⟩ : MethodName)) hown3 (mvT hZ3 (hw _ (List.mem_of_getElem? (i := 37) rfl))) (mvT hZ3 (hw _ (List.mem_of_getElem? (i := 38) rfl))) (notFace_of_selects (args := #[]) (mvT hZ3 (hw _ (List.mem_of_getElem? (i := 40) rfl)))) (mvT hZ3 (hw _ (List.mem_of_getElem? (i := 40) rfl))) (mvT hZ3 (hw _ (List.mem_of_getElem? (i := 39) rfl))) (by decide) (backOf (W := 0) (rmCon l Z a0 hw [] b2 vq vx vy T3.heap n0 Zs3 Fa3 Fb3) hZ3 (hw _ (List.mem_of_getElem? (i := 41) rfl)) (hw _ (List.mem_of_getElem? (i := 7) rfl)) (by decide) (by decide)) q4a q4c (g := (mkF m 92 #[.val (.int p1), .val (.int p2), .val (.int p3), .val (.int p4), .val (.int vx), .val (.int vy), .val (.ref b2), .val (.int vk), .val (.long vd), .second, .val (.long vs), .second, .val (.long vo), .second, .val (.int vq)] [(.int vq), (.ref b2)])) rfl (by rw [hml]; rfl) (Steps.refl _) (argsL := [(.int vq)]) (rest := []) (lenOf pd_4 rfl) rfl (by show 2 * 0 + _ ≤ _; exact Nat.le_of_eq rfl) (hb hby at_92) (fun _ _ => ⟨rfl, rfl, (by decide : 3 + 0 ≤ _), (by decide : 62 + 0 ≤ _)⟩)
    dsimp only [Pt.U, Pt.locs, Pt.cells, Pt.slots] at X4 l4 y4 z4 st4 hQ4
    subst l4 y4 z4
    obtain ⟨rfl, N4q, heq4⟩ := hQ4
    have N4 := Fr.app N3 N4q
    refine own_by (S' := T4.setTop (mkF m 95 #[.val (.int p1), .val (.int p2), .val (.int p3), .val (.int p4), .val (.int vx), .val (.int vy), .val (.ref b2), .val (.int vk), .val (.long vd), .second, .val (.long vs), .second, .val (.long vo), .second, .val (.int vq)] [(.int (if vq < vx then (0 : Int32) else if vy < vq then 0 else 1))])) (fun tZ kZ => st4.trans kZ) ?_
    have hres : (if vq < vx then (0 : Int32) else if vy < vq then 0 else 1) = 0 := if_pos (by rw [Int32.lt_iff_toInt_lt]; omega)
    rw [hres]
    refine own_by (S' := T4.setTop (mkF m 98 #[.val (.int p1), .val (.int p2), .val (.int p3), .val (.int p4), .val (.int vx), .val (.int vy), .val (.ref b2), .val (.int vk), .val (.long vd), .second, .val (.long vs), .second, .val (.long vo), .second, .val (.int vq)] [])) (fun tZ kZ => XS.ifNo X4.here hx rfl (hb hby at_95) rfl ((if0 _ _).trans (teq rfl).2) kZ) ?_
    refine own_by (S' := T4.setTop (mkF m 99 #[.val (.int p1), .val (.int p2), .val (.int p3), .val (.int p4), .val (.int vx), .val (.int vy), .val (.ref b2), .val (.int vk), .val (.long vd), .second, .val (.long vs), .second, .val (.long vo), .second, .val (.int vq)] [(.int (1 : Int32))])) (fun tZ kZ => XS.iconst X4.here hx rfl (hb hby at_98) kZ) ?_
    refine own_by (S' := T4.setTop (mkF m 103 #[.val (.int p1), .val (.int p2), .val (.int p3), .val (.int p4), .val (.int vx), .val (.int vy), .val (.ref b2), .val (.int vk), .val (.long vd), .second, .val (.long vs), .second, .val (.long vo), .second, .val (.int vq)] [(.int (1 : Int32))])) (fun tZ kZ => XS.goto X4.here hx rfl (pc0 := 99) (pc' := 103) rfl (hb hby at_99) (by decide) (by decide) kZ) ?_
    exact own_retWI X4 hS3 (by rw [heq4]; exact (Nat.le_refl _)) hx (t := .boolean) Bd.returns (by simp) rfl (hb hby at_103) Bd.notSynchronized (by decide) (by decide) ⟨rfl, N4⟩
  · refine own_by (S' := T3.setTop (mkF m 104 #[.val (.int p1), .val (.int p2), .val (.int p3), .val (.int p4), .val (.int vx), .val (.int vy), .val (.ref b2), .val (.int vk), .val (.long vd), .second, .unset, .unset, .unset, .unset, .unset] [])) (fun tZ kZ => XS.ifYes X3.here hx rfl (pc0 := 58) (pc' := 104) rfl (hb hby at_58) rfl ((if0 _ _).trans (feq hk0c).2) (by decide) (by decide) kZ) ?_
    refine own_by (S' := T3.setTop (mkF m 106 #[.val (.int p1), .val (.int p2), .val (.int p3), .val (.int p4), .val (.int vx), .val (.int vy), .val (.ref b2), .val (.int vk), .val (.long vd), .second, .unset, .unset, .unset, .unset, .unset] [(.int vk)])) (fun tZ kZ => XS.iload X3.here hx rfl (hb hby at_104) rfl kZ) ?_
    refine own_by (S' := T3.setTop (mkF m 107 #[.val (.int p1), .val (.int p2), .val (.int p3), .val (.int p4), .val (.int vx), .val (.int vy), .val (.ref b2), .val (.int vk), .val (.long vd), .second, .unset, .unset, .unset, .unset, .unset] [(.int (1 : Int32)), (.int vk)])) (fun tZ kZ => XS.iconst X3.here hx rfl (hb hby at_106) kZ) ?_
    by_cases hk1c : vk = (1 : Int32)
    · refine own_by (S' := T3.setTop (mkF m 110 #[.val (.int p1), .val (.int p2), .val (.int p3), .val (.int p4), .val (.int vx), .val (.int vy), .val (.ref b2), .val (.int vk), .val (.long vd), .second, .unset, .unset, .unset, .unset, .unset] [])) (fun tZ kZ => XS.icmpNo X3.here hx rfl (hb hby at_107) rfl (teq hk1c).2 kZ) ?_
      refine own_by (S' := T3.setTop (mkF m 112 #[.val (.int p1), .val (.int p2), .val (.int p3), .val (.int p4), .val (.int vx), .val (.int vy), .val (.ref b2), .val (.int vk), .val (.long vd), .second, .unset, .unset, .unset, .unset, .unset] [(.int vx)])) (fun tZ kZ => XS.iload X3.here hx rfl (hb hby at_110) rfl kZ) ?_
      refine own_by (S' := T3.setTop (mkF m 113 #[.val (.int p1), .val (.int p2), .val (.int p3), .val (.int p4), .val (.int vx), .val (.int vy), .val (.ref b2), .val (.int vk), .val (.long vd), .second, .unset, .unset, .unset, .unset, .unset] [(.int p4), (.int vx)])) (fun tZ kZ => XS.iloadN X3.here hx rfl (hb hby at_112) rfl kZ) ?_
      refine own_by (S' := T3.setTop (mkF m 115 #[.val (.int p1), .val (.int p2), .val (.int p3), .val (.int p4), .val (.int vx), .val (.int vy), .val (.ref b2), .val (.int vk), .val (.long vd), .second, .unset, .unset, .unset, .unset, .unset] [(.int (2147483647 : Int32)), (.int p4), (.int vx)])) (fun tZ kZ => X3.ldcInt hx hown3 (mvT hZ3 (hw _ (List.mem_of_getElem? (i := 0) rfl))) (g := (mkF m 113 #[.val (.int p1), .val (.int p2), .val (.int p3), .val (.int p4), .val (.int vx), .val (.int vy), .val (.ref b2), .val (.int vk), .val (.long vd), .second, .unset, .unset, .unset, .unset, .unset] [(.int p4), (.int vx)])) rfl (hb hby at_113) _ kZ) ?_
      refine own_by (S' := T3.setTop (mkF m 116 #[.val (.int p1), .val (.int p2), .val (.int p3), .val (.int p4), .val (.int vx), .val (.int vy), .val (.ref b2), .val (.int vk), .val (.long vd), .second, .unset, .unset, .unset, .unset, .unset] [(.int (p4 &&& (2147483647 : Int32))), (.int vx)])) (fun tZ kZ => XS.iand X3.here hx rfl (hb hby at_115) rfl kZ) ?_
      refine own_by (S' := T3.setTop (mkF m 118 #[.val (.int p1), .val (.int p2), .val (.int p3), .val (.int p4), .val (.int vx), .val (.int vy), .val (.ref b2), .val (.int vk), .val (.long vd), .second, .unset, .unset, .unset, .unset, .unset] [(.int vy), (.int (p4 &&& (2147483647 : Int32))), (.int vx)])) (fun tZ kZ => XS.iload X3.here hx rfl (hb hby at_116) rfl kZ) ?_
      refine own_by (S' := T3.setTop (mkF m 120 #[.val (.int p1), .val (.int p2), .val (.int p3), .val (.int p4), .val (.int vx), .val (.int vy), .val (.ref b2), .val (.int vk), .val (.long vd), .second, .unset, .unset, .unset, .unset, .unset] [(.int vx), (.int vy), (.int (p4 &&& (2147483647 : Int32))), (.int vx)])) (fun tZ kZ => XS.iload X3.here hx rfl (hb hby at_118) rfl kZ) ?_
      refine own_by (S' := T3.setTop (mkF m 121 #[.val (.int p1), .val (.int p2), .val (.int p3), .val (.int p4), .val (.int vx), .val (.int vy), .val (.ref b2), .val (.int vk), .val (.long vd), .second, .unset, .unset, .unset, .unset, .unset] [(.int (vy - vx)), (.int (p4 &&& (2147483647 : Int32))), (.int vx)])) (fun tZ kZ => XS.isub X3.here hx rfl (hb hby at_120) rfl kZ) ?_
      refine own_by (S' := T3.setTop (mkF m 122 #[.val (.int p1), .val (.int p2), .val (.int p3), .val (.int p4), .val (.int vx), .val (.int vy), .val (.ref b2), .val (.int vk), .val (.long vd), .second, .unset, .unset, .unset, .unset, .unset] [(.int (1 : Int32)), (.int (vy - vx)), (.int (p4 &&& (2147483647 : Int32))), (.int vx)])) (fun tZ kZ => XS.iconst X3.here hx rfl (hb hby at_121) kZ) ?_
      refine own_by (S' := T3.setTop (mkF m 123 #[.val (.int p1), .val (.int p2), .val (.int p3), .val (.int p4), .val (.int vx), .val (.int vy), .val (.ref b2), .val (.int vk), .val (.long vd), .second, .unset, .unset, .unset, .unset, .unset] [(.int ((vy - vx) + (1 : Int32))), (.int (p4 &&& (2147483647 : Int32))), (.int vx)])) (fun tZ kZ => XS.iadd X3.here hx rfl (hb hby at_122) rfl kZ) ?_
      refine own_by (S' := T3.setTop (mkF m 124 #[.val (.int p1), .val (.int p2), .val (.int p3), .val (.int p4), .val (.int vx), .val (.int vy), .val (.ref b2), .val (.int vk), .val (.long vd), .second, .unset, .unset, .unset, .unset, .unset] [(.int ((p4 &&& (2147483647 : Int32)) % ((vy - vx) + (1 : Int32)))), (.int vx)])) (fun tZ kZ => Jvm.RoadKit.iremM X3 hx rfl (hb hby at_123) rfl (own_nz32 (by rw [own_wd hx1 hy1]; omega)) kZ) ?_
      refine own_by (S' := T3.setTop (mkF m 125 #[.val (.int p1), .val (.int p2), .val (.int p3), .val (.int p4), .val (.int vx), .val (.int vy), .val (.ref b2), .val (.int vk), .val (.long vd), .second, .unset, .unset, .unset, .unset, .unset] [(.int (vx + ((p4 &&& (2147483647 : Int32)) % ((vy - vx) + (1 : Int32)))))])) (fun tZ kZ => XS.iadd X3.here hx rfl (hb hby at_124) rfl kZ) ?_
      obtain ⟨vq, hvq⟩ : ∃ z : Int32, z = (vx + ((p4 &&& (2147483647 : Int32)) % ((vy - vx) + (1 : Int32)))) := ⟨_, rfl⟩
      rw [← hvq]
      refine own_by (S' := T3.setTop (mkF m 127 #[.val (.int p1), .val (.int p2), .val (.int p3), .val (.int p4), .val (.int vx), .val (.int vy), .val (.ref b2), .val (.int vk), .val (.long vd), .second, .val (.int vq), .unset, .unset, .unset, .unset] [])) (fun tZ kZ => XS.istore X3.here hx rfl (hb hby at_125) rfl (l' := #[.val (.int p1), .val (.int p2), .val (.int p3), .val (.int p4), .val (.int vx), .val (.int vy), .val (.ref b2), .val (.int vk), .val (.long vd), .second, .val (.int vq), .unset, .unset, .unset, .unset]) rfl kZ) ?_
      have hq := own_mid hx1 hy1 (own_pos p4)
      rw [← hvq] at hq
      refine own_by (S' := T3.setTop (mkF m 129 #[.val (.int p1), .val (.int p2), .val (.int p3), .val (.int p4), .val (.int vx), .val (.int vy), .val (.ref b2), .val (.int vk), .val (.long vd), .second, .val (.int vq), .unset, .unset, .unset, .unset] [(.ref b2)])) (fun tZ kZ => XS.aload X3.here hx rfl (hb hby at_127) rfl rfl kZ) ?_
      refine own_by (S' := T3.setTop (mkF m 131 #[.val (.int p1), .val (.int p2), .val (.int p3), .val (.int p4), .val (.int vx), .val (.int vy), .val (.ref b2), .val (.int vk), .val (.long vd), .second, .val (.int vq), .unset, .unset, .unset, .unset] [(.int vq), (.ref b2)])) (fun tZ kZ => XS.iload X3.here hx rfl (hb hby at_129) rfl kZ) ?_
      obtain ⟨cq5, kq5, q5a, q5b, q5c⟩ := isOf hZ3 rfl Ea3
      obtain ⟨_, _, ⟨T5, L5, k5, n5⟩, -, X5, ⟨Lc5, hQ5, l5, y5, z5⟩, st5⟩ := X3.virtualBack hx (y := (⟨"com/example/tidewatch/tidewatch/core/ParallelismBounds", "contains", "(I)Z"⟩ : MethodName)) (z := (⟨"com/example/tidewatch/tidewatch/core/ParallelismBounds", "contains", "(I)Z"⟩ : MethodName)) hown3 (mvT hZ3 (hw _ (List.mem_of_getElem? (i := 37) rfl))) (mvT hZ3 (hw _ (List.mem_of_getElem? (i := 38) rfl))) (notFace_of_selects (args := #[]) (mvT hZ3 (hw _ (List.mem_of_getElem? (i := 40) rfl)))) (mvT hZ3 (hw _ (List.mem_of_getElem? (i := 40) rfl))) (mvT hZ3 (hw _ (List.mem_of_getElem? (i := 39) rfl))) (by decide) (backOf (W := 0) (rmCon l Z a0 hw [] b2 vq vx vy T3.heap n0 Zs3 Fa3 Fb3) hZ3 (hw _ (List.mem_of_getElem? (i := 41) rfl)) (hw _ (List.mem_of_getElem? (i := 7) rfl)) (by decide) (by decide)) q5a q5c (g := (mkF m 131 #[.val (.int p1), .val (.int p2), .val (.int p3), .val (.int p4), .val (.int vx), .val (.int vy), .val (.ref b2), .val (.int vk), .val (.long vd), .second, .val (.int vq), .unset, .unset, .unset, .unset] [(.int vq), (.ref b2)])) rfl (by rw [hml]; rfl) (Steps.refl _) (argsL := [(.int vq)]) (rest := []) (lenOf pd_4 rfl) rfl (by show 2 * 0 + _ ≤ _; exact Nat.le_of_eq rfl) (hb hby at_131) (fun _ _ => ⟨rfl, rfl, (by decide : 3 + 0 ≤ _), (by decide : 62 + 0 ≤ _)⟩)
      dsimp only [Pt.U, Pt.locs, Pt.cells, Pt.slots] at X5 l5 y5 z5 st5 hQ5
      subst l5 y5 z5
      obtain ⟨rfl, N5q, heq5⟩ := hQ5
      have N5 := Fr.app N3 N5q
      refine own_by (S' := T5.setTop (mkF m 134 #[.val (.int p1), .val (.int p2), .val (.int p3), .val (.int p4), .val (.int vx), .val (.int vy), .val (.ref b2), .val (.int vk), .val (.long vd), .second, .val (.int vq), .unset, .unset, .unset, .unset] [(.int (if vq < vx then (0 : Int32) else if vy < vq then 0 else 1))])) (fun tZ kZ => st5.trans kZ) ?_
      have hres : (if vq < vx then (0 : Int32) else if vy < vq then 0 else 1) = 1 := by rw [if_neg (by rw [Int32.lt_iff_toInt_lt]; omega), if_neg (by rw [Int32.lt_iff_toInt_lt]; omega)]
      rw [hres]
      exact own_retWI X5 hS3 (by rw [heq5]; exact (Nat.le_refl _)) hx (t := .boolean) Bd.returns (by simp) rfl (hb hby at_134) Bd.notSynchronized (by decide) (by decide) ⟨rfl, N5⟩
    · refine own_by (S' := T3.setTop (mkF m 135 #[.val (.int p1), .val (.int p2), .val (.int p3), .val (.int p4), .val (.int vx), .val (.int vy), .val (.ref b2), .val (.int vk), .val (.long vd), .second, .unset, .unset, .unset, .unset, .unset] [])) (fun tZ kZ => XS.icmpYes X3.here hx rfl (pc0 := 107) (pc' := 135) rfl (hb hby at_107) rfl (feq hk1c).2 (by decide) (by decide) kZ) ?_
      refine own_by (S' := T3.setTop (mkF m 138 #[.val (.int p1), .val (.int p2), .val (.int p3), .val (.int p4), .val (.int vx), .val (.int vy), .val (.ref b2), .val (.int vk), .val (.long vd), .second, .unset, .unset, .unset, .unset, .unset] [(.long (2147483647 : Int64))])) (fun tZ kZ => X3.ldc2Long hx hown3 (mvT hZ3 (hw _ (List.mem_of_getElem? (i := 36) rfl))) (g := (mkF m 135 #[.val (.int p1), .val (.int p2), .val (.int p3), .val (.int p4), .val (.int vx), .val (.int vy), .val (.ref b2), .val (.int vk), .val (.long vd), .second, .unset, .unset, .unset, .unset, .unset] [])) rfl (hb hby at_135) _ kZ) ?_
      refine own_by (S' := T3.setTop (mkF m 140 #[.val (.int p1), .val (.int p2), .val (.int p3), .val (.int p4), .val (.int vx), .val (.int vy), .val (.ref b2), .val (.int vk), .val (.long vd), .second, .unset, .unset, .unset, .unset, .unset] [(.int vy), (.long (2147483647 : Int64))])) (fun tZ kZ => XS.iload X3.here hx rfl (hb hby at_138) rfl kZ) ?_
      refine own_by (S' := T3.setTop (mkF m 141 #[.val (.int p1), .val (.int p2), .val (.int p3), .val (.int p4), .val (.int vx), .val (.int vy), .val (.ref b2), .val (.int vk), .val (.long vd), .second, .unset, .unset, .unset, .unset, .unset] [(.long (vy.toInt64)), (.long (2147483647 : Int64))])) (fun tZ kZ => XS.i2l X3.here hx rfl (hb hby at_140) rfl kZ) ?_
      refine own_by (S' := T3.setTop (mkF m 142 #[.val (.int p1), .val (.int p2), .val (.int p3), .val (.int p4), .val (.int vx), .val (.int vy), .val (.ref b2), .val (.int vk), .val (.long vd), .second, .unset, .unset, .unset, .unset, .unset] [(.long ((2147483647 : Int64) - (vy.toInt64)))])) (fun tZ kZ => XS.lsub X3.here hx rfl (hb hby at_141) rfl kZ) ?_
      obtain ⟨vs, hvs⟩ : ∃ z : Int64, z = ((2147483647 : Int64) - (vy.toInt64)) := ⟨_, rfl⟩
      rw [← hvs]
      refine own_by (S' := T3.setTop (mkF m 144 #[.val (.int p1), .val (.int p2), .val (.int p3), .val (.int p4), .val (.int vx), .val (.int vy), .val (.ref b2), .val (.int vk), .val (.long vd), .second, .val (.long vs), .second, .unset, .unset, .unset] [])) (fun tZ kZ => XS.lstore X3.here hx rfl (hb hby at_142) rfl (l' := #[.val (.int p1), .val (.int p2), .val (.int p3), .val (.int p4), .val (.int vx), .val (.int vy), .val (.ref b2), .val (.int vk), .val (.long vd), .second, .val (.long vs), .second, .unset, .unset, .unset]) rfl kZ) ?_
      refine own_by (S' := T3.setTop (mkF m 146 #[.val (.int p1), .val (.int p2), .val (.int p3), .val (.int p4), .val (.int vx), .val (.int vy), .val (.ref b2), .val (.int vk), .val (.long vd), .second, .val (.long vs), .second, .unset, .unset, .unset] [(.long vs)])) (fun tZ kZ => XS.lload X3.here hx rfl (hb hby at_144) rfl kZ) ?_
      refine own_by (S' := T3.setTop (mkF m 147 #[.val (.int p1), .val (.int p2), .val (.int p3), .val (.int p4), .val (.int vx), .val (.int vy), .val (.ref b2), .val (.int vk), .val (.long vd), .second, .val (.long vs), .second, .unset, .unset, .unset] [(.long (0 : Int64)), (.long vs)])) (fun tZ kZ => XS.lconst X3.here hx rfl (hb hby at_146) kZ) ?_
      refine own_by (S' := T3.setTop (mkF m 148 #[.val (.int p1), .val (.int p2), .val (.int p3), .val (.int p4), .val (.int vx), .val (.int vy), .val (.ref b2), .val (.int vk), .val (.long vd), .second, .val (.long vs), .second, .unset, .unset, .unset] [(.int (lcmpW vs (0 : Int64)))])) (fun tZ kZ => XS.lcmp X3.here hx rfl (hb hby at_147) rfl kZ) ?_
      have hsp : vs.toInt = 2147483647 - vy.toInt := by rw [hvs]; exact own_spanU vy
      by_cases hsz : (lcmpW vs (0 : Int64)) = (0 : Int32)
      · refine own_by (S' := T3.setTop (mkF m 151 #[.val (.int p1), .val (.int p2), .val (.int p3), .val (.int p4), .val (.int vx), .val (.int vy), .val (.ref b2), .val (.int vk), .val (.long vd), .second, .val (.long vs), .second, .unset, .unset, .unset] [])) (fun tZ kZ => XS.ifNo X3.here hx rfl (hb hby at_148) rfl ((if0 _ _).trans (teq hsz).2) kZ) ?_
        refine own_by (S' := T3.setTop (mkF m 153 #[.val (.int p1), .val (.int p2), .val (.int p3), .val (.int p4), .val (.int vx), .val (.int vy), .val (.ref b2), .val (.int vk), .val (.long vd), .second, .val (.long vs), .second, .unset, .unset, .unset] [(.ref b2)])) (fun tZ kZ => XS.aload X3.here hx rfl (hb hby at_151) rfl rfl kZ) ?_
        refine own_by (S' := T3.setTop (mkF m 155 #[.val (.int p1), .val (.int p2), .val (.int p3), .val (.int p4), .val (.int vx), .val (.int vy), .val (.ref b2), .val (.int vk), .val (.long vd), .second, .val (.long vs), .second, .unset, .unset, .unset] [(.int vy), (.ref b2)])) (fun tZ kZ => XS.iload X3.here hx rfl (hb hby at_153) rfl kZ) ?_
        obtain ⟨cq6, kq6, q6a, q6b, q6c⟩ := isOf hZ3 rfl Ea3
        obtain ⟨_, _, ⟨T6, L6, k6, n6⟩, -, X6, ⟨Lc6, hQ6, l6, y6, z6⟩, st6⟩ := X3.virtualBack hx (y := (⟨"com/example/tidewatch/tidewatch/core/ParallelismBounds", "contains", "(I)Z"⟩ : MethodName)) (z := (⟨"com/example/tidewatch/tidewatch/core/ParallelismBounds", "contains", "(I)Z"⟩ : MethodName)) hown3 (mvT hZ3 (hw _ (List.mem_of_getElem? (i := 37) rfl))) (mvT hZ3 (hw _ (List.mem_of_getElem? (i := 38) rfl))) (notFace_of_selects (args := #[]) (mvT hZ3 (hw _ (List.mem_of_getElem? (i := 40) rfl)))) (mvT hZ3 (hw _ (List.mem_of_getElem? (i := 40) rfl))) (mvT hZ3 (hw _ (List.mem_of_getElem? (i := 39) rfl))) (by decide) (backOf (W := 0) (rmCon l Z a0 hw [] b2 vy vx vy T3.heap n0 Zs3 Fa3 Fb3) hZ3 (hw _ (List.mem_of_getElem? (i := 41) rfl)) (hw _ (List.mem_of_getElem? (i := 7) rfl)) (by decide) (by decide)) q6a q6c (g := (mkF m 155 #[.val (.int p1), .val (.int p2), .val (.int p3), .val (.int p4), .val (.int vx), .val (.int vy), .val (.ref b2), .val (.int vk), .val (.long vd), .second, .val (.long vs), .second, .unset, .unset, .unset] [(.int vy), (.ref b2)])) rfl (by rw [hml]; rfl) (Steps.refl _) (argsL := [(.int vy)]) (rest := []) (lenOf pd_4 rfl) rfl (by show 2 * 0 + _ ≤ _; exact Nat.le_of_eq rfl) (hb hby at_155) (fun _ _ => ⟨rfl, rfl, (by decide : 3 + 0 ≤ _), (by decide : 62 + 0 ≤ _)⟩)
        dsimp only [Pt.U, Pt.locs, Pt.cells, Pt.slots] at X6 l6 y6 z6 st6 hQ6
        subst l6 y6 z6
        obtain ⟨rfl, N6q, heq6⟩ := hQ6
        have N6 := Fr.app N3 N6q
        refine own_by (S' := T6.setTop (mkF m 158 #[.val (.int p1), .val (.int p2), .val (.int p3), .val (.int p4), .val (.int vx), .val (.int vy), .val (.ref b2), .val (.int vk), .val (.long vd), .second, .val (.long vs), .second, .unset, .unset, .unset] [(.int (if vy < vx then (0 : Int32) else if vy < vy then 0 else 1))])) (fun tZ kZ => st6.trans kZ) ?_
        have hres : (if vy < vx then (0 : Int32) else if vy < vy then 0 else 1) = 1 := by rw [if_neg (by rw [Int32.lt_iff_toInt_lt]; omega), if_neg (by rw [Int32.lt_iff_toInt_lt]; omega)]
        rw [hres]
        exact own_retWI X6 hS3 (by rw [heq6]; exact (Nat.le_refl _)) hx (t := .boolean) Bd.returns (by simp) rfl (hb hby at_158) Bd.notSynchronized (by decide) (by decide) ⟨rfl, N6⟩
      · refine own_by (S' := T3.setTop (mkF m 159 #[.val (.int p1), .val (.int p2), .val (.int p3), .val (.int p4), .val (.int vx), .val (.int vy), .val (.ref b2), .val (.int vk), .val (.long vd), .second, .val (.long vs), .second, .unset, .unset, .unset] [])) (fun tZ kZ => XS.ifYes X3.here hx rfl (pc0 := 148) (pc' := 159) rfl (hb hby at_148) rfl ((if0 _ _).trans (feq hsz).2) (by decide) (by decide) kZ) ?_
        have hs0 : vs.toInt ≠ 0 := fun q => hsz ((lw_eq _ _).mpr (Int64.toInt_inj.mp (q.trans rfl)))
        refine own_by (S' := T3.setTop (mkF m 161 #[.val (.int p1), .val (.int p2), .val (.int p3), .val (.int p4), .val (.int vx), .val (.int vy), .val (.ref b2), .val (.int vk), .val (.long vd), .second, .val (.long vs), .second, .unset, .unset, .unset] [(.long vd)])) (fun tZ kZ => XS.lload X3.here hx rfl (hb hby at_159) rfl kZ) ?_
        refine own_by (S' := T3.setTop (mkF m 163 #[.val (.int p1), .val (.int p2), .val (.int p3), .val (.int p4), .val (.int vx), .val (.int vy), .val (.ref b2), .val (.int vk), .val (.long vd), .second, .val (.long vs), .second, .unset, .unset, .unset] [(.long vs), (.long vd)])) (fun tZ kZ => XS.lload X3.here hx rfl (hb hby at_161) rfl kZ) ?_
        refine own_by (S' := T3.setTop (mkF m 164 #[.val (.int p1), .val (.int p2), .val (.int p3), .val (.int p4), .val (.int vx), .val (.int vy), .val (.ref b2), .val (.int vk), .val (.long vd), .second, .val (.long vs), .second, .unset, .unset, .unset] [(.long (vd - (vd / vs) * vs))])) (fun tZ kZ => XS.lrem X3.here hx rfl (hb hby at_163) rfl (own_nz64 hs0) kZ) ?_
        obtain ⟨vo, hvo⟩ : ∃ z : Int64, z = (vd - (vd / vs) * vs) := ⟨_, rfl⟩
        rw [← hvo]
        refine own_by (S' := T3.setTop (mkF m 166 #[.val (.int p1), .val (.int p2), .val (.int p3), .val (.int p4), .val (.int vx), .val (.int vy), .val (.ref b2), .val (.int vk), .val (.long vd), .second, .val (.long vs), .second, .val (.long vo), .second, .unset] [])) (fun tZ kZ => XS.lstore X3.here hx rfl (hb hby at_164) rfl (l' := #[.val (.int p1), .val (.int p2), .val (.int p3), .val (.int p4), .val (.int vx), .val (.int vy), .val (.ref b2), .val (.int vk), .val (.long vd), .second, .val (.long vs), .second, .val (.long vo), .second, .unset]) rfl kZ) ?_
        refine own_by (S' := T3.setTop (mkF m 168 #[.val (.int p1), .val (.int p2), .val (.int p3), .val (.int p4), .val (.int vx), .val (.int vy), .val (.ref b2), .val (.int vk), .val (.long vd), .second, .val (.long vs), .second, .val (.long vo), .second, .unset] [(.int vy)])) (fun tZ kZ => XS.iload X3.here hx rfl (hb hby at_166) rfl kZ) ?_
        refine own_by (S' := T3.setTop (mkF m 169 #[.val (.int p1), .val (.int p2), .val (.int p3), .val (.int p4), .val (.int vx), .val (.int vy), .val (.ref b2), .val (.int vk), .val (.long vd), .second, .val (.long vs), .second, .val (.long vo), .second, .unset] [(.long (vy.toInt64))])) (fun tZ kZ => XS.i2l X3.here hx rfl (hb hby at_168) rfl kZ) ?_
        refine own_by (S' := T3.setTop (mkF m 170 #[.val (.int p1), .val (.int p2), .val (.int p3), .val (.int p4), .val (.int vx), .val (.int vy), .val (.ref b2), .val (.int vk), .val (.long vd), .second, .val (.long vs), .second, .val (.long vo), .second, .unset] [(.long (1 : Int64)), (.long (vy.toInt64))])) (fun tZ kZ => XS.lconst X3.here hx rfl (hb hby at_169) kZ) ?_
        refine own_by (S' := T3.setTop (mkF m 171 #[.val (.int p1), .val (.int p2), .val (.int p3), .val (.int p4), .val (.int vx), .val (.int vy), .val (.ref b2), .val (.int vk), .val (.long vd), .second, .val (.long vs), .second, .val (.long vo), .second, .unset] [(.long ((vy.toInt64) + (1 : Int64)))])) (fun tZ kZ => XS.ladd X3.here hx rfl (hb hby at_170) rfl kZ) ?_
        refine own_by (S' := T3.setTop (mkF m 173 #[.val (.int p1), .val (.int p2), .val (.int p3), .val (.int p4), .val (.int vx), .val (.int vy), .val (.ref b2), .val (.int vk), .val (.long vd), .second, .val (.long vs), .second, .val (.long vo), .second, .unset] [(.long vo), (.long ((vy.toInt64) + (1 : Int64)))])) (fun tZ kZ => XS.lload X3.here hx rfl (hb hby at_171) rfl kZ) ?_
        refine own_by (S' := T3.setTop (mkF m 174 #[.val (.int p1), .val (.int p2), .val (.int p3), .val (.int p4), .val (.int vx), .val (.int vy), .val (.ref b2), .val (.int vk), .val (.long vd), .second, .val (.long vs), .second, .val (.long vo), .second, .unset] [(.long (((vy.toInt64) + (1 : Int64)) + vo))])) (fun tZ kZ => XS.ladd X3.here hx rfl (hb hby at_173) rfl kZ) ?_
        refine own_by (S' := T3.setTop (mkF m 175 #[.val (.int p1), .val (.int p2), .val (.int p3), .val (.int p4), .val (.int vx), .val (.int vy), .val (.ref b2), .val (.int vk), .val (.long vd), .second, .val (.long vs), .second, .val (.long vo), .second, .unset] [(.int ((((vy.toInt64) + (1 : Int64)) + vo).toInt32))])) (fun tZ kZ => XS.l2i X3.here hx rfl (hb hby at_174) rfl kZ) ?_
        obtain ⟨vq, hvq⟩ : ∃ z : Int32, z = ((((vy.toInt64) + (1 : Int64)) + vo).toInt32) := ⟨_, rfl⟩
        rw [← hvq]
        refine own_by (S' := T3.setTop (mkF m 177 #[.val (.int p1), .val (.int p2), .val (.int p3), .val (.int p4), .val (.int vx), .val (.int vy), .val (.ref b2), .val (.int vk), .val (.long vd), .second, .val (.long vs), .second, .val (.long vo), .second, .val (.int vq)] [])) (fun tZ kZ => XS.istore X3.here hx rfl (hb hby at_175) rfl (l' := #[.val (.int p1), .val (.int p2), .val (.int p3), .val (.int p4), .val (.int vx), .val (.int vy), .val (.ref b2), .val (.int vk), .val (.long vd), .second, .val (.long vs), .second, .val (.long vo), .second, .val (.int vq)]) rfl kZ) ?_
        have ho := own_rem64 vd vs hdu.1 (by have := rng32 vy; omega)
        rw [← hvo] at ho
        have hq : vq.toInt = vy.toInt + 1 + vo.toInt := by rw [hvq]; exact own_hi vy vo (by omega) ho.1 (by omega)
        refine own_by (S' := T3.setTop (mkF m 179 #[.val (.int p1), .val (.int p2), .val (.int p3), .val (.int p4), .val (.int vx), .val (.int vy), .val (.ref b2), .val (.int vk), .val (.long vd), .second, .val (.long vs), .second, .val (.long vo), .second, .val (.int vq)] [(.ref b2)])) (fun tZ kZ => XS.aload X3.here hx rfl (hb hby at_177) rfl rfl kZ) ?_
        refine own_by (S' := T3.setTop (mkF m 181 #[.val (.int p1), .val (.int p2), .val (.int p3), .val (.int p4), .val (.int vx), .val (.int vy), .val (.ref b2), .val (.int vk), .val (.long vd), .second, .val (.long vs), .second, .val (.long vo), .second, .val (.int vq)] [(.int vq), (.ref b2)])) (fun tZ kZ => XS.iload X3.here hx rfl (hb hby at_179) rfl kZ) ?_
        obtain ⟨cq7, kq7, q7a, q7b, q7c⟩ := isOf hZ3 rfl Ea3
        obtain ⟨_, _, ⟨T7, L7, k7, n7⟩, -, X7, ⟨Lc7, hQ7, l7, y7, z7⟩, st7⟩ := X3.virtualBack hx (y := (⟨"com/example/tidewatch/tidewatch/core/ParallelismBounds", "contains", "(I)Z"⟩ : MethodName)) (z := (⟨"com/example/tidewatch/tidewatch/core/ParallelismBounds", "contains", "(I)Z"⟩ : MethodName)) hown3 (mvT hZ3 (hw _ (List.mem_of_getElem? (i := 37) rfl))) (mvT hZ3 (hw _ (List.mem_of_getElem? (i := 38) rfl))) (notFace_of_selects (args := #[]) (mvT hZ3 (hw _ (List.mem_of_getElem? (i := 40) rfl)))) (mvT hZ3 (hw _ (List.mem_of_getElem? (i := 40) rfl))) (mvT hZ3 (hw _ (List.mem_of_getElem? (i := 39) rfl))) (by decide) (backOf (W := 0) (rmCon l Z a0 hw [] b2 vq vx vy T3.heap n0 Zs3 Fa3 Fb3) hZ3 (hw _ (List.mem_of_getElem? (i := 41) rfl)) (hw _ (List.mem_of_getElem? (i := 7) rfl)) (by decide) (by decide)) q7a q7c (g := (mkF m 181 #[.val (.int p1), .val (.int p2), .val (.int p3), .val (.int p4), .val (.int vx), .val (.int vy), .val (.ref b2), .val (.int vk), .val (.long vd), .second, .val (.long vs), .second, .val (.long vo), .second, .val (.int vq)] [(.int vq), (.ref b2)])) rfl (by rw [hml]; rfl) (Steps.refl _) (argsL := [(.int vq)]) (rest := []) (lenOf pd_4 rfl) rfl (by show 2 * 0 + _ ≤ _; exact Nat.le_of_eq rfl) (hb hby at_181) (fun _ _ => ⟨rfl, rfl, (by decide : 3 + 0 ≤ _), (by decide : 62 + 0 ≤ _)⟩)
        dsimp only [Pt.U, Pt.locs, Pt.cells, Pt.slots] at X7 l7 y7 z7 st7 hQ7
        subst l7 y7 z7
        obtain ⟨rfl, N7q, heq7⟩ := hQ7
        have N7 := Fr.app N3 N7q
        refine own_by (S' := T7.setTop (mkF m 184 #[.val (.int p1), .val (.int p2), .val (.int p3), .val (.int p4), .val (.int vx), .val (.int vy), .val (.ref b2), .val (.int vk), .val (.long vd), .second, .val (.long vs), .second, .val (.long vo), .second, .val (.int vq)] [(.int (if vq < vx then (0 : Int32) else if vy < vq then 0 else 1))])) (fun tZ kZ => st7.trans kZ) ?_
        have hres : (if vq < vx then (0 : Int32) else if vy < vq then 0 else 1) = 0 := by rw [if_neg (by rw [Int32.lt_iff_toInt_lt]; omega), if_pos (by rw [Int32.lt_iff_toInt_lt]; omega)]
        rw [hres]
        refine own_by (S' := T7.setTop (mkF m 187 #[.val (.int p1), .val (.int p2), .val (.int p3), .val (.int p4), .val (.int vx), .val (.int vy), .val (.ref b2), .val (.int vk), .val (.long vd), .second, .val (.long vs), .second, .val (.long vo), .second, .val (.int vq)] [])) (fun tZ kZ => XS.ifNo X7.here hx rfl (hb hby at_184) rfl ((if0 _ _).trans (teq rfl).2) kZ) ?_
        refine own_by (S' := T7.setTop (mkF m 188 #[.val (.int p1), .val (.int p2), .val (.int p3), .val (.int p4), .val (.int vx), .val (.int vy), .val (.ref b2), .val (.int vk), .val (.long vd), .second, .val (.long vs), .second, .val (.long vo), .second, .val (.int vq)] [(.int (1 : Int32))])) (fun tZ kZ => XS.iconst X7.here hx rfl (hb hby at_187) kZ) ?_
        refine own_by (S' := T7.setTop (mkF m 192 #[.val (.int p1), .val (.int p2), .val (.int p3), .val (.int p4), .val (.int vx), .val (.int vy), .val (.ref b2), .val (.int vk), .val (.long vd), .second, .val (.long vs), .second, .val (.long vo), .second, .val (.int vq)] [(.int (1 : Int32))])) (fun tZ kZ => XS.goto X7.here hx rfl (pc0 := 188) (pc' := 192) rfl (hb hby at_188) (by decide) (by decide) kZ) ?_
        exact own_retWI X7 hS3 (by rw [heq7]; exact (Nat.le_refl _)) hx (t := .boolean) Bd.returns (by simp) rfl (hb hby at_192) Bd.notSynchronized (by decide) (by decide) ⟨rfl, N7⟩
set_option maxRecDepth 65536 in
set_option maxHeartbeats 40000000 in
theorem comes_1 {Post : Tables → Env → Array Value → State → Outcome → State → Prop} (hpost : ∀ tb e args s v u, (limb_1_1.after args s (.returned v) u = true ∧ limb_1_2.after args s (.returned v) u = true ∧ True) → FramedW s (.returned v) u (Jvm.fieldLocs frame_1_writes args s ++ Jvm.arrayLocs frame_1_arrays args s ++ Jvm.staticLocs frame_1_statics s) 16 1152 → Post tb e args s (.returned v) u) :
    ArmFor flags0 classFile x code maxLocals ret World_1 tables_1 room_1 Calls_1 rest_1 Pre_1 Post := by
  intro l hfl _ _ p e ha hc hk s m args below hf hA hF happ hP
  obtain ⟨hcalls, hrest, hpre⟩ := hP
  obtain ⟨-, -, -, hnamed, -, -, -, hat⟩ := (Spec.applies_iff hf).mp happ
  obtain ⟨hg, hn⟩ := and_e (Cond.before_iff.mp (show (Jvm.Cond.and given_1 narrow_1).before args s = true from hpre))
  obtain ⟨gc, gr0⟩ := and_e hg
  obtain ⟨ga0, gr1⟩ := and_e gr0
  obtain ⟨ga1, gr2⟩ := and_e gr1
  obtain ⟨ga2, gr3⟩ := and_e gr2
  obtain ⟨w0, w1, w2, w3, rfl⟩ : ∃ w0 w1 w2 w3 : Value, args = #[w0, w1, w2, w3] := by
    have hs : args.size = 4 := by simpa [Cond.value, given_1] using gc
    obtain ⟨L⟩ := args
    match L, hs with
    | [w0, w1, w2, w3], _ => exact ⟨w0, w1, w2, w3, rfl⟩
  have hw := fun d (hd : d ∈ tables_1) => atoms_spec (ws := Jvm.Cond.code x code maxLocals ret :: tables_1) hat d (List.mem_cons_of_mem _ hd)
  have hfit : Fit s := fun {y c} hc i hi => by
    obtain ⟨ha, rfl⟩ := Array.getElem?_eq_some_iff.mp hc
    have q := List.all_eq_true.mp ((Array.all_eq_true_iff_forall_mem.mp hF) _ (Array.getElem_mem ha)) i (List.mem_range.mpr hi)
    simpa [Array.getElem?_eq_getElem hi] using q
  obtain ⟨i0, ei0⟩ := is_v ga0
  obtain rfl : w0 = (.int i0) := Option.some.inj ei0
  obtain ⟨i1, ei1⟩ := is_v ga1
  obtain rfl : w1 = (.int i1) := Option.some.inj ei1
  obtain ⟨i2, ei2⟩ := is_v ga2
  obtain rfl : w2 = (.int i2) := Option.some.inj ei2
  obtain ⟨i3, ei3⟩ := is_v gr3
  obtain rfl : w3 = (.int i3) := Option.some.inj ei3
  obtain ⟨n, o, h1, h2, h3, _, L, rfl, ⟨rfl, N⟩, hq⟩ := rm0 l s _ hw tables_1 i0 i1 i2 i3 s.heap s.heap.size (Nat.le_refl _) p e ha hc hk s m _ below hf ((Spec.applies_iff_loose hf).mp happ).1 ⟨rfl, State.Warmed39.refl s, rfl⟩ trivial
  refine ⟨n, _, h1, h2, h3, hpost _ _ _ _ _ _ ⟨Cond.after_iff.mpr rfl, Cond.after_iff.mpr (eq_i res_at (Term.int_eval (1)) rfl), trivial⟩ ⟨hq.1, hq.2.1, hq.2.2.1, (hq.2.2.2.sift fun y hy => Or.inr (N y hy)).mono (by decide) (by decide)⟩⟩
theorem main_1_1 : Claimed_1_1 := comes_1 fun _ _ _ _ _ _ h hF => ⟨h.1, hF⟩
theorem main_1_2 : Claimed_1_2 := comes_1 fun _ _ _ _ _ _ h hF => ⟨h.2.1, hF⟩

end Jvm.Pilot.@@N@@
namespace Jvm.Pilot.@@N@@
open Jvm Jvm.ClassFile Sem Op Lib Jvm.Free Jvm.Stand Jvm.Pilot.@@N@@.Jvm.D
/-! MADE BY PROGRAM (witnessworld.py) out of the Statement's table words and the real class files: 17 classes; the members and pool entries that the words name. The judged class is class 1, her method 1. -/
namespace start1
open Jvm.ClassFile
def u (s : String) : CpInfo := .utf8 (stringToUtf16 s)
/-- a pool by its gaps: so many unusable entries, then the entry; so many at the end -/
def gap : Nat → List CpInfo → List CpInfo
  | 0, r => r
  | n + 1, r => .unusable :: gap n r
def poolList (es : List (Nat × CpInfo)) (last : Nat) : List CpInfo := es.foldr (fun e r => gap e.1 (e.2 :: r)) (gap last [])
def pool (es : List (Nat × CpInfo)) (last : Nat) : Array CpInfo := ⟨poolList es last⟩
def fileOf (pool : Array CpInfo) (this : Nat) (attrs : Array Attribute := #[]) (ms : Array MethodInfo := #[]) (fl : Nat := 33) (sup : Nat := 0) (ifs : Array Nat := #[]) (fds : Array FieldInfo := #[]) : ClassFile where
  minorVersion := 0
  majorVersion := 65
  constantPool := pool
  accessFlags := fl
  thisClass := this
  superClass := sup
  interfaces := ifs
  fields := fds
  methods := ms
  attributes := attrs
def plain (name : String) (sup : Option ClassId) : Class where
  name := name
  kind := .ordinary
  loader := none
  accessFlags := 33
  super := sup
  interfaces := #[]
  cf := none
  fields := #[]
  methods := #[]
  instanceTypes := #[]
  staticTypes := #[]
  resolved := #[]
  callSites := []
  init := .initialized
  statics := none
  mirror := none

def pool0 : Array CpInfo := pool [(5, u "<init>"), (0, u "()V"), (1, .class_ 10), (1, u "java/lang/Object")] 113

def k0c0 : Code := { maxStack := 0, maxLocals := 1, code := object_method_1_code, exceptionTable := #[], attributes := #[] }
def k0m0 : Method := { name := "<init>", desc := "()V", sig := { parameters := [], returnType := none }, accessFlags := 1, code := some k0c0 }
/-- java/lang/Object -/
def k0 : Class := { plain "java/lang/Object" none with
  accessFlags := 33
  interfaces := #[]
  cf := some (fileOf pool0 8 #[] #[{ accessFlags := 1, nameIndex := 5, descriptorIndex := 6, attributes := #[] }] 33 0 #[] #[])
  fields := #[]
  methods := #[k0m0]
  instanceTypes := #[]
  staticTypes := #[]
  resolved := Array.replicate 124 none
  statics := none }

def pool1 : Array CpInfo := pool [(2, .class_ 4), (1, u "java/lang/Object"), (0, u "<init>"), (0, u "()V"), (0, .integer 2147483647), (0, .methodref 9 10), (0, .class_ 11), (0, .nameAndType 12 13), (0, u "java/lang/Math"), (0, u "max"), (0, u "(II)I"), (2, .class_ 17), (0, u "com/example/tidewatch/tidewatch/core/ParallelismBounds"), (0, .methodref 16 19), (0, .nameAndType 5 20), (0, u "(II)V"), (0, .long 4294967295), (1, .long 18446744071562067968), (1, .methodref 16 26), (0, .nameAndType 27 28), (0, u "contains"), (0, u "(I)Z"), (0, .long 2147483647), (1, .class_ 32), (0, u "com/example/tidewatch/tidewatch/core/ParallelismBoundsContainsPinLaw"), (2, u "law"), (0, u "(IIII)Z")] 3

def k1m0 : Method := { name := "<init>", desc := "()V", sig := { parameters := [], returnType := none }, accessFlags := 2, code := none }
def k1c1 : Code := { maxStack := 4, maxLocals := 15, code := code, exceptionTable := #[], attributes := #[] }
def k1m1 : Method := { name := "law", desc := "(IIII)Z", sig := { parameters := [.int, .int, .int, .int], returnType := some .boolean }, accessFlags := 9, code := some k1c1 }
/-- com/example/tidewatch/tidewatch/core/ParallelismBoundsContainsPinLaw -/
def k1 : Class := { plain "com/example/tidewatch/tidewatch/core/ParallelismBoundsContainsPinLaw" (some 0) with
  accessFlags := 49
  interfaces := #[]
  cf := some (fileOf pool1 31 #[] #[{ accessFlags := 2, nameIndex := 5, descriptorIndex := 6, attributes := #[] }, { accessFlags := 9, nameIndex := 35, descriptorIndex := 36, attributes := #[] }] 49 2 #[] #[])
  fields := #[]
  methods := #[k1m0, k1m1]
  instanceTypes := #[]
  staticTypes := #[]
  resolved := Array.replicate 40 none
  statics := none }

def pool2 : Array CpInfo := pool [(1, .class_ 2), (0, u "java/lang/Math"), (1, .class_ 6), (1, u "java/lang/Object"), (0, u "<init>"), (0, u "()V"), (89, .class_ 100), (1, u "java/lang/Math$RandomNumberGeneratorHolder"), (71, u "negativeZeroFloatBits"), (0, u "J"), (2, u "negativeZeroDoubleBits"), (21, u "max"), (46, u "$assertionsDisabled"), (0, u "Z"), (88, u "(II)I"), (2, u "twoToTheDoubleScaleDown"), (0, u "D"), (4, u "twoToTheDoubleScaleUp"), (9, u "E"), (3, u "PI"), (2, u "TAU"), (2, u "DEGREES_TO_RADIANS"), (0, u "RADIANS_TO_DEGREES")] 94

def k2m0 : Method := { name := "<init>", desc := "()V", sig := { parameters := [], returnType := none }, accessFlags := 2, code := none }
def k2c1 : Code := { maxStack := 2, maxLocals := 2, code := jdk_29_method_65_code, exceptionTable := #[], attributes := #[] }
def k2m1 : Method := { name := "max", desc := "(II)I", sig := { parameters := [.int, .int], returnType := some .int }, accessFlags := 9, code := some k2c1 }
/-- java/lang/Math -/
def k2 : Class := { plain "java/lang/Math" (some 0) with
  accessFlags := 49
  interfaces := #[]
  cf := some (fileOf pool2 1 #[.nestMembers #[98]] #[{ accessFlags := 2, nameIndex := 7, descriptorIndex := 8, attributes := #[] }, { accessFlags := 9, nameIndex := 198, descriptorIndex := 335, attributes := #[] }] 49 4 #[] #[{ accessFlags := 25, nameIndex := 354, descriptorIndex := 339, attributes := #[] }, { accessFlags := 25, nameIndex := 358, descriptorIndex := 339, attributes := #[] }, { accessFlags := 25, nameIndex := 361, descriptorIndex := 339, attributes := #[] }, { accessFlags := 26, nameIndex := 364, descriptorIndex := 339, attributes := #[] }, { accessFlags := 26, nameIndex := 365, descriptorIndex := 339, attributes := #[] }, { accessFlags := 26, nameIndex := 172, descriptorIndex := 173, attributes := #[] }, { accessFlags := 26, nameIndex := 176, descriptorIndex := 173, attributes := #[] }, { accessFlags := 8, nameIndex := 344, descriptorIndex := 339, attributes := #[] }, { accessFlags := 8, nameIndex := 338, descriptorIndex := 339, attributes := #[] }, { accessFlags := 4120, nameIndex := 245, descriptorIndex := 246, attributes := #[] }])
  fields := #[{ name := "E", type := .double, accessFlags := 25, slot := 0, constantValue := 0 }, { name := "PI", type := .double, accessFlags := 25, slot := 1, constantValue := 0 }, { name := "TAU", type := .double, accessFlags := 25, slot := 2, constantValue := 0 }, { name := "DEGREES_TO_RADIANS", type := .double, accessFlags := 26, slot := 3, constantValue := 0 }, { name := "RADIANS_TO_DEGREES", type := .double, accessFlags := 26, slot := 4, constantValue := 0 }, { name := "negativeZeroFloatBits", type := .long, accessFlags := 26, slot := 5, constantValue := 0 }, { name := "negativeZeroDoubleBits", type := .long, accessFlags := 26, slot := 6, constantValue := 0 }, { name := "twoToTheDoubleScaleUp", type := .double, accessFlags := 8, slot := 7, constantValue := 0 }, { name := "twoToTheDoubleScaleDown", type := .double, accessFlags := 8, slot := 8, constantValue := 0 }, { name := "$assertionsDisabled", type := .boolean, accessFlags := 4120, slot := 9, constantValue := 0 }]
  methods := #[k2m0, k2m1]
  instanceTypes := #[]
  staticTypes := #[.double, .double, .double, .double, .double, .long, .long, .double, .double, .boolean]
  resolved := Array.replicate 460 none
  statics := none }

def pool3 : Array CpInfo := pool [(1, .methodref 2 3), (0, .class_ 4), (0, .nameAndType 5 6), (0, u "java/lang/Object"), (0, u "<init>"), (0, u "()V"), (0, .class_ 8), (0, u "java/lang/Record")] 13

def k3c0 : Code := { maxStack := 1, maxLocals := 1, code := jdk_30_method_1_code, exceptionTable := #[], attributes := #[] }
def k3m0 : Method := { name := "<init>", desc := "()V", sig := { parameters := [], returnType := none }, accessFlags := 4, code := some k3c0 }
/-- java/lang/Record -/
def k3 : Class := { plain "java/lang/Record" (some 0) with
  accessFlags := 1057
  interfaces := #[]
  cf := some (fileOf pool3 7 #[] #[{ accessFlags := 4, nameIndex := 5, descriptorIndex := 6, attributes := #[] }] 1057 2 #[] #[])
  fields := #[]
  methods := #[k3m0]
  instanceTypes := #[]
  staticTypes := #[]
  resolved := Array.replicate 22 none
  statics := none }

def pool4 : Array CpInfo := pool [(1, .methodref 2 3), (0, .class_ 4), (0, .nameAndType 5 6), (0, u "java/lang/Record"), (0, u "<init>"), (0, u "()V"), (0, .class_ 8), (0, u "com/example/tidewatch/tidewatch/core/ParallelismBounds"), (0, .string 10), (0, u "minParallelism"), (0, .methodref 12 13), (0, .class_ 14), (0, .nameAndType 15 16), (0, u "com/example/tidewatch/tidewatch/core/SettingChecks"), (0, u "atLeastOne"), (0, u "(Ljava/lang/String;J)V"), (3, u "maxParallelism"), (9, .fieldref 7 31), (0, .nameAndType 10 32), (0, u "I"), (0, .fieldref 7 34), (0, .nameAndType 20 32), (14, u "(II)V"), (15, u "MIN_PARALLELISM"), (0, u "Ljava/lang/String;"), (1, u "MAX_PARALLELISM"), (4, u "contains"), (0, u "(I)Z")] 35

def k4c0 : Code := { maxStack := 7, maxLocals := 3, code := prog_45_method_1_code, exceptionTable := #[], attributes := #[] }
def k4m0 : Method := { name := "<init>", desc := "(II)V", sig := { parameters := [.int, .int], returnType := none }, accessFlags := 1, code := some k4c0 }
def k4c1 : Code := { maxStack := 2, maxLocals := 2, code := prog_45_method_2_code, exceptionTable := #[], attributes := #[] }
def k4m1 : Method := { name := "contains", desc := "(I)Z", sig := { parameters := [.int], returnType := some .boolean }, accessFlags := 1, code := some k4c1 }
/-- com/example/tidewatch/tidewatch/core/ParallelismBounds -/
def k4 : Class := { plain "com/example/tidewatch/tidewatch/core/ParallelismBounds" (some 3) with
  accessFlags := 49
  interfaces := #[]
  cf := some (fileOf pool4 7 #[] #[{ accessFlags := 1, nameIndex := 5, descriptorIndex := 49, attributes := #[] }, { accessFlags := 1, nameIndex := 73, descriptorIndex := 74, attributes := #[] }] 49 2 #[] #[{ accessFlags := 18, nameIndex := 10, descriptorIndex := 32, attributes := #[] }, { accessFlags := 18, nameIndex := 20, descriptorIndex := 32, attributes := #[] }, { accessFlags := 25, nameIndex := 65, descriptorIndex := 66, attributes := #[] }, { accessFlags := 25, nameIndex := 68, descriptorIndex := 66, attributes := #[] }])
  fields := #[{ name := "minParallelism", type := .int, accessFlags := 18, slot := 0, constantValue := 0 }, { name := "maxParallelism", type := .int, accessFlags := 18, slot := 1, constantValue := 0 }, { name := "MIN_PARALLELISM", type := (.object "java/lang/String"), accessFlags := 25, slot := 0, constantValue := 0 }, { name := "MAX_PARALLELISM", type := (.object "java/lang/String"), accessFlags := 25, slot := 1, constantValue := 0 }]
  methods := #[k4m0, k4m1]
  instanceTypes := #[.int, .int]
  staticTypes := #[(.object "java/lang/String"), (.object "java/lang/String")]
  resolved := Array.replicate 110 none
  statics := none }

def pool5 : Array CpInfo := pool [(1, .class_ 2), (0, u "java/io/Serializable"), (0, .class_ 4), (0, u "java/lang/Object")] 2

/-- java/io/Serializable -/
def k5 : Class := { plain "java/io/Serializable" (some 0) with
  accessFlags := 1537
  interfaces := #[]
  cf := some (fileOf pool5 1 #[] #[] 1537 3 #[] #[])
  fields := #[]
  methods := #[]
  instanceTypes := #[]
  staticTypes := #[]
  resolved := Array.replicate 7 none
  statics := none }

def pool6 : Array CpInfo := pool [(1, .class_ 2), (0, u "java/lang/Comparable"), (0, .class_ 4), (0, u "java/lang/Object")] 7

/-- java/lang/Comparable -/
def k6 : Class := { plain "java/lang/Comparable" (some 0) with
  accessFlags := 1537
  interfaces := #[]
  cf := some (fileOf pool6 1 #[] #[] 1537 3 #[] #[])
  fields := #[]
  methods := #[]
  instanceTypes := #[]
  staticTypes := #[]
  resolved := Array.replicate 12 none
  statics := none }

def pool7 : Array CpInfo := pool [(2, .class_ 4), (1, u "java/lang/CharSequence"), (42, .class_ 48), (0, u "java/lang/CharSequence$1CodePointIterator"), (10, .class_ 60), (0, u "java/lang/CharSequence$1CharIterator"), (5, .class_ 67), (0, u "java/lang/Object")] 63

/-- java/lang/CharSequence -/
def k7 : Class := { plain "java/lang/CharSequence" (some 0) with
  accessFlags := 1537
  interfaces := #[]
  cf := some (fileOf pool7 2 #[.nestMembers #[47, 59]] #[] 1537 66 #[] #[])
  fields := #[]
  methods := #[]
  instanceTypes := #[]
  staticTypes := #[]
  resolved := Array.replicate 131 none
  statics := none }

def pool8 : Array CpInfo := pool [(1, .class_ 2), (0, u "java/lang/constant/Constable"), (0, .class_ 4), (0, u "java/lang/Object")] 6

/-- java/lang/constant/Constable -/
def k8 : Class := { plain "java/lang/constant/Constable" (some 0) with
  accessFlags := 1537
  interfaces := #[]
  cf := some (fileOf pool8 1 #[] #[] 1537 3 #[] #[])
  fields := #[]
  methods := #[]
  instanceTypes := #[]
  staticTypes := #[]
  resolved := Array.replicate 11 none
  statics := none }

def pool9 : Array CpInfo := pool [(1, .class_ 2), (0, u "java/lang/constant/ConstantDesc"), (0, .class_ 4), (0, u "java/lang/Object")] 32

/-- java/lang/constant/ConstantDesc -/
def k9 : Class := { plain "java/lang/constant/ConstantDesc" (some 0) with
  accessFlags := 1537
  interfaces := #[]
  cf := some (fileOf pool9 1 #[] #[] 1537 3 #[] #[])
  fields := #[]
  methods := #[]
  instanceTypes := #[]
  staticTypes := #[]
  resolved := Array.replicate 37 none
  statics := none }

def pool10 : Array CpInfo := pool [(2, .class_ 4), (1, u "java/lang/Object"), (0, u "<init>"), (0, u "()V"), (3, .class_ 12), (1, u "java/lang/String"), (0, u "value"), (0, u "[B"), (2, u "coder"), (0, u "B"), (2, u "hash"), (0, u "I"), (2, u "hashIsZero"), (0, u "Z"), (13, u "COMPACT_STRINGS"), (534, .class_ 576), (0, u "java/lang/CharSequence"), (22, u "CASE_INSENSITIVE_ORDER"), (0, u "Ljava/util/Comparator;"), (500, u "serialPersistentFields"), (0, u "[Ljava/io/ObjectStreamField;"), (0, .class_ 1104), (0, u "java/lang/String$CaseInsensitiveComparator"), (1, .class_ 1107), (0, u "java/io/Serializable"), (0, .class_ 1109), (0, u "java/lang/Comparable"), (0, .class_ 1111), (0, u "java/lang/constant/Constable"), (0, .class_ 1113), (0, u "java/lang/constant/ConstantDesc"), (2, u "serialVersionUID"), (0, u "J"), (3, u "REPL"), (0, u "C"), (2, u "LATIN1"), (1, u "UTF16")] 323

def k10m0 : Method := { name := "<init>", desc := "()V", sig := { parameters := [], returnType := none }, accessFlags := 1, code := none }
/-- java/lang/String -/
def k10 : Class := { plain "java/lang/String" (some 0) with
  accessFlags := 49
  interfaces := #[5, 6, 7, 8, 9]
  cf := some (fileOf pool10 10 #[.nestMembers #[1103]] #[{ accessFlags := 1, nameIndex := 5, descriptorIndex := 6, attributes := #[] }] 49 2 #[1106, 1108, 575, 1110, 1112] #[{ accessFlags := 18, nameIndex := 13, descriptorIndex := 14, attributes := #[] }, { accessFlags := 18, nameIndex := 17, descriptorIndex := 18, attributes := #[] }, { accessFlags := 2, nameIndex := 21, descriptorIndex := 22, attributes := #[] }, { accessFlags := 2, nameIndex := 25, descriptorIndex := 26, attributes := #[] }, { accessFlags := 26, nameIndex := 1116, descriptorIndex := 1117, attributes := #[] }, { accessFlags := 24, nameIndex := 40, descriptorIndex := 26, attributes := #[] }, { accessFlags := 26, nameIndex := 1101, descriptorIndex := 1102, attributes := #[] }, { accessFlags := 26, nameIndex := 1121, descriptorIndex := 1122, attributes := #[] }, { accessFlags := 25, nameIndex := 599, descriptorIndex := 600, attributes := #[] }, { accessFlags := 24, nameIndex := 1125, descriptorIndex := 18, attributes := #[] }, { accessFlags := 24, nameIndex := 1127, descriptorIndex := 18, attributes := #[] }])
  fields := #[{ name := "value", type := (.array .byte), accessFlags := 18, slot := 0, constantValue := 0 }, { name := "coder", type := .byte, accessFlags := 18, slot := 1, constantValue := 0 }, { name := "hash", type := .int, accessFlags := 2, slot := 2, constantValue := 0 }, { name := "hashIsZero", type := .boolean, accessFlags := 2, slot := 3, constantValue := 0 }, { name := "serialVersionUID", type := .long, accessFlags := 26, slot := 0, constantValue := 0 }, { name := "COMPACT_STRINGS", type := .boolean, accessFlags := 24, slot := 1, constantValue := 0 }, { name := "serialPersistentFields", type := (.array (.object "java/io/ObjectStreamField")), accessFlags := 26, slot := 2, constantValue := 0 }, { name := "REPL", type := .char, accessFlags := 26, slot := 3, constantValue := 0 }, { name := "CASE_INSENSITIVE_ORDER", type := (.object "java/util/Comparator"), accessFlags := 25, slot := 4, constantValue := 0 }, { name := "LATIN1", type := .byte, accessFlags := 24, slot := 5, constantValue := 0 }, { name := "UTF16", type := .byte, accessFlags := 24, slot := 6, constantValue := 0 }]
  methods := #[k10m0]
  instanceTypes := #[(.array .byte), .byte, .int, .boolean]
  staticTypes := #[.long, .boolean, (.array (.object "java/io/ObjectStreamField")), .char, (.object "java/util/Comparator"), .byte, .byte]
  resolved := Array.replicate 1451 none
  statics := none }

def pool11 : Array CpInfo := pool [(2, .class_ 4), (1, u "java/lang/Object"), (0, u "<init>"), (0, u "()V"), (40, .class_ 49), (1, u "com/example/tidewatch/tidewatch/core/SettingChecks"), (8, u "atLeastOne"), (0, u "(Ljava/lang/String;J)V")] 43

def k11m0 : Method := { name := "<init>", desc := "()V", sig := { parameters := [], returnType := none }, accessFlags := 2, code := none }
def k11c1 : Code := { maxStack := 5, maxLocals := 3, code := prog_59_method_2_code, exceptionTable := #[], attributes := #[] }
def k11m1 : Method := { name := "atLeastOne", desc := "(Ljava/lang/String;J)V", sig := { parameters := [(.object "java/lang/String"), .long], returnType := none }, accessFlags := 9, code := some k11c1 }
/-- com/example/tidewatch/tidewatch/core/SettingChecks -/
def k11 : Class := { plain "com/example/tidewatch/tidewatch/core/SettingChecks" (some 0) with
  accessFlags := 49
  interfaces := #[]
  cf := some (fileOf pool11 47 #[] #[{ accessFlags := 2, nameIndex := 5, descriptorIndex := 6, attributes := #[] }, { accessFlags := 9, nameIndex := 58, descriptorIndex := 59, attributes := #[] }] 49 2 #[] #[])
  fields := #[]
  methods := #[k11m0, k11m1]
  instanceTypes := #[]
  staticTypes := #[]
  resolved := Array.replicate 103 none
  statics := none }

def pool12 : Array CpInfo := pool [(1, u "java/lang/Cloneable"), (0, .class_ 1), (0, u "java/lang/Object"), (0, .class_ 3)] 3

/-- java/lang/Cloneable -/
def k12 : Class := { plain "java/lang/Cloneable" (some 0) with
  accessFlags := 1537
  interfaces := #[]
  cf := some (fileOf pool12 2 #[] #[] 1537 4 #[] #[])
  fields := #[]
  methods := #[]
  instanceTypes := #[]
  staticTypes := #[]
  resolved := Array.replicate 8 none
  statics := none }

/-- the primitive byte -/
def k13 : Class := { plain "byte" none with kind := .primitive 'B', accessFlags := 0x411 }
/-- [B -/
def k14 : Class := { plain "[B" (some 0) with kind := .array 13 .byte, interfaces := #[12, 5], accessFlags := 1041 }

/-- the primitive int -/
def k15 : Class := { plain "int" none with kind := .primitive 'I', accessFlags := 0x411 }
/-- [I -/
def k16 : Class := { plain "[I" (some 0) with kind := .array 15 .int, interfaces := #[12, 5], accessFlags := 1041 }

def heap : Heap := #[]
def classes : Array Class := #[k0, k1, k2, k3, k4, k5, k6, k7, k8, k9, k10, k11, k12, k13, k14, k15, k16]
def interned : List (Array UInt16 × Addr) := []
def slotsUsed : Nat := 0
def theMethod : MethodId := ⟨1, 1⟩
def args0 : Array Value := #[.int 5, .int 9, .int 1, .int 7]
def aboutOver (below : List Frame) : State where
  vm := { classes := classes, interned := interned.toArray }
  heap := heap
  slotsUsed := slotsUsed
  threads := #[{ frames := .invoking theMethod args0 :: below }]
def below0 : List Frame := [.native { method := ⟨0, 0⟩, args := #[] }]
def about1 : State := aboutOver below0
def p0 : Program := .bare "" "" ""
def e0 : Env := launch0.env 0 0 0
theorem w_frames : about1.frames = Frame.invoking theMethod args0 :: below0 := rfl
set_option maxRecDepth 65536 in
theorem w_args : argsFit about1.vm theMethod args0 = true := by decide +kernel
set_option maxRecDepth 65536 in
theorem w_heap : heapFits about1 = true := by decide +kernel
set_option maxRecDepth 65536 in
theorem w_runnable : about1.curStatus? = some .runnable := by decide +kernel
set_option maxRecDepth 65536 in
theorem w_alone : about1.alone = true := by decide +kernel
set_option maxRecDepth 65536 in
theorem w_named : about1.methodNamed? x = some theMethod := by decide +kernel
set_option maxRecDepth 65536 in
theorem w_hears : about1.hears theMethod below0 = true := by decide +kernel
set_option maxRecDepth 65536 in
theorem w_ripe : about1.ripe theMethod args0 below0 = true := by decide +kernel
theorem w_running : about1.status = .running := rfl
set_option maxRecDepth 65536 in
theorem w_room : about1.hasRoom e0.platform room_1 = true :=
  launch0.hasRoom_least _ room_1 (by decide +kernel) (by decide +kernel) (by decide +kernel) (by decide +kernel) (by decide +kernel) (by decide +kernel)
theorem allAtoms_all (ts : List Jvm.Cond) (a : Array Jvm.Value) (st : Jvm.State) : (allAtoms ts).before a st = ts.all (fun c => c.before a st) := by
  induction ts with
  | nil => rfl
  | cons c t ih =>
    show (Jvm.Cond.and c (allAtoms t)).before a st = _
    rw [Jvm.Cond.before_and, ih, List.all_cons]
def words1 : List Jvm.Cond := Jvm.Cond.code x code maxLocals ret :: tables_1
/-- a 'code' word, met by the world's own term for the bytes: nothing is compared byte by byte -/
theorem code_word {y : MethodName} {bytes : ByteArray} {mx : Nat} {rt : Option FieldType} {a : Array Value} {s : State} {m : MethodId} {meth : Method} {c : Code} (h1 : s.methodNamed? y = some m) (h2 : s.vm.method? m = some meth) (h3 : meth.code = some c) (h4 : c.code = bytes)
    (h5 : (c.maxLocals == mx && c.exceptionTable.isEmpty && decide (c.maxStack ≤ mostOperands) && decide (meth.sig.returnType = rt) && !meth.locks && decide (parseMethodDescriptor y.desc = some meth.sig)) = true) : (Jvm.Cond.code y bytes mx rt).before a s = true := by
  simp only [Bool.and_eq_true, beq_iff_eq, Bool.not_eq_true', decide_eq_true_eq] at h5
  obtain ⟨⟨⟨⟨⟨g1, g2⟩, g3⟩, g4⟩, g5⟩, g6⟩ := h5
  simp [Cond.before, Cond.holds, Cond.value, h1, h2, h3, h4, g1, g2, g3, g4, g5, g6]
def isCode : Jvm.Cond → Bool
  | .code _ _ _ _ => true
  | _ => false
theorem all_split {L : List Jvm.Cond} {P : Jvm.Cond → Bool} (h1 : L.all (fun c => isCode c || P c) = true) (h2 : ∀ c ∈ L.filter isCode, P c = true) : L.all P = true := by
  refine List.all_eq_true.mpr fun c hc => ?_
  have h := List.all_eq_true.mp h1 c hc
  rcases Bool.eq_false_or_eq_true (isCode c) with hi | hi
  · exact h2 c (List.mem_filter.mpr ⟨hc, hi⟩)
  · simpa [hi] using h
set_option maxRecDepth 65536 in
theorem w_c0 : (Jvm.Cond.code x code maxLocals ret).before args0 about1 = true := code_word (m := ⟨1, 1⟩) (meth := k1m1) (c := k1c1) (by decide +kernel) rfl rfl rfl (by decide +kernel)
set_option maxRecDepth 65536 in
theorem w_c1 : (Jvm.Cond.code ({ cls := "java/lang/Math", name := "max", desc := "(II)I" } : Jvm.MethodName) jdk_29_method_65_code (2 : Nat) (Option.some Jvm.ClassFile.FieldType.int)).before args0 about1 = true := code_word (m := ⟨2, 1⟩) (meth := k2m1) (c := k2c1) (by decide +kernel) rfl rfl rfl (by decide +kernel)
set_option maxRecDepth 65536 in
theorem w_c2 : (Jvm.Cond.code ({ cls := "com/example/tidewatch/tidewatch/core/ParallelismBounds", name := "<init>", desc := "(II)V" } : Jvm.MethodName) prog_45_method_1_code (3 : Nat) (Option.none : Option Jvm.ClassFile.FieldType)).before args0 about1 = true := code_word (m := ⟨4, 0⟩) (meth := k4m0) (c := k4c0) (by decide +kernel) rfl rfl rfl (by decide +kernel)
set_option maxRecDepth 65536 in
theorem w_c3 : (Jvm.Cond.code ({ cls := "java/lang/Record", name := "<init>", desc := "()V" } : Jvm.MethodName) jdk_30_method_1_code (1 : Nat) (Option.none : Option Jvm.ClassFile.FieldType)).before args0 about1 = true := code_word (m := ⟨3, 0⟩) (meth := k3m0) (c := k3c0) (by decide +kernel) rfl rfl rfl (by decide +kernel)
set_option maxRecDepth 65536 in
theorem w_c4 : (Jvm.Cond.code ({ cls := "java/lang/Object", name := "<init>", desc := "()V" } : Jvm.MethodName) object_method_1_code (1 : Nat) (Option.none : Option Jvm.ClassFile.FieldType)).before args0 about1 = true := code_word (m := ⟨0, 0⟩) (meth := k0m0) (c := k0c0) (by decide +kernel) rfl rfl rfl (by decide +kernel)
set_option maxRecDepth 65536 in
theorem w_c5 : (Jvm.Cond.code ({ cls := "com/example/tidewatch/tidewatch/core/SettingChecks", name := "atLeastOne", desc := "(Ljava/lang/String;J)V" } : Jvm.MethodName) prog_59_method_2_code (3 : Nat) (Option.none : Option Jvm.ClassFile.FieldType)).before args0 about1 = true := code_word (m := ⟨11, 1⟩) (meth := k11m1) (c := k11c1) (by decide +kernel) rfl rfl rfl (by decide +kernel)
set_option maxRecDepth 65536 in
theorem w_c6 : (Jvm.Cond.code ({ cls := "com/example/tidewatch/tidewatch/core/ParallelismBounds", name := "contains", desc := "(I)Z" } : Jvm.MethodName) prog_45_method_2_code (2 : Nat) (Option.some Jvm.ClassFile.FieldType.boolean)).before args0 about1 = true := code_word (m := ⟨4, 1⟩) (meth := k4m1) (c := k4c1) (by decide +kernel) rfl rfl rfl (by decide +kernel)
def codes1 : List Jvm.Cond := [Jvm.Cond.code x code maxLocals ret, Jvm.Cond.code ({ cls := "java/lang/Math", name := "max", desc := "(II)I" } : Jvm.MethodName) jdk_29_method_65_code (2 : Nat) (Option.some Jvm.ClassFile.FieldType.int), Jvm.Cond.code ({ cls := "com/example/tidewatch/tidewatch/core/ParallelismBounds", name := "<init>", desc := "(II)V" } : Jvm.MethodName) prog_45_method_1_code (3 : Nat) (Option.none : Option Jvm.ClassFile.FieldType), Jvm.Cond.code ({ cls := "java/lang/Record", name := "<init>", desc := "()V" } : Jvm.MethodName) jdk_30_method_1_code (1 : Nat) (Option.none : Option Jvm.ClassFile.FieldType), Jvm.Cond.code ({ cls := "java/lang/Object", name := "<init>", desc := "()V" } : Jvm.MethodName) object_method_1_code (1 : Nat) (Option.none : Option Jvm.ClassFile.FieldType), Jvm.Cond.code ({ cls := "com/example/tidewatch/tidewatch/core/SettingChecks", name := "atLeastOne", desc := "(Ljava/lang/String;J)V" } : Jvm.MethodName) prog_59_method_2_code (3 : Nat) (Option.none : Option Jvm.ClassFile.FieldType), Jvm.Cond.code ({ cls := "com/example/tidewatch/tidewatch/core/ParallelismBounds", name := "contains", desc := "(I)Z" } : Jvm.MethodName) prog_45_method_2_code (2 : Nat) (Option.some Jvm.ClassFile.FieldType.boolean)]
set_option maxRecDepth 65536 in
theorem codes_eq : words1.filter isCode = codes1 := rfl
theorem w_codes : ∀ c ∈ words1.filter isCode, c.before args0 about1 = true := by
  rw [codes_eq]
  intro c hc
  simp only [codes1, List.mem_cons, List.not_mem_nil, or_false] at hc
  rcases hc with rfl | rfl | rfl | rfl | rfl | rfl | rfl
  · exact w_c0
  · exact w_c1
  · exact w_c2
  · exact w_c3
  · exact w_c4
  · exact w_c5
  · exact w_c6
set_option maxRecDepth 65536 in
theorem w_t1 : (words1.take 24).all (fun c => isCode c || c.before args0 about1) = true := by decide +kernel
set_option maxRecDepth 65536 in
theorem w_t2 : (words1.drop 24).all (fun c => isCode c || c.before args0 about1) = true := by decide +kernel
theorem w_tables : (allAtoms (Jvm.Cond.code x code maxLocals ret :: tables_1)).before args0 about1 = true := by
  rw [allAtoms_all]
  show words1.all (fun c => c.before args0 about1) = true
  refine all_split ?_ w_codes
  rw [← List.take_append_drop 24 words1, List.all_append, w_t1, w_t2]
  rfl
set_option maxRecDepth 65536 in
theorem w_case : (Jvm.Cond.and given_1 narrow_1).before args0 about1 = true := by decide +kernel
theorem w_applies : (headSpec (Jvm.Cond.code x code maxLocals ret :: tables_1) room_1).applies x e0.platform about1 = true :=
  (Spec.applies_iff w_frames).mpr ⟨w_running, w_runnable, w_alone, w_named, w_hears, w_ripe, w_room, w_tables⟩
theorem atStart : AtStart classFile x code maxLocals ret World_1 tables_1 room_1 Calls_1 rest_1 Pre_1 launch0 p0 e0 about1 theMethod args0 below0 :=
  ⟨lists_1, trivial, launch0.admits_env _ _ _, launch0.least_env, fairChoices_fair.cas, fairChoices_fair.clock, w_frames, w_args, w_heap, w_applies, trivial, trivial, w_case⟩
end start1
theorem witness_1 : WitnessClaimed_1 := ⟨start1.p0, start1.e0, start1.about1, start1.theMethod, start1.args0, start1.below0, start1.atStart⟩
end Jvm.Pilot.@@N@@
